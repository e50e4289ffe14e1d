import PyProof.Rows.All
import Wide.All
import OpenK.AllK
import Wide.FinOn
import KE.KSuper
import Lean
import PySem.Challenge.RW_wr0042_02
set_option Elab.async false
set_option maxRecDepth 100000
section
open PySem PySem.W PyProof.Rows PySem.Calls
set_option genInjectivity false
set_option genSizeOfSpec false
namespace Mine
inductive PV where
  | none
  | bool (b : Bool)
  | int (i : Int)
  | str (s : List Nat)
  | ref (l : Nat)
  | tup (vs : List PV)
  | rng (a b c : Int)
  | raw (v : Value)
  | flist (vs : List PV)
inductive PO where
  | list (xs : List PV)
  | dict (es : List (List Nat × PV))
  | acc (n : Int) (xs : List PV)
  | tab (P : Nat)
  | gone
noncomputable abbrev Led := List (Addr × Obj)
structure Wd where
  mu : List Addr
  T : Led
noncomputable def Wd.le (W W' : Wd) : Prop := (∃ e, W'.mu = W.mu ++ e) ∧ ∀ p ∈ W.T, p ∈ W'.T
theorem Wd.le_refl (W : Wd) : W.le W := ⟨⟨[], (List.append_nil _).symm⟩, fun _ h => h⟩
theorem Wd.le_trans {A B C : Wd} (x : A.le B) (y : B.le C) : A.le C := by
  obtain ⟨⟨e, h⟩, t⟩ := x
  obtain ⟨⟨f, h'⟩, t'⟩ := y
  exact ⟨⟨e ++ f, by rw [h', h, List.append_assoc]⟩, fun p hp => t' p (t p hp)⟩
noncomputable def mkS' (s : List Nat) : Str := ⟨s.toArray⟩
@[simp] theorem mkS'_cps (s : List Nat) : (mkS' s).cps.toList = s := rfl
@[simp] theorem mkS'_len (s : List Nat) : (mkS' s).length = s.length := by simp [mkS', Str.length]
noncomputable def tupO (xs : List Value) : Obj := { cls := .type "tuple", data := .seq xs.toArray }
noncomputable def listO (xs : List Value) (n : Nat) : Obj := { cls := .type "list", data := .seq xs.toArray n }
noncomputable def rngO (a b c : Int) (t u v : Tok) : Obj := { cls := .type "range", data := .fields #[.int a t, .int b u, .int c v] }
mutual
inductive VRel (W : Wd) : PV → Value → Prop
  | none : VRel W .none .none
  | bool (b : Bool) : VRel W (.bool b) (.bool b)
  | int (i : Int) (t : Tok) : VRel W (.int i) (.int i t)
  | str (s : List Nat) (t : Tok) : VRel W (.str s) (.str (mkS' s) t)
  | ref (l : Nat) (a : Addr) : W.mu[l]? = some a → VRel W (.ref l) (.ref a)
  | tup (vs : List PV) (xs : List Value) (a : Addr) : (a, tupO xs) ∈ W.T → VRels W vs xs → VRel W (.tup vs) (.ref a)
  | rng (a b c : Int) (t u v : Tok) (x : Addr) : (x, rngO a b c t u v) ∈ W.T → VRel W (.rng a b c) (.ref x)
  | raw (v : Value) : VRel W (.raw v) v
  | flist (vs : List PV) (xs : List Value) (n : Nat) (a : Addr) : (a, listO xs n) ∈ W.T → VRels W vs xs → VRel W (.flist vs) (.ref a)
inductive VRels (W : Wd) : List PV → List Value → Prop
  | nil : VRels W [] []
  | cons {v : PV} {x : Value} {vs : List PV} {xs : List Value} : VRel W v x → VRels W vs xs → VRels W (v :: vs) (x :: xs)
end
theorem VRel.noneC {W : Wd} {motive : (x : Value) → VRel W .none x → Prop} (none : motive .none .none) {x : Value} (h : VRel W .none x) : motive x h := by cases h; exact none
theorem VRel.boolC {W : Wd} {b : Bool} {motive : (x : Value) → VRel W (.bool b) x → Prop} (bool : motive (.bool b) (.bool b)) {x : Value} (h : VRel W (.bool b) x) : motive x h := by cases h; exact bool
theorem VRel.intC {W : Wd} {i : Int} {motive : (x : Value) → VRel W (.int i) x → Prop} (int : ∀ t, motive (.int i t) (.int i t)) {x : Value} (h : VRel W (.int i) x) : motive x h := by cases h; exact int _
theorem VRel.strC {W : Wd} {s : List Nat} {motive : (x : Value) → VRel W (.str s) x → Prop} (str : ∀ t, motive (.str (mkS' s) t) (.str s t)) {x : Value} (h : VRel W (.str s) x) : motive x h := by cases h; exact str _
theorem VRel.refC {W : Wd} {l : Nat} {motive : (x : Value) → VRel W (.ref l) x → Prop} (ref : ∀ a (e : W.mu[l]? = some a), motive (.ref a) (.ref l a e)) {x : Value} (h : VRel W (.ref l) x) : motive x h := by cases h; apply ref <;> assumption
theorem VRel.tupC {W : Wd} {vs : List PV} {motive : (x : Value) → VRel W (.tup vs) x → Prop} (tup : ∀ xs a (e : (a, tupO xs) ∈ W.T) (r : VRels W vs xs), motive (.ref a) (.tup vs xs a e r)) {x : Value} (h : VRel W (.tup vs) x) : motive x h := by cases h; apply tup <;> assumption
theorem VRel.rawC {W : Wd} {v : Value} {motive : (x : Value) → VRel W (.raw v) x → Prop} (raw : motive v (.raw v)) {x : Value} (h : VRel W (.raw v) x) : motive x h := by cases h; exact raw
theorem VRel.flistC {W : Wd} {vs : List PV} {motive : (x : Value) → VRel W (.flist vs) x → Prop} (flist : ∀ xs n a (e : (a, listO xs n) ∈ W.T) (r : VRels W vs xs), motive (.ref a) (.flist vs xs n a e r)) {x : Value} (h : VRel W (.flist vs) x) : motive x h := by cases h; apply flist <;> assumption
theorem VRels.nilC {W : Wd} {motive : (xs : List Value) → VRels W [] xs → Prop} (nil : motive [] .nil) {xs : List Value} (h : VRels W [] xs) : motive xs h := by cases h; exact nil
theorem VRels.consC {W : Wd} {v : PV} {vs : List PV} {motive : (xs : List Value) → VRels W (v :: vs) xs → Prop} (cons : ∀ {x : Value} {xs : List Value} (r : VRel W v x) (rs : VRels W vs xs), motive (x :: xs) (.cons r rs)) {xs : List Value} (h : VRels W (v :: vs) xs) : motive xs h := by cases h; apply cons <;> assumption
theorem someC {α β : Type} {a : α} {b : β} {motive : (r : α) → (s : β) → some (a, b) = some (r, s) → Prop} (refl : motive a b rfl) {r : α} {s : β} (e : some (a, b) = some (r, s)) : motive r s e := by cases e; exact refl
theorem some1C {α : Type} {a : α} {motive : (r : α) → some a = some r → Prop} (refl : motive a rfl) {r : α} (e : some a = some r) : motive r e := by cases e; exact refl
theorem noneE {α : Type} {a : α} {P : Prop} (e : Option.none = some a) : P := by cases e
theorem natC {motive : Nat → Prop} (zero : motive 0) (succ : ∀ k, motive (k + 1)) (n : Nat) : motive n := by
  cases n
  · exact zero
  · exact succ _
theorem boolC {motive : Bool → Prop} (false : motive .false) (true : motive .true) (b : Bool) : motive b := by
  cases b
  · exact false
  · exact true
theorem optC {α : Type} {motive : Option α → Prop} (none : motive .none) (some : ∀ a, motive (.some a)) (o : Option α) : motive o := by
  cases o
  · exact none
  · exact some _
theorem listC {α : Type} {motive : List α → Prop} (nil : motive []) (cons : ∀ a l, motive (a :: l)) (l : List α) : motive l := by
  cases l
  · exact nil
  · exact cons _ _
theorem mu_mono {W W' : Wd} (h : W.le W') {l : Nat} {a : Addr} (e : W.mu[l]? = some a) : W'.mu[l]? = some a := by
  obtain ⟨⟨f, h⟩, _⟩ := h
  rw [h, List.getElem?_append_left]
  · exact e
  · exact (List.getElem?_eq_some_iff.mp e).1
mutual
theorem VRel.mono {W W' : Wd} (h : W.le W') : ∀ {v : PV} {x : Value}, VRel W v x → VRel W' v x
  | _, _, .none => .none
  | _, _, .bool b => .bool b
  | _, _, .int i t => .int i t
  | _, _, .str s t => .str s t
  | _, _, .ref l a e => .ref l a (mu_mono h e)
  | _, _, .tup vs xs a e r => .tup vs xs a (h.2 _ e) (VRels.mono h r)
  | _, _, .rng a b c t u v x e => .rng a b c t u v x (h.2 _ e)
  | _, _, .raw v => .raw v
  | _, _, .flist vs xs n a e r => .flist vs xs n a (h.2 _ e) (VRels.mono h r)
theorem VRels.mono {W W' : Wd} (h : W.le W') : ∀ {vs : List PV} {xs : List Value}, VRels W vs xs → VRels W' vs xs
  | _, _, .nil => .nil
  | _, _, .cons r rs => .cons (VRel.mono h r) (VRels.mono h rs)
end
theorem VRels.ind {W : Wd} {motive : (vs : List PV) → (xs : List Value) → VRels W vs xs → Prop} (nil : motive [] [] .nil) (cons : ∀ {v x vs xs} (r : VRel W v x) (rs : VRels W vs xs), motive vs xs rs → motive (v :: vs) (x :: xs) (.cons r rs)) : ∀ {vs xs} (h : VRels W vs xs), motive vs xs h
  | _, _, .nil => nil
  | _, _, .cons r rs => cons r rs (VRels.ind nil cons rs)
theorem VRels.length {W : Wd} {vs : List PV} {xs : List Value} (r : VRels W vs xs) : vs.length = xs.length := by
  induction r using VRels.ind with
  | nil => rfl
  | cons _ _ ih => rw [List.length_cons, List.length_cons, ih]
theorem VRels.get {W : Wd} {vs : List PV} {xs : List Value} {i : Nat} {v : PV} (r : VRels W vs xs) (e : vs[i]? = some v) : ∃ x, xs[i]? = some x ∧ VRel W v x := by
  induction r using VRels.ind generalizing i with
  | nil => cases e
  | cons r rs ih => induction i using natC with
    | zero => induction e using some1C; exact ⟨_, rfl, r⟩
    | succ i => exact ih (i := i) e
theorem VRels.snoc {W : Wd} {vs : List PV} {xs : List Value} {v : PV} {x : Value} (r : VRels W vs xs) (q : VRel W v x) : VRels W (vs ++ [v]) (xs ++ [x]) := by
  induction r using VRels.ind with
  | nil => exact .cons q .nil
  | cons r _ ih => exact .cons r ih
theorem VRels.set {W : Wd} {vs : List PV} {xs : List Value} {i : Nat} {v : PV} {x : Value} (r : VRels W vs xs) (q : VRel W v x) : VRels W (vs.set i v) (xs.set i x) := by
  induction r using VRels.ind generalizing i with
  | nil => exact .nil
  | cons r rs ih => induction i using natC with
    | zero => exact .cons q rs
    | succ i => exact .cons r (ih (i := i))
theorem VRels.app {W : Wd} {vs ws : List PV} {xs ys : List Value} (r : VRels W vs xs) (q : VRels W ws ys) : VRels W (vs ++ ws) (xs ++ ys) := by
  induction r using VRels.ind with
  | nil => exact q
  | cons r _ ih => exact .cons r ih
theorem VRels.take {W : Wd} {vs : List PV} {xs : List Value} {i : Nat} (r : VRels W vs xs) : VRels W (vs.take i) (xs.take i) := by
  induction r using VRels.ind generalizing i with
  | nil => rw [List.take_nil, List.take_nil]; exact .nil
  | cons r rs ih => induction i using natC with
    | zero => exact .nil
    | succ i => exact .cons r (ih (i := i))
structure Acc where
  C : Addr
  P : Params
  p : Program
  w : World
noncomputable def accD (P : Params) (n : Int) (t u : Tok) : Obj := { cls := .type "dict", data := .dict #[⟨PyData.keyHash P (Str.ofString "_initial_size"), .str (Str.ofString "_initial_size") t, .int n u⟩] 1 }
noncomputable def accO (C dx : Addr) (xs : List Value) (e : Nat) : Obj := { cls := .ref C, dict := some dx, data := .seq xs.toArray e }
inductive DRel (W : Wd) : List (List Nat × PV) → List (Str × Value) → Prop
  | nil : DRel W [] []
  | cons {k : List Nat} {v : PV} {x : Value} {es : List (List Nat × PV)} {ds : List (Str × Value)} : VRel W v x → DRel W es ds → DRel W ((k, v) :: es) ((mkS' k, x) :: ds)
noncomputable def DictO (p : Program) (w : World) (o : Obj) (kvs : List (Str × Value)) : Prop := ∃ es ep, o.ExactDict ∧ o.data = .dict es ep ∧ KeysOf (strKind p w) es ∧ Pairs (strKind p w) es.toList kvs ∧ (kvs.map (·.1)).Nodup
noncomputable def tabO (vs : List Value) : Obj := { cls := .none, data := .fields vs.toArray }
inductive ORel (A : Acc) (W : Wd) : PO → Addr → Obj → Prop
  | list {a : Addr} (xs : List PV) (vs : List Value) (n : Nat) : VRels W xs vs → ORel A W (.list xs) a (listO vs n)
  | dict {a : Addr} (es : List (List Nat × PV)) (ds : List (Str × Value)) (o : Obj) : DRel W es ds → DictO A.p A.w o ds → ORel A W (.dict es) a o
  | acc {a : Addr} (n : Int) (xs : List PV) (vs : List Value) (e : Nat) (dx : Addr) (t u : Tok) : VRels W xs vs → (dx, accD A.P n t u) ∈ W.T → ORel A W (.acc n xs) a (accO A.C dx vs e)
  | tab (P : Nat) (vs : List Value) : TriplesOk vs → ORel A W (.tab P) P (tabO vs)
  | gone {a : Addr} {o : Obj} : o.isFreed = false → ORel A W .gone a o
theorem ORel.listC {A : Acc} {W : Wd} {xs : List PV} {a : Addr} {motive : (o : Obj) → ORel A W (.list xs) a o → Prop} (list : ∀ vs n (r : VRels W xs vs), motive (listO vs n) (.list xs vs n r)) {o : Obj} (h : ORel A W (.list xs) a o) : motive o h := by cases h; apply list <;> assumption
theorem ORel.dictC {A : Acc} {W : Wd} {es : List (List Nat × PV)} {a : Addr} {o : Obj} {motive : ORel A W (.dict es) a o → Prop} (dict : ∀ ds (r : DRel W es ds) (d : DictO A.p A.w o ds), motive (.dict es ds o r d)) (h : ORel A W (.dict es) a o) : motive h := by cases h; apply dict <;> assumption
theorem ORel.accC {A : Acc} {W : Wd} {n : Int} {xs : List PV} {a : Addr} {motive : (o : Obj) → ORel A W (.acc n xs) a o → Prop} (acc : ∀ vs e dx t u (r : VRels W xs vs) (m : (dx, accD A.P n t u) ∈ W.T), motive (accO A.C dx vs e) (.acc n xs vs e dx t u r m)) {o : Obj} (h : ORel A W (.acc n xs) a o) : motive o h := by cases h; apply acc <;> assumption
theorem DRel.mono {W W' : Wd} (h : W.le W') {es : List (List Nat × PV)} {ds : List (Str × Value)} (r : DRel W es ds) : DRel W' es ds := by
  induction r with
  | nil => exact .nil
  | cons r _ ih => exact .cons (r.mono h) ih
theorem ORel.mono {A : Acc} {W W' : Wd} (h : W.le W') {po : PO} {a : Addr} {o : Obj} (r : ORel A W po a o) : ORel A W' po a o := by
  cases r with
  | list xs vs n r => exact .list xs vs n (r.mono h)
  | dict es ds o r d => exact .dict es ds o (r.mono h) d
  | acc n xs vs e dx t u r m => exact .acc n xs vs e dx t u (r.mono h) (h.2 _ m)
  | tab _ vs h => exact .tab _ vs h
  | gone h => exact .gone h
theorem ORel.live {A : Acc} {W : Wd} {po : PO} {a : Addr} {o : Obj} (r : ORel A W po a o) : o.isFreed = false := by
  cases r with
  | dict es ds o r d => obtain ⟨_, _, _, hd, _⟩ := d; exact Obj.isFreed_of_dict hd
  | gone h => exact h
  | _ => rfl
inductive MRel (A : Acc) (W : Wd) : List PO → Led → Prop
  | nil : MRel A W [] []
  | cons {po : PO} {p : Addr × Obj} {ps : List PO} {l : Led} : ORel A W po p.1 p.2 → MRel A W ps l → MRel A W (po :: ps) (p :: l)
theorem MRel.mono {A : Acc} {W W' : Wd} (h : W.le W') {ps : List PO} {l : Led} (r : MRel A W ps l) : MRel A W' ps l := by
  induction r with
  | nil => exact .nil
  | cons r _ ih => exact .cons (r.mono h) ih
theorem MRel.length {A : Acc} {W : Wd} {ps : List PO} {l : Led} (r : MRel A W ps l) : ps.length = l.length := by
  induction r with
  | nil => rfl
  | cons _ _ ih => rw [List.length_cons, List.length_cons, ih]
theorem MRel.split {A : Acc} {W : Wd} {ps : List PO} {l : Led} {i : Nat} {po : PO} (r : MRel A W ps l) (e : ps[i]? = some po) :
    ∃ l₁ a o l₂, l = l₁ ++ (a, o) :: l₂ ∧ l₁.length = i ∧ ORel A W po a o ∧ ∀ po' o', ORel A W po' a o' → MRel A W (ps.set i po') (l₁ ++ (a, o') :: l₂) := by
  induction r generalizing i with
  | nil => cases e
  | @cons q p ps l r rs ih =>
    induction i using natC with
    | zero => induction e using some1C; exact ⟨[], p.1, p.2, l, rfl, rfl, r, fun po' o' r' => .cons r' rs⟩
    | succ i =>
      obtain ⟨l₁, a, o, l₂, h, hl, ro, k⟩ := ih (i := i) e
      exact ⟨p :: l₁, a, o, l₂, congrArg (p :: ·) h, congrArg (· + 1) hl, ro, fun po' o' r' => .cons r (k po' o' r')⟩
theorem MRel.gone {A : Acc} {W : Wd} {ps : List PO} {l : Led} {i : Nat} (r : MRel A W ps l) : MRel A W (ps.set i .gone) l := by
  induction r generalizing i with
  | nil => exact .nil
  | cons r rs ih =>
    induction i using natC with
    | zero => exact .cons (.gone r.live) rs
    | succ i => exact .cons r (ih (i := i))
theorem MRel.snoc {A : Acc} {W : Wd} {ps : List PO} {l : Led} {po : PO} {p : Addr × Obj} (r : MRel A W ps l) (q : ORel A W po p.1 p.2) : MRel A W (ps ++ [po]) (l ++ [p]) := by
  induction r with
  | nil => exact .cons q .nil
  | cons r _ ih => exact .cons r ih
structure PS where
  vars : List (Option PV)
  mem : List PO
structure Cx where
  A : Around
  A₀ : Around
  base : Heap
  outer : List Env
  h₀ : Heap
  L : Addr
  fenv : Env
  nm : List (Str × Bool)
  ac : Acc
  os : OsState
  lv : Nat
inductive SRel (W : Wd) (cl : List (Str × Addr)) (m : Str → Option Value) (cs : Led) : List (Str × Bool) → List (Option PV) → Prop
  | nil : SRel W cl m cs [] []
  | loc {x : Str} {v : Option PV} {nm : List (Str × Bool)} {vs : List (Option PV)} : (∀ pv, v = some pv → ∃ y, m x = some y ∧ VRel W pv y) → SRel W cl m cs nm vs → SRel W cl m cs ((x, false) :: nm) (v :: vs)
  | cel {x : Str} {v : Option PV} {nm : List (Str × Bool)} {vs : List (Option PV)} {c : Addr} {o : Obj} {ov : Option Value} : cl.lookup x = some c → (c, o) ∈ cs → o.data = .cell ov → (∀ pv, v = some pv → ∃ y, ov = some y ∧ VRel W pv y) →
      SRel W cl m cs nm vs → SRel W cl m cs ((x, true) :: nm) (v :: vs)
theorem SRel.mono {W W' : Wd} {cl : List (Str × Addr)} {m : Str → Option Value} {cs : Led} (h : W.le W') {nm : List (Str × Bool)} {vs : List (Option PV)} (r : SRel W cl m cs nm vs) : SRel W' cl m cs nm vs := by
  induction r with
  | nil => exact .nil
  | loc k _ ih => exact .loc (fun pv e => let ⟨y, a, b⟩ := k pv e; ⟨y, a, b.mono h⟩) ih
  | cel a b c k _ ih => exact .cel a b c (fun pv e => let ⟨y, a, b⟩ := k pv e; ⟨y, a, b.mono h⟩) ih
structure Rel (C : Cx) (W : Wd) (σ : PS) (X : Led) (s : Shared) : Prop where
  ex : ∃ m cs ms, Fr C.h₀ C.L s.heap m ∧ News C.h₀ C.L s.heap (cs ++ (ms ++ (W.T ++ X))) ∧ ((cs ++ (ms ++ (W.T ++ X))).map (·.1)).Nodup ∧ SRel W C.fenv.cells m cs C.nm σ.vars ∧ MRel C.ac W σ.mem ms ∧ ms.map (·.1) = W.mu
  bare : AllBare s.gens
  os : s.os = C.os
  tk : 0 < s.toks
structure CxOk (C : Cx) : Prop where
  below : Below C.A₀ C.base C.outer C.h₀
  frames : C.A.frames = some (C.fenv :: C.outer)
  frame : C.fenv.frame = some C.L
  kind : C.fenv.scope.kind = .function
  handled : C.A.handled = none
  nm : (C.nm.map (·.1)).Nodup
  globals : C.fenv.globals = mainGlobals
  builtins : C.fenv.builtins = builtinsNs
  locals : C.fenv.locals = C.L
theorem nodup_mid {A B : List Addr} {a : Addr} (h : a ∉ A ++ B) (nd : (A ++ B).Nodup) : (A ++ a :: B).Nodup := by
  rw [List.perm_middle.nodup_iff, List.nodup_cons]
  exact ⟨h, nd⟩
section
variable {C : Cx} {W W' : Wd} {σ σ' : PS} {X X' : Led} {s : Shared}
theorem Rel.toks (R : Rel C W σ X s) (t : Nat) (h : 0 < t := by exact Nat.succ_pos _) : Rel C W σ X { s with toks := t } := ⟨R.ex, R.bare, R.os, h⟩
theorem Rel.exE {P : Prop} (R : Rel C W σ X s) (h : ∀ m cs ms, Fr C.h₀ C.L s.heap m → News C.h₀ C.L s.heap (cs ++ (ms ++ (W.T ++ X))) → ((cs ++ (ms ++ (W.T ++ X))).map (·.1)).Nodup → SRel W C.fenv.cells m cs C.nm σ.vars → MRel C.ac W σ.mem ms → ms.map (·.1) = W.mu → P) : P := by
  obtain ⟨m, cs, ms, a, b, c, d, e, f⟩ := R.ex
  exact h m cs ms a b c d e f
theorem Rel.frN (R : Rel C W σ X s) : ∃ m led, Fr C.h₀ C.L s.heap m ∧ News C.h₀ C.L s.heap led ∧ (∀ p ∈ W.T, p ∈ led) ∧ ∀ p ∈ X, p ∈ led := by
  obtain ⟨m, cs, ms, F, N, _⟩ := R.ex
  exact ⟨m, _, F, N, fun p hp => by simp [hp], fun p hp => by simp [hp]⟩
theorem Rel.getT (R : Rel C W σ X s) {a : Addr} {o : Obj} (h : (a, o) ∈ W.T) : s.heap.get? a = some o := by
  obtain ⟨m, led, F, N, hT, hX⟩ := R.frN
  exact N.get (hT _ h)
theorem Rel.getX (R : Rel C W σ X s) {a : Addr} {o : Obj} (h : (a, o) ∈ X) : s.heap.get? a = some o := by
  obtain ⟨m, led, F, N, hT, hX⟩ := R.frN
  exact N.get (hX _ h)
theorem Rel.keep (R : Rel C W σ X s) {a : Addr} {o : Obj} (h : C.h₀.get? a = some o) : s.heap.get? a = some o := by
  obtain ⟨m, led, F, N, hT, hX⟩ := R.frN
  exact F.keep _ _ h
theorem Rel.getM (R : Rel C W σ X s) {l : Nat} {a : Addr} {po : PO} (h : σ.mem[l]? = some po) (ha : W.mu[l]? = some a) : ∃ o, s.heap.get? a = some o ∧ ORel C.ac W po a o := by
  obtain ⟨m, cs, ms, F, N, nd, sr, mr, mu⟩ := R.ex
  obtain ⟨l₁, a', o, l₂, rfl, hl, ro, _⟩ := mr.split h
  have : a' = a := by
    rw [← mu, List.map_append, List.getElem?_append_right (by simp [hl]), List.length_map, hl, Nat.sub_self] at ha
    simpa using ha
  subst this
  exact ⟨o, N.get (by simp), ro⟩
theorem Rel.getME {P : Prop} (R : Rel C W σ X s) {l : Nat} {a : Addr} {po : PO} (h : σ.mem[l]? = some po) (ha : W.mu[l]? = some a) (k : ∀ o, s.heap.get? a = some o → ORel C.ac W po a o → P) : P := by
  obtain ⟨o, x, y⟩ := R.getM h ha
  exact k o x y
theorem Rel.junk (R : Rel C W σ X s) (o : Obj) : Rel C W σ X { s with heap := s.heap.push o } := by
  obtain ⟨m, cs, ms, F, N, r⟩ := R.ex
  exact ⟨⟨m, cs, ms, F.push o, fun p hp => ⟨Heap.get?_push_of_some o (N p hp).1, (N p hp).2⟩, r⟩, R.bare, R.os, R.tk⟩
theorem Rel.grown (R : Rel C W σ X s) {h' : Heap} (hk : ∀ b o, s.heap.get? b = some o → h'.get? b = some o) : Rel C W σ X { s with heap := h' } := by
  obtain ⟨m, cs, ms, F, N, r⟩ := R.ex
  obtain ⟨oL, es, ep, hL, a, b, c⟩ := F.ns
  exact ⟨⟨m, cs, ms, ⟨⟨oL, es, ep, hk _ _ hL, a, b, c⟩, fun b o e => hk _ _ (F.keep b o e), F.above⟩, fun p hp => ⟨hk _ _ (N p hp).1, (N p hp).2⟩, r⟩, R.bare, R.os, R.tk⟩
theorem new_ne {h₀ h : Heap} {L : Addr} {led : Led} (N : News h₀ L h led) : h.objs.size ∉ led.map (·.1) := fun hm => by
  obtain ⟨p, hp, e⟩ := List.mem_map.mp hm
  exact Nat.lt_irrefl _ (e ▸ Heap.lt_size (N p hp).1)
theorem Rel.alloc (R : Rel C W σ X s) {po : PO} {o : Obj} (ho : ORel C.ac W po s.heap.objs.size o) : Rel C ⟨W.mu ++ [s.heap.objs.size], W.T⟩ { σ with mem := σ.mem ++ [po] } X { s with heap := s.heap.push o } := by
  refine Rel.exE R fun m cs ms F N nd sr mr mu => ?_
  have le : W.le ⟨W.mu ++ [s.heap.objs.size], W.T⟩ := ⟨⟨_, rfl⟩, fun _ h => h⟩
  have N' := N.push F o ho.live
  refine ⟨⟨m, cs, ms ++ [(s.heap.objs.size, o)], F.push o, fun p hp => N' p ?_, ?_, sr.mono le, (mr.mono le).snoc (ho.mono le), by simp [mu]⟩, R.bare, R.os, R.tk⟩
  · simp only [List.mem_append, List.mem_cons, List.not_mem_nil, or_false] at hp ⊢
    rcases hp with h | (h | h) | h | h
    · exact .inr (.inl h)
    · exact .inr (.inr (.inl h))
    · exact .inl h
    · exact .inr (.inr (.inr (.inl h)))
    · exact .inr (.inr (.inr (.inr h)))
  · have := nodup_mid (A := (cs ++ ms).map (·.1)) (B := (W.T ++ X).map (·.1)) (a := s.heap.objs.size) (by have := new_ne N; simpa using this) (by simpa using nd)
    simpa using this
theorem Rel.allocT (R : Rel C W σ X s) {o : Obj} (hf : o.isFreed = false) : Rel C ⟨W.mu, (s.heap.objs.size, o) :: W.T⟩ σ X { s with heap := s.heap.push o } := by
  refine Rel.exE R fun m cs ms F N nd sr mr mu => ?_
  have le : W.le ⟨W.mu, (s.heap.objs.size, o) :: W.T⟩ := ⟨⟨[], by simp⟩, fun _ h => .tail _ h⟩
  have N' := N.push F o hf
  refine ⟨⟨m, cs, ms, F.push o, fun p hp => N' p ?_, ?_, sr.mono le, mr.mono le, mu⟩, R.bare, R.os, R.tk⟩
  · simp only [List.mem_append, List.mem_cons] at hp ⊢
    rcases hp with h | h | (h | h) | h
    · exact .inr (.inl h)
    · exact .inr (.inr (.inl h))
    · exact .inl h
    · exact .inr (.inr (.inr (.inl h)))
    · exact .inr (.inr (.inr (.inr h)))
  · have := nodup_mid (A := (cs ++ ms).map (·.1)) (B := (W.T ++ X).map (·.1)) (a := s.heap.objs.size) (by have := new_ne N; simpa using this) (by simpa using nd)
    simpa using this
theorem Rel.allocX (R : Rel C W σ X s) {o : Obj} (hf : o.isFreed = false) : Rel C W σ ((s.heap.objs.size, o) :: X) { s with heap := s.heap.push o } := by
  refine Rel.exE R fun m cs ms F N nd sr mr mu => ?_
  have N' := N.push F o hf
  refine ⟨⟨m, cs, ms, F.push o, fun p hp => N' p ?_, ?_, sr, mr, mu⟩, R.bare, R.os, R.tk⟩
  · simp only [List.mem_append, List.mem_cons] at hp ⊢
    rcases hp with h | h | h | h | h
    · exact .inr (.inl h)
    · exact .inr (.inr (.inl h))
    · exact .inr (.inr (.inr (.inl h)))
    · exact .inl h
    · exact .inr (.inr (.inr (.inr h)))
  · have := nodup_mid (A := (cs ++ (ms ++ W.T)).map (·.1)) (B := X.map (·.1)) (a := s.heap.objs.size) (by have := new_ne N; simpa using this) (by simpa using nd)
    simpa using this
theorem Rel.dropX {p : Addr × Obj} (R : Rel C W σ (p :: X) s) : Rel C W σ X s := by
  refine Rel.exE R fun m cs ms F N nd sr mr mu => ?_
  refine ⟨⟨m, cs, ms, F, fun q hq => N q ?_, ?_, sr, mr, mu⟩, R.bare, R.os, R.tk⟩
  · simp only [List.mem_append, List.mem_cons] at hq ⊢
    rcases hq with h | h | h | h
    · exact .inl h
    · exact .inr (.inl h)
    · exact .inr (.inr (.inl h))
    · exact .inr (.inr (.inr (.inr h)))
  · have e : (cs ++ (ms ++ (W.T ++ p :: X))).map (·.1) = (cs ++ (ms ++ W.T)).map (·.1) ++ p.1 :: X.map (·.1) := by simp
    rw [e, List.perm_middle.nodup_iff, List.nodup_cons] at nd
    have := nd.2
    simpa using this
theorem fr_upd {h₀ h h' : Heap} {L a : Addr} {m : Str → Option Value} {led : Led} {o : Obj} (F : Fr h₀ L h m) (N : News h₀ L h led) (hm : (a, o) ∈ led) (hs : Heap.SameBut a h h') : Fr h₀ L h' m :=
  ⟨F.ns.sameBut hs (Ne.symm (N _ hm).2.1), fun b ob e => (hs.2 b (fun q => by
    have := (N _ hm).2.2
    rw [q, show h₀.get? a = none from this] at e; exact noneE e)).trans (F.keep b ob e), F.above⟩
theorem led_upd {h₀ h h' : Heap} {L a : Addr} {A B : Led} {o o' : Obj} (N : News h₀ L h (A ++ (a, o) :: B)) (nd : ((A ++ (a, o) :: B).map (·.1)).Nodup) (hs : Heap.SameBut a h h') (ho : h'.get? a = some o') : News h₀ L h' (A ++ (a, o') :: B) := by
  rw [List.map_append, List.map_cons, List.perm_middle.nodup_iff, List.nodup_cons, List.mem_append] at nd
  exact N.setAt (fun p hp q => nd.1 (.inl (List.mem_map.mpr ⟨p, hp, q⟩))) (fun p hp q => nd.1 (.inr (List.mem_map.mpr ⟨p, hp, q⟩))) hs ho
theorem nd_upd {A B : Led} {a : Addr} {o o' : Obj} (nd : ((A ++ (a, o) :: B).map (·.1)).Nodup) : ((A ++ (a, o') :: B).map (·.1)).Nodup := by simpa using nd
theorem Rel.setM (R : Rel C W σ X s) {l : Nat} {a : Addr} {po po' : PO} (h : σ.mem[l]? = some po) (ha : W.mu[l]? = some a) {h' : Heap} {o' : Obj} (hs : Heap.SameBut a s.heap h') (ho : h'.get? a = some o') (ro : ORel C.ac W po' a o') :
    Rel C W { σ with mem := σ.mem.set l po' } X { s with heap := h' } := by
  refine Rel.exE R fun m cs ms F N nd sr mr mu => ?_
  obtain ⟨l₁, a', o, l₂, rfl, hl, _, k⟩ := mr.split h
  have : a' = a := by
    rw [← mu, List.map_append, List.getElem?_append_right (by simp [hl]), List.length_map, hl, Nat.sub_self] at ha
    simpa using ha
  subst this
  have e : ∀ o, cs ++ (l₁ ++ (a', o) :: l₂ ++ (W.T ++ X)) = (cs ++ l₁) ++ (a', o) :: (l₂ ++ (W.T ++ X)) := fun o => by simp
  rw [e] at N nd
  refine ⟨⟨m, cs, l₁ ++ (a', o') :: l₂, fr_upd (o := o) F N (List.mem_append_right _ (.head _)) hs, ?_, ?_, sr, k _ _ ro, by rw [← mu]; simp⟩, R.bare, R.os, R.tk⟩
  · rw [e]; exact led_upd N nd hs ho
  · rw [e]; exact nd_upd nd
theorem Rel.setX {a : Addr} {o o' : Obj} (R : Rel C W σ ((a, o) :: X) s) {h' : Heap} (hs : Heap.SameBut a s.heap h') (ho : h'.get? a = some o') : Rel C W σ ((a, o') :: X) { s with heap := h' } := by
  refine Rel.exE R fun m cs ms F N nd sr mr mu => ?_
  have e : ∀ o, cs ++ (ms ++ (W.T ++ (a, o) :: X)) = (cs ++ (ms ++ W.T)) ++ (a, o) :: X := fun o => by simp
  rw [e] at N nd
  refine ⟨⟨m, cs, ms, fr_upd (o := o) F N (List.mem_append_right _ (.head _)) hs, ?_, ?_, sr, mr, mu⟩, R.bare, R.os, R.tk⟩
  · rw [e]; exact led_upd N nd hs ho
  · rw [e]; exact nd_upd nd
end
end Mine
end
section
open PySem PySem.W PyProof.Rows PySem.Calls
set_option genInjectivity false
set_option genSizeOfSpec false
namespace Mine
structure FnD where
  f : Addr
  name : Str
  qual : Str
  params : Arguments
  body : List Stmt
  scope : Scope
  dV : Value
  kV : Value
  doc : Value
  pm : Value
  cdv : Value
  ct : Value
  an : Option Addr
  pn : List Str
  rn : List Str
  cl : List (Str × Addr) := []
noncomputable def FnD.fd (d : FnD) : FuncData := fnX d.name d.qual d.params d.body d.scope d.cl d.dV d.kV d.doc d.pm d.an d.cdv d.ct
structure Gd where
  p : Program
  w : World
  mg : Str → Option Value
  mb : Str → Option Value
  K : Frag
  fns : List FnD
  acc : Addr
structure GdOk (G : Gd) (h : Heap) : Prop where
  frag : G.K.In h
  g : h.Ns mainGlobals G.mg
  b : h.Ns builtinsNs G.mb
  nolimit : h.NoLimit
  bi : ∀ x : Str, x ≠ "__name__" → G.mb x = bootBuiltins x
  fn : ∀ d ∈ G.fns, ∃ fo, h.get? d.f = some fo ∧ fo.data = .func d.fd ∧ h.CodeRec d.cdv d.qual
theorem GdOk.keeps {G : Gd} {h h' : Heap} (x : GdOk G h) (k : ∀ b o, h.get? b = some o → h'.get? b = some o) : GdOk G h' :=
  ⟨x.frag.keeps k, x.g.keeps k, x.b.keeps k, x.nolimit.keeps k, x.bi, fun d hd => let ⟨fo, a, b, c⟩ := x.fn d hd; ⟨fo, k _ _ a, b, c.keeps k⟩⟩
structure COk (G : Gd) (C : Cx) : Prop extends CxOk C where
  gd : GdOk G C.h₀
  cells : ∀ x b, (x, b) ∈ C.nm → C.fenv.kindOf x = some (if b then .cell else .local)
structure Vw where
  env : Env
  ok : Wd → Led → Prop
  mono : ∀ {W W' X}, Wd.le W W' → ok W X → ok W' X
noncomputable def fv (C : Cx) : Vw := ⟨C.fenv, fun _ _ => True, fun _ h => h⟩
noncomputable abbrev Po (C : Cx) (W : Wd) (σ : PS) (X : Led) (r : PV) (Q : Value → Shared → Prop) : Prop := ∀ W' v s', W.le W' → Rel C W' σ X s' → VRel W' r v → Q v s'
noncomputable def Ev (G : Gd) (C : Cx) (V : Vw) (e : Expr) (f : PS → Option (PV × PS)) : Prop :=
  ∀ W σ X s r σ' (Q : Value → Shared → Prop) (E : Value → Shared → Prop), f σ = some (r, σ') → Rel C W σ X s → V.ok W X → Po C W σ' X r Q → wpAny (model G.p G.w) C.A (eval e V.env) Q E s
noncomputable def Ts (G : Gd) (C : Cx) (V : Vw) (e : Expr) (f : PS → Option (Bool × PS)) : Prop :=
  ∀ W σ X s r σ' (Q : Bool → Shared → Prop) (E : Value → Shared → Prop), f σ = some (r, σ') → Rel C W σ X s → V.ok W X → (∀ W' s', W.le W' → Rel C W' σ' X s' → Q r s') → wpAny (model G.p G.w) C.A (isTrue e V.env (eval e V.env)) Q E s
inductive Fl where
  | next
  | brk
  | cont
  | ret (v : PV)
inductive FlR (W : Wd) : Fl → Flow → Prop
  | next : FlR W .next .next
  | brk : FlR W .brk .brk
  | cont : FlR W .cont .cont
  | ret (v : PV) (x : Value) : VRel W v x → FlR W (.ret v) (.ret x)
noncomputable def Xs (G : Gd) (C : Cx) (b : List Stmt) (f : PS → Option (Fl × PS)) : Prop :=
  ∀ W σ X s r σ' (Q : Flow → Shared → Prop) (E : Value → Shared → Prop), f σ = some (r, σ') → Rel C W σ X s → (∀ W' v s', W.le W' → Rel C W' σ' X s' → FlR W' r v → Q v s') → wpAny (model G.p G.w) C.A (execs b C.fenv) Q E s
noncomputable def X1 (G : Gd) (C : Cx) (b : Stmt) (f : PS → Option (Fl × PS)) : Prop :=
  ∀ W σ X s r σ' (Q : Flow → Shared → Prop) (E : Value → Shared → Prop), f σ = some (r, σ') → Rel C W σ X s → (∀ W' v s', W.le W' → Rel C W' σ' X s' → FlR W' r v → Q v s') → wpAny (model G.p G.w) C.A (exec b C.fenv) Q E s
noncomputable def Op2 (G : Gd) (C : Cx) (m : Value → Value → Sem Value) (f : PV → PV → PS → Option (PV × PS)) : Prop :=
  ∀ W σ X s a b x y r σ' (Q : Value → Shared → Prop) (E : Value → Shared → Prop), f a b σ = some (r, σ') → Rel C W σ X s → VRel W a x → VRel W b y → Po C W σ' X r Q → wpAny (model G.p G.w) C.A (m x y) Q E s
noncomputable def Op1 (G : Gd) (C : Cx) (m : Value → Sem Value) (f : PV → PS → Option (PV × PS)) : Prop :=
  ∀ W σ X s a x r σ' (Q : Value → Shared → Prop) (E : Value → Shared → Prop), f a σ = some (r, σ') → Rel C W σ X s → VRel W a x → Po C W σ' X r Q → wpAny (model G.p G.w) C.A (m x) Q E s
noncomputable def fb {α β : Type} (m : Option (α × PS)) (k : α → PS → Option β) : Option β :=
  match m with
  | some (a, σ) => k a σ
  | none => none
noncomputable abbrev fbf {α β : Type} (f : PS → Option (α × PS)) (σ : PS) (k : α → PS → Option β) : Option β := fb (f σ) k
theorem fb_some {α β : Type} {m : Option (α × PS)} {k : α → PS → Option β} {r : β} (h : fb m k = some r) : ∃ a σ, m = some (a, σ) ∧ k a σ = some r := by
  unfold fb at h
  split at h
  · exact ⟨_, _, rfl, h⟩
  · exact noneE h
theorem fbE {α β : Type} {P : Prop} {m : Option (α × PS)} {k : α → PS → Option β} {r : β} (h : fb m k = some r) (f : ∀ a σ, m = some (a, σ) → k a σ = some r → P) : P := by
  obtain ⟨a, σ, x, y⟩ := fb_some h
  exact f a σ x y
noncomputable def fvar (i : Nat) (σ : PS) : Option (PV × PS) :=
  match σ.vars[i]? with
  | some (some v) => some (v, σ)
  | _ => none
noncomputable def fset (i : Nat) (v : PV) (σ : PS) : PS := ⟨σ.vars.set i (some v), σ.mem⟩
section
variable {G : Gd} {C : Cx} {W W' : Wd} {σ σ' : PS} {X X' : Led} {s : Shared} {Q : Value → Shared → Prop} {E : Value → Shared → Prop} {V : Vw}
theorem SRel.getL {cl : List (Str × Addr)} {m : Str → Option Value} {cs : Led} {nm : List (Str × Bool)} {vs : List (Option PV)} {i : Nat} {x : Str} {v : PV} (r : SRel W cl m cs nm vs) (e : nm[i]? = some (x, false)) (e' : vs[i]? = some (some v)) : ∃ y, m x = some y ∧ VRel W v y := by
  induction r generalizing i with
  | nil => cases e
  | loc k _ ih => induction i using natC with
    | zero => cases e; cases e'; exact k _ rfl
    | succ i => exact ih (i := i) e e'
  | cel _ _ _ _ _ ih => induction i using natC with
    | zero => cases e
    | succ i => exact ih (i := i) e e'
theorem SRel.getC {cl : List (Str × Addr)} {m : Str → Option Value} {cs : Led} {nm : List (Str × Bool)} {vs : List (Option PV)} {i : Nat} {x : Str} {v : PV} (r : SRel W cl m cs nm vs) (e : nm[i]? = some (x, true)) (e' : vs[i]? = some (some v)) :
    ∃ c o y, cl.lookup x = some c ∧ (c, o) ∈ cs ∧ o.data = .cell (some y) ∧ VRel W v y := by
  induction r generalizing i with
  | nil => cases e
  | loc _ _ ih => induction i using natC with
    | zero => cases e
    | succ i => exact ih (i := i) e e'
  | cel a b d k _ ih => induction i using natC with
    | zero => cases e; cases e'; obtain ⟨y, rfl, r⟩ := k _ rfl; exact ⟨_, _, y, a, b, d, r⟩
    | succ i => exact ih (i := i) e e'
theorem SRel.cellOf {cl : List (Str × Addr)} {m : Str → Option Value} {cs : Led} {nm : List (Str × Bool)} {vs : List (Option PV)} {i : Nat} {x : Str} (r : SRel W cl m cs nm vs) (e : nm[i]? = some (x, true)) :
    ∃ c o ov, cl.lookup x = some c ∧ (c, o) ∈ cs ∧ o.data = .cell ov := by
  induction r generalizing i with
  | nil => cases e
  | loc _ _ ih => induction i using natC with
    | zero => cases e
    | succ i => exact ih (i := i) e
  | cel a b d _ _ ih => induction i using natC with
    | zero => cases e; exact ⟨_, _, _, a, b, d⟩
    | succ i => exact ih (i := i) e
theorem SRel.skipM {cl : List (Str × Addr)} {m : Str → Option Value} {cs : Led} {x : Str} {v : Value} {nm : List (Str × Bool)} {vs : List (Option PV)} (r : SRel W cl m cs nm vs) (h : x ∉ nm.map (·.1)) : SRel W cl (fun y => if y = x then some v else m y) cs nm vs := by
  induction r with
  | nil => exact .nil
  | @loc z w nm vs k r ih => exact .loc (fun pv e => by rw [if_neg fun q : z = x => h (q ▸ .head _)]; exact k pv e) (ih fun q => h (.tail _ q))
  | cel a b d k _ ih => exact .cel a b d k (ih fun q => h (.tail _ q))
theorem SRel.setL {cl : List (Str × Addr)} {m : Str → Option Value} {cs : Led} {x : Str} {v : Value} {pv : PV} {nm : List (Str × Bool)} {vs : List (Option PV)} {i : Nat} (r : SRel W cl m cs nm vs) (e : nm[i]? = some (x, false)) (nd : (nm.map (·.1)).Nodup) (rv : VRel W pv v) :
    SRel W cl (fun y => if y = x then some v else m y) cs nm (vs.set i (some pv)) := by
  induction r generalizing i with
  | nil => cases e
  | @loc z w nm vs k r ih =>
    have nd' := List.nodup_cons.mp nd
    induction i using natC with
    | zero =>
      obtain rfl : z = x := congrArg Prod.fst (Option.some.inj e)
      exact .loc (fun pv' e' => by induction e' using some1C; exact ⟨v, if_pos rfl, rv⟩) (r.skipM nd'.1)
    | succ i => exact .loc (fun pv' e' => by rw [if_neg fun q : z = x => nd'.1 (q ▸ List.mem_map.mpr ⟨(x, false), List.mem_of_getElem? (i := i) e, rfl⟩)]; exact k _ e') (ih (i := i) e nd'.2)
  | cel a b d k _ ih =>
    induction i using natC with
    | zero => cases e
    | succ i => exact .cel a b d k (ih (i := i) e (List.nodup_cons.mp nd).2)
theorem mem_but {A B : Led} {p q r : Addr × Obj} (h : p ∈ A ++ q :: B) (n : p.1 ≠ q.1) : p ∈ A ++ r :: B := by
  rcases List.mem_append.mp h with h | h
  · exact List.mem_append_left _ h
  · rcases List.mem_cons.mp h with rfl | h
    · exact absurd rfl n
    · exact List.mem_append_right _ (.tail _ h)
theorem SRel.skipC {cl : List (Str × Addr)} {m : Str → Option Value} {A B : Led} {c : Addr} {o o' : Obj} {nm : List (Str × Bool)} {vs : List (Option PV)} (r : SRel W cl m (A ++ (c, o) :: B) nm vs) (h : ∀ x, (x, true) ∈ nm → cl.lookup x ≠ some c) : SRel W cl m (A ++ (c, o') :: B) nm vs := by
  induction r with
  | nil => exact .nil
  | loc k _ ih => exact .loc k (ih fun x hx => h x (.tail _ hx))
  | cel a b d k _ ih => exact .cel a (mem_but b fun q => h _ (.head _) (by rw [a]; exact congrArg some q)) d k (ih fun x hx => h x (.tail _ hx))
theorem SRel.setC {cl : List (Str × Addr)} {m : Str → Option Value} {A B : Led} {c : Addr} {o o' : Obj} {x : Str} {v : Value} {pv : PV} (hx : cl.lookup x = some c) (hd : o'.data = .cell (some v)) (rv : VRel W pv v)
    (inj : ∀ y, cl.lookup y = some c → y = x) {nm : List (Str × Bool)} {vs : List (Option PV)} {i : Nat} (r : SRel W cl m (A ++ (c, o) :: B) nm vs) (e : nm[i]? = some (x, true)) (nd : (nm.map (·.1)).Nodup) : SRel W cl m (A ++ (c, o') :: B) nm (vs.set i (some pv)) := by
  induction r generalizing i with
  | nil => cases e
  | loc k _ ih =>
    induction i using natC with
    | zero => cases e
    | succ i => exact .loc k (ih (i := i) e (List.nodup_cons.mp nd).2)
  | @cel z w nm vs c' oo ov a b d k r ih =>
    have nd' := List.nodup_cons.mp nd
    induction i using natC with
    | zero =>
      obtain rfl : z = x := congrArg Prod.fst (Option.some.inj e)
      exact .cel hx (List.mem_append_right _ (.head _)) hd (fun pv' e' => by induction e' using some1C; exact ⟨v, rfl, rv⟩) (r.skipC fun y hy q => nd'.1 (inj y q ▸ List.mem_map.mpr ⟨_, hy, rfl⟩))
    | succ i => exact .cel a (mem_but b fun q => nd'.1 (inj z (by rw [a]; exact congrArg some q) ▸ List.mem_map.mpr ⟨(x, true), List.mem_of_getElem? (i := i) e, rfl⟩)) d k (ih (i := i) e nd'.2)
end
end Mine
end
section
open PySem PySem.W PyProof.Rows PySem.Calls
set_option genInjectivity false
set_option genSizeOfSpec false
namespace Mine
section
variable {G : Gd} {C : Cx} {W W' : Wd} {σ σ' : PS} {X X' : Led} {s : Shared} {E : Value → Shared → Prop} {V : Vw}
theorem ld_var (K : COk G C) {i : Nat} {x : Str} {b : Bool} {v : PV} {Q : Value → Shared → Prop} (hn : C.nm[i]? = some (x, b)) (R : Rel C W σ X s) (e : σ.vars[i]? = some (some v)) (h : ∀ y, VRel W v y → Q y s) : wpAny (model G.p G.w) C.A (loadName C.fenv x) Q E s := by
  refine Rel.exE R fun m cs ms F N nd sr mr mu => ?_
  have hk := K.cells x b (List.mem_of_getElem? hn)
  induction b using boolC with
  | false =>
    obtain ⟨y, hy, ry⟩ := sr.getL hn e
    exact wpAny_loadName_local K.kind hk (K.locals ▸ F.ns) hy (h y ry)
  | true =>
    obtain ⟨c, o, y, hc, hm, hd, ry⟩ := sr.getC hn e
    exact wpAny_loadName_cell K.kind hk hc ⟨o, N.get (List.mem_append_left _ hm), hd⟩ (h y ry)
theorem st_var (K : COk G C) (inj : ∀ x y c, C.fenv.cells.lookup x = some c → C.fenv.cells.lookup y = some c → y = x) {i : Nat} {x : Str} {b : Bool} {v : PV} {y : Value} {Q : Unit → Shared → Prop} (hn : C.nm[i]? = some (x, b)) (R : Rel C W σ X s) (rv : VRel W v y)
    (h : ∀ s', Rel C W (fset i v σ) X s' → Q () s') : wpAny (model G.p G.w) C.A (storeName C.fenv x y) Q E s := by
  refine Rel.exE R fun m cs ms F N nd sr mr mu => ?_
  have hk := K.cells x b (List.mem_of_getElem? hn)
  induction b using boolC with
  | false =>
    refine wpAny_storeName_local hk (K.locals ▸ F.ns) (fun h' hn' hs => h _ ⟨⟨_, cs, ms, F.set (K.locals ▸ hn') (K.locals ▸ hs), N.set (K.locals ▸ hs), nd, sr.setL hn K.nm rv, mr, mu⟩, R.bare, R.os, Nat.succ_pos _⟩) ?_
    rw [K.kind]; rfl
  | true =>
    obtain ⟨c, o, ov, hc, hm, hd⟩ := sr.cellOf hn
    obtain ⟨A, B, rfl⟩ := List.append_of_mem hm
    refine wpAny_storeName_cell K.kind hk hc ⟨o, N.get (List.mem_append_left _ hm), hd⟩ fun h' hv hs => ?_
    obtain ⟨o', ho', hd'⟩ := hv
    have e : ∀ o, A ++ (c, o) :: B ++ (ms ++ (W.T ++ X)) = A ++ (c, o) :: (B ++ (ms ++ (W.T ++ X))) := fun o => by simp
    rw [e] at N nd
    refine h _ ⟨⟨m, A ++ (c, o') :: B, ms, fr_upd (o := o) F N (List.mem_append_right _ (.head _)) hs, ?_, ?_, sr.setC hc hd' rv (fun y => inj x y c hc) hn K.nm, mr, mu⟩, R.bare, R.os, R.tk⟩
    · rw [e]; exact led_upd N nd hs ho'
    · rw [e]; exact nd_upd nd
end
structure COk1 (G : Gd) (C : Cx) : Prop extends COk G C where
  room : C.A.depth + C.lv < recursionLimit
  units : C.A.units + 3 * C.lv + 8 < cLine
  acp : C.ac.p = G.p
  acC : C.ac.C = G.acc
  acP : C.ac.P = G.w.params
  acw : C.ac.w = G.w
  inj : ∀ x y c, C.fenv.cells.lookup x = some c → C.fenv.cells.lookup y = some c → y = x
section
variable {G : Gd} {C : Cx} {V : Vw}
theorem Ev.var (K : COk1 G C) {i : Nat} {x : Str} {b : Bool} {p : Pos} (hn : C.nm[i]? = some (x, b)) (hd : (x == ("__debug__" : Str)) = false := by decide) : Ev G C (fv C) (.Name x p) (fvar i) := by
  intro W σ X s r σ' Q E e R _ h
  unfold fvar at e
  split at e
  · rename_i v hv
    induction e using someC
    exact wpAny_Name (ld_var K.toCOk hn R hv fun y ry => h W y s (Wd.le_refl _) R ry) hd
  · exact noneE e
noncomputable def cvw (C : Cx) (sc : Scope) (cl : List (Str × Addr)) (Cn : Addr) (x : Str) (pv : PV) : Vw :=
  ⟨compEnvC sc cl Cn C.fenv, fun W X => ∃ oC m₂ y, (Cn, oC) ∈ X ∧ LCg.NsObj oC m₂ ∧ m₂ x = some y ∧ VRel W pv y, fun le ⟨oC, m₂, y, a, b, c, d⟩ => ⟨oC, m₂, y, a, b, c, d.mono le⟩⟩
theorem Ev.cv {sc : Scope} {cl : List (Str × Addr)} {Cn : Addr} {x : Str} {pv : PV} {p : Pos} (hk : sc.kind = .function) (hx : sc.names.lookup x = some .local) (hd : (x == ("__debug__" : Str)) = false := by decide) :
    Ev G C (cvw C sc cl Cn x pv) (.Name x p) (fun σ => some (pv, σ)) := by
  intro W σ X s r σ' Q E e R ok h
  induction e using someC
  obtain ⟨oC, m₂, y, hm, hn, hy, ry⟩ := ok
  exact wpAny_Name (wpAny_loadName_local hk (lookup_relabel_local hx) (hn.ns (R.getX hm)) hy (h W y s (Wd.le_refl _) R ry)) hd
theorem lookup_relabel_cell {env : Env} (hk : env.scope.kind = .function) : ∀ {names : List (Str × NameKind)} {x : Str}, names.lookup x = some .free → env.kindOf x = some .cell →
    (names.map fun (n, k) => if (k == NameKind.free && env.scope.kind == .function && env.kindOf n == some .cell) then (n, NameKind.cell) else (n, k)).lookup x = some .cell
  | [], _, h, _ => by simp at h
  | (n, k) :: r, x, h, hc => by
    have ih := @lookup_relabel_cell env hk r x
    show List.lookup x ((if (k == NameKind.free && env.scope.kind == .function && env.kindOf n == some .cell) = true then (n, NameKind.cell) else (n, k)) :: _) = _
    cases hx : x == n with
    | true =>
      simp only [List.lookup_cons, hx] at h
      cases h
      have : x = n := by simpa using hx
      subst this
      simp [List.lookup_cons, hc, hk]
    | false =>
      simp only [List.lookup_cons, hx] at h
      by_cases hq : (k == NameKind.free && env.scope.kind == .function && env.kindOf n == some .cell) = true
      · rw [if_pos hq]; simp only [List.lookup_cons, hx]; exact ih h hc
      · rw [if_neg hq]; simp only [List.lookup_cons, hx]; exact ih h hc
theorem Ev.cel (K : COk1 G C) {i : Nat} {sc : Scope} {cl : List (Str × Addr)} {Cn : Addr} {x z : Str} {pv : PV} {p : Pos} (hn : C.nm[i]? = some (x, true)) (hk : sc.kind = .function) (hx : sc.names.lookup x = some .free)
    (hc : ∀ c, C.fenv.cells.lookup x = some c → cl.lookup x = some c) (hd : (x == ("__debug__" : Str)) = false := by decide) :
    Ev G C (cvw C sc cl Cn z pv) (.Name x p) (fvar i) := by
  intro W σ X s r σ' Q E e R ok h
  unfold fvar at e
  split at e
  · rename_i v hv
    induction e using someC
    refine Rel.exE R fun m cs ms F N nd sr mr mu => ?_
    obtain ⟨c, o, y, hl, hm, hd', ry⟩ := sr.getC hn hv
    exact wpAny_Name (wpAny_loadName_cell (by exact hk) (lookup_relabel_cell K.kind hx (K.cells x true (List.mem_of_getElem? hn))) (hc c hl) ⟨o, N.get (List.mem_append_left _ hm), hd'⟩ (h W y s (Wd.le_refl _) R ry)) hd
  · exact noneE e
structure VG (V : Vw) : Prop where
  kind : V.env.scope.kind = .function
  g : V.env.globals = mainGlobals
  b : V.env.builtins = builtinsNs
theorem VG.f (K : COk1 G C) : VG (fv C) := ⟨K.kind, K.globals, K.builtins⟩
theorem VG.c (K : COk1 G C) {sc : Scope} {cl : List (Str × Addr)} {Cn : Addr} {x : Str} {pv : PV} (hk : sc.kind = .function) : VG (cvw C sc cl Cn x pv) := ⟨hk, K.globals, K.builtins⟩
theorem Ev.glo (K : COk1 G C) (VV : VG V) {x : Str} {p : Pos} {v : Value} {pv : PV} (hx : V.env.kindOf x = some .globalImplicit) (e : nsIn G.K mainGlobals x = some (some v)) (rv : ∀ W, VRel W pv v) (hd : (x == ("__debug__" : Str)) = false := by decide) :
    Ev G C V (.Name x p) (fun σ => some (pv, σ)) := by
  intro W σ X s r σ' Q E e' R _ h
  induction e' using someC
  exact Name_function_global VV.kind hx (loadGlobal_global (VV.g.symm ▸ K.gd.g.keeps fun _ _ => R.keep) (mg_of K.gd.frag K.gd.g e) (h W v s (Wd.le_refl _) R (rv W))) hd
theorem Ev.bui (K : COk1 G C) (VV : VG V) {x : Str} {p : Pos} {v : Value} (hx : V.env.kindOf x = some .globalImplicit) (e : nsIn G.K mainGlobals x = some none) (hv : bootBuiltins x = some v) (hn : x ≠ "__name__") (hd : (x == ("__debug__" : Str)) = false := by decide) :
    Ev G C V (.Name x p) (fun σ => some (.raw v, σ)) := by
  intro W σ X s r σ' Q E e' R _ h
  induction e' using someC
  exact Name_function_global VV.kind hx (loadGlobal_builtin (VV.g.symm ▸ K.gd.g.keeps fun _ _ => R.keep) (mg_none_of K.gd.frag K.gd.g e) (VV.b.symm ▸ K.gd.b.keeps fun _ _ => R.keep) ((K.gd.bi x hn).trans hv) (h W v s (Wd.le_refl _) R (.raw v))) hd
theorem Ev.int {i : Int} {k : Nat} {p : Pos} : Ev G C V (.Constant (.int i) k p) (fun σ => some (.int i, σ)) := by
  intro W σ X s r σ' Q E e R _ h
  induction e using someC
  exact wpAny_Constant_int (h W _ _ (Wd.le_refl _) (R.toks _) (.int i _))
theorem Ev.bool {b : Bool} {k : Nat} {p : Pos} : Ev G C V (.Constant (.bool b) k p) (fun σ => some (.bool b, σ)) := by
  intro W σ X s r σ' Q E e R _ h
  induction e using someC
  exact wpAny_Constant_bool (h W _ _ (Wd.le_refl _) R (.bool b))
theorem Ev.cnone {k : Nat} {p : Pos} : Ev G C V (.Constant .none k p) (fun σ => some (.none, σ)) := by
  intro W σ X s r σ' Q E e R _ h
  induction e using someC
  exact wpAny_Constant_none (h W _ _ (Wd.le_refl _) R .none)
theorem Ev.bin {op : Operator} {l r : Expr} {p : Pos} {f g : PS → Option (PV × PS)} {o : PV → PV → PS → Option (PV × PS)} (hl : Ev G C V l f) (hr : Ev G C V r g) (ho : Op2 G C (binaryOp op) o) :
    Ev G C V (.BinOp l op r p) (fun σ => fbf f σ fun a σ => fbf g σ fun b σ => o a b σ) := by
  intro W σ X s v σ' Q E e R ok h
  refine fbE e fun a σ₁ e₁ e => ?_
  refine fbE e fun b σ₂ e₂ e₃ => ?_
  exact wpAny_BinOp (hl W σ X s a σ₁ _ E e₁ R ok fun W₁ x s₁ l₁ R₁ r₁ => hr W₁ σ₁ X s₁ b σ₂ _ E e₂ R₁ (V.mono l₁ ok) fun W₂ y s₂ l₂ R₂ r₂ =>
    ho W₂ σ₂ X s₂ a b x y v σ' _ E e₃ R₂ (r₁.mono l₂) r₂ fun W₃ z s₃ l₃ R₃ r₃ => h W₃ z s₃ (Wd.le_trans l₁ (Wd.le_trans l₂ l₃)) R₃ r₃)
theorem Ev.cmp {op : CmpOp} {l r : Expr} {p : Pos} {f g : PS → Option (PV × PS)} {o : PV → PV → PS → Option (PV × PS)} (hl : Ev G C V l f) (hr : Ev G C V r g) (ho : Op2 G C (compareOp op) o) (hm : behindInMarks op r = false := by with_unfolding_all rfl) :
    Ev G C V (.Compare l [op] [r] p) (fun σ => fbf f σ fun a σ => fbf g σ fun b σ => o a b σ) := by
  intro W σ X s v σ' Q E e R ok h
  refine fbE e fun a σ₁ e₁ e => ?_
  refine fbE e fun b σ₂ e₂ e₃ => ?_
  exact wpAny_Compare1 (hl W σ X s a σ₁ _ E e₁ R ok fun W₁ x s₁ l₁ R₁ r₁ => hr W₁ σ₁ X s₁ b σ₂ _ E e₂ R₁ (V.mono l₁ ok) fun W₂ y s₂ l₂ R₂ r₂ =>
    ho W₂ σ₂ X s₂ a b x y v σ' _ E e₃ R₂ (r₁.mono l₂) r₂ fun W₃ z s₃ l₃ R₃ r₃ => h W₃ z s₃ (Wd.le_trans l₁ (Wd.le_trans l₂ l₃)) R₃ r₃) hm
end
end Mine
end
section
open PySem PySem.W PyProof.Rows PySem.Calls
namespace Mine
noncomputable def oAdd : PV → PV → PS → Option (PV × PS)
  | .int a, .int b, σ => some (.int (a + b), σ)
  | .str a, .str b, σ => if (a ++ b).length ≤ 4096 then some (.str (a ++ b), σ) else none
  | _, _, _ => none
noncomputable def oSub : PV → PV → PS → Option (PV × PS)
  | .int a, .int b, σ => some (.int (a - b), σ)
  | .bool a, .bool b, σ => some (.int (b2i a - b2i b), σ)
  | _, _, _ => none
noncomputable def oFdiv : PV → PV → PS → Option (PV × PS)
  | .int a, .int b, σ => if 0 < b.natAbs ∧ b.natAbs < 1073741824 then some (.int (a.fdiv b), σ) else none
  | _, _, _ => none
noncomputable def oMod : PV → PV → PS → Option (PV × PS)
  | .int a, .int b, σ => if 0 < b.natAbs then some (.int (a.fmod b), σ) else none
  | _, _, _ => none
noncomputable def oPow : PV → PV → PS → Option (PV × PS)
  | .int a, .int b, σ => if 0 ≤ b ∧ (Builtin.Int.intBits a : Int) * b ≤ 2 ^ 27 then some (.int (a ^ b.toNat), σ) else none
  | _, _, _ => none
noncomputable def oMul : PV → PV → PS → Option (PV × PS)
  | .int a, .int b, σ => if Builtin.Int.intBits b ≤ 64 ∨ Builtin.Int.intBits a ≤ 64 ∨ Builtin.Int.intBits a + Builtin.Int.intBits b ≤ 1000000 then some (.int (a * b), σ) else none
  | .str a, .int b, σ => if 0 ≤ b ∧ b ≤ 64 ∧ a.length ≤ 64 then some (.str (List.replicate b.toNat a).flatten, σ) else none
  | _, _, _ => none
noncomputable def oLt : PV → PV → PS → Option (PV × PS)
  | .int a, .int b, σ => some (.bool (decide (a < b)), σ)
  | .str a, .str b, σ => some (.bool (decide (a < b)), σ)
  | _, _, _ => none
noncomputable def oGt : PV → PV → PS → Option (PV × PS)
  | .int a, .int b, σ => some (.bool (decide (b < a)), σ)
  | .str a, .str b, σ => some (.bool (decide (b < a)), σ)
  | _, _, _ => none
noncomputable def oLe : PV → PV → PS → Option (PV × PS)
  | .int a, .int b, σ => some (.bool (decide (a ≤ b)), σ)
  | _, _, _ => none
noncomputable def oGe : PV → PV → PS → Option (PV × PS)
  | .int a, .int b, σ => some (.bool (decide (b ≤ a)), σ)
  | _, _, _ => none
noncomputable def oIsNot : PV → PV → PS → Option (PV × PS)
  | .bool a, .bool b, σ => some (.bool (a != b), σ)
  | .str _, .none, σ => some (.bool true, σ)
  | .none, .none, σ => some (.bool false, σ)
  | _, _, _ => none
theorem size4096 : 4096 ≤ sizeLine := by decide +kernel
section
variable {G : Gd} {C : Cx}
theorem Op2.add : Op2 G C (binaryOp .Add) oAdd := by
  intro W σ X s a b x y r σ' Q E e R ra rb h
  unfold oAdd at e
  split at e
  · induction ra using VRel.intC; induction rb using VRel.intC; induction e using someC; exact add_int (h W _ _ (Wd.le_refl _) (R.toks _) (.int _ _))
  · split at e
    · rename_i hl
      induction ra using VRel.strC; induction rb using VRel.strC; induction e using someC
      refine P.add_str ?_
      rename_i σ₀ a b t u
      rw [mkS'_len, mkS'_len]
      by_cases ha : a = []
      · subst ha; exact h W _ _ (Wd.le_refl _) R (.str b u)
      · rw [if_neg (by simpa using ha)]
        by_cases hb : b = []
        · subst hb
          rw [List.append_nil] at h
          exact h W _ _ (Wd.le_refl _) R (.str a t)
        · rw [if_neg (by simpa using hb)]
          have : mkS' a ++ mkS' b = mkS' (a ++ b) := by
            show Str.append _ _ = _
            simp [Str.append, mkS']
          rw [this]
          exact ⟨by rw [mkS'_len]; exact Nat.le_trans hl size4096, h W _ _ (Wd.le_refl _) (R.toks _) (.str _ _)⟩
    · exact noneE e
  · exact noneE e
theorem Op2.sub : Op2 G C (binaryOp .Sub) oSub := by
  intro W σ X s a b x y r σ' Q E e R ra rb h
  unfold oSub at e
  split at e
  · induction ra using VRel.intC; induction rb using VRel.intC; induction e using someC; exact sub_int (h W _ _ (Wd.le_refl _) (R.toks _) (.int _ _))
  · induction ra using VRel.boolC; induction rb using VRel.boolC; induction e using someC; exact sub_bool (h W _ _ (Wd.le_refl _) (R.toks _) (.int _ _))
  · exact noneE e
theorem Op2.fdiv : Op2 G C (binaryOp .FloorDiv) oFdiv := by
  intro W σ X s a b x y r σ' Q E e R ra rb h
  unfold oFdiv at e
  split at e
  · split at e
    · rename_i hb
      induction ra using VRel.intC; induction rb using VRel.intC; induction e using someC
      exact floordiv_int (fun q => by rw [q] at hb; exact absurd hb.1 (by decide)) (h W _ _ (Wd.le_refl _) (R.toks _) (.int _ _)) (hp := .inl (PyProof.noPylong_small hb.2))
    · exact noneE e
  · exact noneE e
theorem Op2.mod : Op2 G C (binaryOp .Mod) oMod := by
  intro W σ X s a b x y r σ' Q E e R ra rb h
  unfold oMod at e
  split at e
  · split at e
    · rename_i hb
      induction ra using VRel.intC; induction rb using VRel.intC; induction e using someC
      exact mod_int' (fun q => by rw [q] at hb; exact absurd hb (by decide)) (h W _ _ (Wd.le_refl _) (R.toks _) (.int _ _))
    · exact noneE e
  · exact noneE e
theorem Op2.pow : Op2 G C (binaryOp .Pow) oPow := by
  intro W σ X s a b x y r σ' Q E e R ra rb h
  unfold oPow at e
  split at e
  · split at e
    · rename_i hb
      induction ra using VRel.intC; induction rb using VRel.intC; induction e using someC
      exact pow_int hb.1 hb.2 (h W _ _ (Wd.le_refl _) (R.toks _) (.int _ _))
    · exact noneE e
  · exact noneE e
theorem intMul_ok {a b : Int} (h : Builtin.Int.intBits b ≤ 64 ∨ Builtin.Int.intBits a ≤ 64 ∨ Builtin.Int.intBits a + Builtin.Int.intBits b ≤ 1000000) : IntMulOk a b := by
  unfold IntMulOk
  intro q
  simp only [Bool.and_eq_true, decide_eq_true_eq, Builtin.Int.intTooBig] at q
  have h64 : shortFactorBits = 64 := rfl
  have hbl : 1000000 < bitsLine := by decide +kernel
  rw [h64] at q
  rcases h with h | h | h
  · omega
  · omega
  · omega
theorem foldl_rep (a : List Nat) : ∀ (n : Nat) (z : Array Nat), ((List.replicate n a.toArray).foldl (· ++ ·) z).toList = z.toList ++ (List.replicate n a).flatten
  | 0, z => by simp
  | n + 1, z => by
    rw [List.replicate_succ, List.foldl_cons, foldl_rep a n, List.replicate_succ, List.flatten_cons]
    simp
theorem Op2.mul : Op2 G C (binaryOp .Mult) oMul := by
  intro W σ X s a b x y r σ' Q E e R ra rb h
  unfold oMul at e
  split at e
  · split at e
    · rename_i hb
      induction ra using VRel.intC; induction rb using VRel.intC; induction e using someC
      exact mul_int (h W _ _ (Wd.le_refl _) (R.toks _) (.int _ _)) (intMul_ok hb)
    · exact noneE e
  · split at e
    · rename_i σ₀ a b hb
      induction ra using VRel.strC; induction rb using VRel.intC; induction e using someC
      obtain ⟨h0, h1, h2⟩ := hb
      have hlen : a.length * b.toNat ≤ 64 * 64 := Nat.mul_le_mul h2 (by omega)
      refine P.mul_str (by simp; omega) (fun _ _ => ?_) (fun _ _ => ?_) ?_
      · have h3 : (64 : Int) ≤ (2 ^ 63 - 1) / b := by
          have hb0 : 0 < b := by omega
          exact (Int.le_ediv_iff_mul_le hb0).mpr (by omega)
        rw [mkS'_len]; omega
      · rw [mkS'_len]; show decide (a.length * b.toNat > sizeLine) = false
        exact decide_eq_false (by have := size4096; omega)
      · by_cases hb1 : b < 1
        · rw [if_pos hb1]
          have hb0 : b.toNat = 0 := by omega
          rw [hb0] at h
          exact ⟨Nat.zero_le _, h W _ _ (Wd.le_refl _) (R.toks _) (.str [] _)⟩
        · rw [if_neg hb1]
          split
          · rename_i t u hq
            have : (List.replicate b.toNat a).flatten = a := by
              rw [mkS'_len] at hq
              simp only [Bool.or_eq_true, beq_iff_eq] at hq
              rcases hq with hq | hq
              · subst hq; simp
              · have : a = [] := List.eq_nil_of_length_eq_zero hq
                subst this; simp
            rw [this] at h
            exact h W _ _ (Wd.le_refl _) R (.str a t)
          · have : (⟨(List.replicate b.toNat (mkS' a).cps).foldl (· ++ ·) #[]⟩ : Str) = mkS' (List.replicate b.toNat a).flatten := by
              unfold mkS'
              congr 1
              apply Array.toList_inj.mp
              rw [foldl_rep]; simp
            rw [this]
            refine ⟨?_, h W _ _ (Wd.le_refl _) (R.toks _) (.str _ _)⟩
            rw [mkS'_len]
            have := size4096
            simp only [List.length_flatten, List.map_replicate, List.sum_replicate_nat]
            rw [Nat.mul_comm]
            omega
    · exact noneE e
  · exact noneE e
theorem Op2.lt : Op2 G C (compareOp .Lt) oLt := by
  intro W σ X s a b x y r σ' Q E e R ra rb h
  unfold oLt at e
  split at e
  · induction ra using VRel.intC; induction rb using VRel.intC; induction e using someC; exact lt_int (h W _ _ (Wd.le_refl _) R (.bool _))
  · induction ra using VRel.strC; induction rb using VRel.strC; induction e using someC; exact P.lt_str (h W _ _ (Wd.le_refl _) R (.bool _))
  · exact noneE e
theorem Op2.gt : Op2 G C (compareOp .Gt) oGt := by
  intro W σ X s a b x y r σ' Q E e R ra rb h
  unfold oGt at e
  split at e
  · induction ra using VRel.intC; induction rb using VRel.intC; induction e using someC; exact PyProof.Rows.gt_int (h W _ _ (Wd.le_refl _) R (.bool _))
  · induction ra using VRel.strC; induction rb using VRel.strC; induction e using someC; exact P.gt_str (h W _ _ (Wd.le_refl _) R (.bool _))
  · exact noneE e
theorem Op2.le : Op2 G C (compareOp .LtE) oLe := by
  intro W σ X s a b x y r σ' Q E e R ra rb h
  unfold oLe at e
  split at e
  · induction ra using VRel.intC; induction rb using VRel.intC; induction e using someC; exact P.le_int (h W _ _ (Wd.le_refl _) R (.bool _))
  · exact noneE e
theorem Op2.ge : Op2 G C (compareOp .GtE) oGe := by
  intro W σ X s a b x y r σ' Q E e R ra rb h
  unfold oGe at e
  split at e
  · induction ra using VRel.intC; induction rb using VRel.intC; induction e using someC; exact P.ge_int (h W _ _ (Wd.le_refl _) R (.bool _))
  · exact noneE e
theorem Op2.isNot : Op2 G C (compareOp .IsNot) oIsNot := by
  intro W σ X s a b x y r σ' Q E e R ra rb h
  unfold oIsNot at e
  split at e
  · induction ra using VRel.boolC; induction rb using VRel.boolC; induction e using someC; exact isnot_bool (h W _ _ (Wd.le_refl _) R (.bool _))
  · induction ra using VRel.strC; induction rb using VRel.noneC; induction e using someC; exact isnot_str_none (h W _ _ (Wd.le_refl _) R (.bool _))
  · induction ra using VRel.noneC; induction rb using VRel.noneC; induction e using someC; exact isnot_none_none (h W _ _ (Wd.le_refl _) R (.bool _))
  · exact noneE e
end
end Mine
end
section
open PySem PySem.W PyProof.Rows PySem.Calls
namespace Mine
section
variable {C : Cx} {W W' : Wd} {σ σ' : PS} {X X' : Led} {s : Shared}
theorem Rel.extX {a : Addr} {o o' : Obj} (R : Rel C W σ ((a, o) :: X) s) {h' : Heap} {tk : Nat} (hk : ∀ b x, b ≠ a → s.heap.get? b = some x → h'.get? b = some x) (ho : h'.get? a = some o') (ht : 0 < tk) : Rel C W σ ((a, o') :: X) { s with heap := h', toks := tk } := by
  obtain ⟨m, cs, ms, F, N, nd, r⟩ := R.ex
  have ha := N (a, o) (by simp)
  have e : ∀ o, cs ++ (ms ++ (W.T ++ (a, o) :: X)) = (cs ++ (ms ++ W.T)) ++ (a, o) :: X := fun o => by simp
  rw [e] at N nd
  have nd' := nd
  rw [List.map_append, List.map_cons, List.perm_middle.nodup_iff, List.nodup_cons, List.mem_append] at nd'
  refine ⟨⟨m, cs, ms, ⟨F.ns.at' fun o e => hk _ o (Ne.symm ha.2.1) e, fun b x q => hk b x (fun z => ?_) (F.keep b x q), F.above⟩, ?_, ?_, r⟩, R.bare, R.os, ht⟩
  · have := ha.2.2; rw [z, show C.h₀.get? a = none from this] at q; exact noneE q
  · rw [e]
    intro p hp
    rcases List.mem_append.mp hp with q | q
    · exact ⟨hk _ _ (fun z => nd'.1 (.inl (List.mem_map.mpr ⟨p, q, z⟩))) (N p (List.mem_append_left _ q)).1, (N p (List.mem_append_left _ q)).2⟩
    · rcases List.mem_cons.mp q with rfl | q
      · exact ⟨ho, ha.2⟩
      · exact ⟨hk _ _ (fun z => nd'.1 (.inr (List.mem_map.mpr ⟨p, q, z⟩))) (N p (List.mem_append_right _ (.tail _ q))).1, (N p (List.mem_append_right _ (.tail _ q))).2⟩
  · rw [e]; exact nd_upd nd
theorem Rel.endX {a : Addr} {o : Obj} (R : Rel C W σ ((a, o) :: X) s) {h' : Heap} {tk : Nat} (hk : ∀ b x, b ≠ a → s.heap.get? b = some x → h'.get? b = some x) (ht : 0 < tk) : Rel C W σ X { s with heap := h', toks := tk } := by
  obtain ⟨m, cs, ms, F, N, nd, r⟩ := R.ex
  have ha := N (a, o) (by simp)
  have e : ∀ o, cs ++ (ms ++ (W.T ++ (a, o) :: X)) = (cs ++ (ms ++ W.T)) ++ (a, o) :: X := fun o => by simp
  rw [e] at N nd
  rw [List.map_append, List.map_cons, List.perm_middle.nodup_iff, List.nodup_cons, List.mem_append] at nd
  have e' : cs ++ (ms ++ (W.T ++ X)) = (cs ++ (ms ++ W.T)) ++ X := by simp
  refine ⟨⟨m, cs, ms, ⟨F.ns.at' fun o e => hk _ o (Ne.symm ha.2.1) e, fun b x q => hk b x (fun z => ?_) (F.keep b x q), F.above⟩, ?_, ?_, r⟩, R.bare, R.os, ht⟩
  · have := ha.2.2; rw [z, show C.h₀.get? a = none from this] at q; exact noneE q
  · rw [e']
    intro p hp
    rcases List.mem_append.mp hp with q | q
    · exact ⟨hk _ _ (fun z => nd.1 (.inl (List.mem_map.mpr ⟨p, q, z⟩))) (N p (List.mem_append_left _ q)).1, (N p (List.mem_append_left _ q)).2⟩
    · exact ⟨hk _ _ (fun z => nd.1 (.inr (List.mem_map.mpr ⟨p, q, z⟩))) (N p (List.mem_append_right _ (.tail _ q))).1, (N p (List.mem_append_right _ (.tail _ q))).2⟩
  · rw [e', List.map_append]; exact nd.2
end
noncomputable def nxOf : PV → Nat → PS → Option (Option PV)
  | .ref l, i, σ => match σ.mem[l]? with
    | some (.list xs) => some xs[i]?
    | _ => none
  | .str x, i, _ => some (x[i]?.map fun c => .str [c])
  | .tup vs, i, _ => some vs[i]?
  | .rng a b c, i, _ => if c = 1 ∧ Builtin.Range.small a b 1 = true then some (if a + i < b then some (.int (a + i)) else none) else none
  | _, _, _ => none
structure Stp (G : Gd) (C : Cx) (I : Addr) (ok : Nat → Wd → Obj → Prop) (nx : Nat → PS → Option (Option PV)) : Prop where
  item : ∀ i W σ X s o v (Q : Option Value → Shared → Prop) (E : Value → Shared → Prop), ok i W o → Rel C W σ ((I, o) :: X) s → nx i σ = some (some v) →
    (∀ o' y s', ok (i + 1) W o' → Rel C W σ ((I, o') :: X) s' → VRel W v y → Q (some y) s') → wpAny (model G.p G.w) C.A (pyNext (.ref I)) Q E s
  done : ∀ i W σ X s o (Q : Option Value → Shared → Prop) (E : Value → Shared → Prop), ok i W o → Rel C W σ ((I, o) :: X) s → nx i σ = some none →
    (∀ s', Rel C W σ X s' → Q none s') → wpAny (model G.p G.w) C.A (pyNext (.ref I)) Q E s
  mono : ∀ {i W W' o}, Wd.le W W' → ok i W o → ok i W' o
  self : ∀ i W σ X s o (Q : Value → Shared → Prop) (E : Value → Shared → Prop), ok i W o → Rel C W σ ((I, o) :: X) s → Q (.ref I) s → wpAny (model G.p G.w) C.A (pyIter (.ref I)) Q E s
theorem striter_ty (x : Str) : strIterType x = "str_ascii_iterator" ∨ strIterType x = "str_iterator" := by
  unfold strIterType
  split
  · exact .inl rfl
  · exact .inr rfl
section
variable {G : Gd} {C : Cx} {W W' : Wd} {σ σ' : PS} {X X' : Led} {s : Shared}
theorem stp_list (K : COk1 G C) {l : Nat} {I a : Addr} : Stp G C I (fun i W o => W.mu[l]? = some a ∧ o.cls = .type "list_iterator" ∧ o.data = .fields #[.ref a, .int i 0]) (nxOf (.ref l)) where
  item := by
    intro i W σ X s o v Q E ⟨hm, hc, hd⟩ R e h
    simp only [nxOf] at e
    split at e
    · rename_i xs hx
      refine Rel.getME R hx hm fun o' ho' ro => ?_
      induction ro using ORel.listC with
      | list vs n rv =>
        obtain ⟨y, hy, ry⟩ := rv.get (Option.some.inj e)
        refine wpAny_pyNext_list_item ⟨o, R.getX (.head _), hc, hd⟩ ⟨_, ho', rfl, _, rfl⟩ (by simpa using hy) fun h' hit hs => ?_
        obtain ⟨o₂, h1, h2, h3⟩ := hit
        exact h o₂ y _ ⟨hm, h2, h3⟩ (R.setX hs h1) ry
    · exact noneE e
  done := by
    intro i W σ X s o Q E ⟨hm, hc, hd⟩ R e h
    simp only [nxOf] at e
    split at e
    · rename_i xs hx
      refine Rel.getME R hx hm fun o' ho' ro => ?_
      induction ro using ORel.listC with
      | list vs n rv =>
        have hn : xs[i]? = none := Option.some.inj e
        have : vs[i]? = none := by
          rw [List.getElem?_eq_none_iff] at hn ⊢
          rw [← rv.length]; exact hn
        exact wpAny_pyNext_list_end K.handled ⟨o, R.getX (.head _), hc, hd⟩ ⟨_, ho', rfl, _, rfl⟩ (by simpa using this) fun h' hs => h _ (R.endX (tk := s.toks) (fun b x hb e => hs b x hb e) R.tk)
    · exact noneE e
  mono := fun le ⟨a, b⟩ => ⟨mu_mono le a, b⟩
  self := fun i W σ X s o Q E ⟨_, hc, hd⟩ R h => wpAny_pyIter_listiter ⟨o, R.getX (.head _), hc, hd⟩ h
theorem stp_tup (K : COk1 G C) {vs : List PV} {xs : List Value} {I a : Addr} : Stp G C I (fun i W o => (a, tupO xs) ∈ W.T ∧ VRels W vs xs ∧ o.cls = .type "tuple_iterator" ∧ o.data = .fields #[.ref a, .int i 0]) (nxOf (.tup vs)) where
  item := by
    intro i W σ X s o v Q E ⟨hm, rv, hc, hd⟩ R e h
    obtain ⟨y, hy, ry⟩ := rv.get (Option.some.inj e)
    refine wpAny_pyNext_tuple_item ⟨o, R.getX (.head _), hc, hd⟩ ⟨_, R.getT hm, rfl, _, rfl⟩ (by simpa using hy) fun h' hit hs => ?_
    obtain ⟨o₂, h1, h2, h3⟩ := hit
    exact h o₂ y _ ⟨hm, rv, h2, h3⟩ (R.setX hs h1) ry
  done := by
    intro i W σ X s o Q E ⟨hm, rv, hc, hd⟩ R e h
    have hn : vs[i]? = none := Option.some.inj e
    have : xs[i]? = none := by
      rw [List.getElem?_eq_none_iff] at hn ⊢
      rw [← rv.length]; exact hn
    exact wpAny_pyNext_tuple_end K.handled ⟨o, R.getX (.head _), hc, hd⟩ ⟨_, R.getT hm, rfl, _, rfl⟩ (by simpa using this) fun h' hs => h _ (R.endX (tk := s.toks) (fun b x hb e => hs b x hb e) R.tk)
  mono := fun le ⟨a, b, c⟩ => ⟨le.2 _ a, b.mono le, c⟩
  self := fun i W σ X s o Q E ⟨hm, _, hc, hd⟩ R h => wpAny_pyIter_tupleiter ⟨o, R.getX (.head _), hc, hd⟩ h
theorem stp_str (K : COk1 G C) {x : List Nat} {t : Tok} {I : Addr} : Stp G C I (fun i _ o => i ≤ x.length ∧ o.cls = .type (strIterType (mkS' x)) ∧ o.data = .fields #[.str (mkS' x) t, .int i 0]) (nxOf (.str x)) := by
  have key : ∃ ty, strIterType (mkS' x) = ty ∧ Walks G.p G.w C.A I [I] [I] x.length (SignAt (mkS' x)) (fun i h => h.IsStrIter I ty (mkS' x) t i) := by
    rcases striter_ty (mkS' x) with h | h
    · exact ⟨_, h, Walks.strAscii K.handled I (mkS' x) t⟩
    · exact ⟨_, h, Walks.strWide K.handled I (mkS' x) t⟩
  obtain ⟨ty, ht, Wk⟩ := key
  rw [ht]
  refine ⟨?_, ?_, fun _ h => h, fun i W σ X s o Q E ⟨_, hc, hd⟩ R h => Wk.self i s Q E ⟨o, R.getX (.head _), hc, hd⟩ h⟩
  · intro i W σ X s o v Q E ⟨_, hc, hd⟩ R e h
    simp only [nxOf, Option.some.injEq, Option.map_eq_some_iff] at e
    obtain ⟨c, hxc, rfl⟩ := e
    have hi := (List.getElem?_eq_some_iff.mp hxc).1
    refine wpAny_with_toks R.tk (Wk.item i s _ _ hi ⟨o, R.getX (.head _), hc, hd⟩ fun v h' tk hP hst hk ht => ?_)
    obtain ⟨c', u, hc', rfl⟩ := hP
    obtain ⟨o₂, h1, h2, h3⟩ := hst
    have : c' = c := by
      have : x[i]? = some c' := by simpa [mkS'] using hc'
      rw [hxc] at this; induction this using some1C; rfl
    subst this
    exact h o₂ _ _ ⟨hi, h2, h3⟩ (R.extX (fun b x hb e => hk b x (by simpa using hb) e) h1 ht) (.str [c'] u)
  · intro i W σ X s o Q E ⟨hle, hc, hd⟩ R e h
    simp only [nxOf, Option.some.injEq, Option.map_eq_none_iff] at e
    have hi : i = x.length := Nat.le_antisymm hle (List.getElem?_eq_none_iff.mp e)
    subst hi
    exact wpAny_with_toks R.tk (Wk.done s _ _ ⟨o, R.getX (.head _), hc, hd⟩ fun h' tk hk ht => h _ (R.endX (fun b x hb e => hk b x (by simpa using hb) e) ht))
theorem stp_rng (K : COk1 G C) {a b : Int} {I : Addr} : Stp G C I (fun i _ o => ∃ left, o = { cls := .type "range_iterator", dict := none, data := .fields #[rawInt (a + (i : Nat)), rawInt left, rawInt 1], slots := #[] } ∧ (left = b - (a + (i : Nat)) ∨ (left ≤ 0 ∧ b ≤ a + (i : Nat)))) (nxOf (.rng a b 1)) := by
  refine ⟨?_, ?_, fun _ h => h, fun i W σ X s o Q E ⟨left, ho, _⟩ R h => wpAny_pyIter_rangeiter (ho ▸ R.getX (.head _)) h⟩
  · intro i W σ X s o v Q E ⟨left, ho, hl⟩ R e h
    simp only [nxOf, true_and] at e
    split at e
    · have hlt : a + (i : Int) < b := by
        cases hd : decide (a + (i : Int) < b) with
        | true => exact of_decide_eq_true hd
        | false => rw [if_neg (of_decide_eq_false hd)] at e; cases e
      rw [if_pos hlt] at e
      cases e
      subst ho
      refine wpAny_pyNext_range_item (R.getX (.head _)) (by omega) fun h' hit hs => ?_
      refine h _ _ _ ⟨left - 1, ?_, ?_⟩ ((R.setX hs hit).toks _) (.int _ _)
      · simp only [Int.add_assoc]; rfl
      · push_cast; omega
    · exact noneE e
  · intro i W σ X s o Q E ⟨left, ho, hl⟩ R e h
    simp only [nxOf, true_and] at e
    split at e
    · have hlt : ¬ a + (i : Int) < b := by
        intro hd
        rw [if_pos hd] at e; cases e
      subst ho
      exact wpAny_pyNext_range_end K.handled (R.getX (.head _)) (by omega) fun h' hs => h _ (R.endX (tk := s.toks) (fun b x hb e => hs b x hb e) R.tk)
    · exact noneE e
theorem iter_ok (K : COk1 G C) {v : PV} {x : Value} {r : Option PV} {Q : Value → Shared → Prop} {E : Value → Shared → Prop} (e : nxOf v 0 σ = some r) (R : Rel C W σ X s) (rv : VRel W v x)
    (h : ∀ I o ok s', Stp G C I ok (nxOf v) → ok 0 W o → Rel C W σ ((I, o) :: X) s' → Q (.ref I) s') : wpAny (model G.p G.w) C.A (pyIter x) Q E s := by
  cases rv with
  | none => cases e
  | bool b => cases e
  | int i t => cases e
  | raw v => cases e
  | flist => cases e
  | str x t =>
    refine wpAny_pyIter_strU ?_
    exact h _ _ _ _ (stp_str K) ⟨Nat.zero_le _, rfl, rfl⟩ (R.allocX rfl)
  | ref l a ha =>
    simp only [nxOf] at e
    split at e
    · rename_i xs hx
      refine Rel.getME R hx ha fun o' ho' ro => ?_
      induction ro using ORel.listC with
      | list vs n rv =>
        refine wpAny_pyIter_list ⟨_, ho', rfl, _, rfl⟩ ?_
        exact h _ _ _ _ (stp_list K) ⟨ha, rfl, rfl⟩ (R.allocX rfl)
    · exact noneE e
  | tup vs xs a hm rv =>
    refine wpAny_pyIter_tuple ⟨_, R.getT hm, rfl, _, rfl⟩ ?_
    exact h _ _ _ _ (stp_tup K) ⟨hm, rv, rfl, rfl⟩ (R.allocX rfl)
  | rng a b c t u v y hm =>
    simp only [nxOf] at e
    split at e
    · rename_i hc
      obtain ⟨rfl, hs⟩ := hc
      refine wpAny_pyIter_range (R.getT hm) hs ?_
      refine h _ _ _ _ (stp_rng K) ⟨Builtin.Range.rangeSize a b 1, ?_, ?_⟩ (R.allocX rfl)
      · simp
      · unfold Builtin.Range.rangeSize
        rw [if_pos (by decide)]
        split
        · left; simp
        · right; refine ⟨Int.le_refl _, ?_⟩; simp; omega
    · exact noneE e
end
end Mine
end
section
open PySem PySem.W PyProof.Rows PySem.Calls
namespace Mine
noncomputable def fTruth : PV → PS → Option (Bool × PS)
  | .bool b, σ => some (b, σ)
  | .str s, σ => if s.length ≤ 4096 then some (s.length != 0, σ) else none
  | .int i, σ => some (i != 0, σ)
  | _, _ => none
noncomputable def fseq (f g : PS → Option (Fl × PS)) (σ : PS) : Option (Fl × PS) :=
  match f σ with
  | some (.next, σ₁) => g σ₁
  | o => o
noncomputable def ffor (nx : Nat → PS → Option (Option PV)) (st : PV → PS → Option PS) (b : PS → Option (Fl × PS)) : Nat → Nat → PS → Option (Fl × PS)
  | 0, _, _ => none
  | n + 1, i, σ => match nx i σ with
    | some (some v) => match st v σ with
      | some σ₁ => fb (b σ₁) fun r σ₂ => match r with
        | .next => ffor nx st b n (i + 1) σ₂
        | .cont => ffor nx st b n (i + 1) σ₂
        | .brk => some (.next, σ₂)
        | .ret v => some (.ret v, σ₂)
      | none => none
    | some none => some (.next, σ)
    | none => none
noncomputable def Tg (G : Gd) (C : Cx) (t : Expr) (st : PV → PS → Option PS) : Prop :=
  ∀ W σ X s v x σ' (Q : Unit → Shared → Prop) (E : Value → Shared → Prop), st v σ = some σ' → Rel C W σ X s → VRel W v x → (∀ W' s', W.le W' → Rel C W' σ' X s' → Q () s') → wpAny (model G.p G.w) C.A (assign t C.fenv x) Q E s
section
variable {G : Gd} {C : Cx} {V : Vw}
theorem tru {W σ X s} {v : PV} {x : Value} {b : Bool} {σ' : PS} {Q : Bool → Shared → Prop} {E : Value → Shared → Prop} (e : fTruth v σ = some (b, σ')) (R : Rel C W σ X s) (rv : VRel W v x) (h : ∀ s', Rel C W σ' X s' → Q b s') :
    wpAny (model G.p G.w) C.A (truthy x) Q E s := by
  unfold fTruth at e
  split at e
  · induction rv using VRel.boolC; induction e using someC; exact wpAny_truthy_bool (h _ R)
  · split at e
    · rename_i hl
      induction rv using VRel.strC; induction e using someC
      refine P.truthy_str (by rw [mkS'_len]; omega) ?_
      rw [mkS'_len]
      have := h _ (R.toks (s.toks + 1 + 1))
      rename_i x t
      have e : ((x.length : Int) != 0) = (x.length != 0) := by
        rw [Bool.eq_iff_iff]; simp
      rw [e]; exact this
    · exact noneE e
  · induction rv using VRel.intC; induction e using someC; exact P.truthy_int (h _ R)
  · exact noneE e
theorem Ts.val {e : Expr} {f : PS → Option (PV × PS)} (he : Ev G C V e f) (hi : isTrue e V.env (eval e V.env) = (do let v ← eval e V.env; standAt e.pos; holding [v] (truthy v)) := by rfl) : Ts G C V e (fun σ => fbf f σ fTruth) := by
  intro W σ X s r σ' Q E e R ok h
  refine fbE e fun a σ₁ e₁ e₂ => ?_
  exact wpAny_isTrue_value (he W σ X s a σ₁ _ E e₁ R ok fun W₁ x s₁ l₁ R₁ r₁ => tru e₂ R₁ r₁ fun s' R' => h W₁ s' l₁ R') hi
theorem Ts.cmp {op : CmpOp} {l r : Expr} {p : Pos} {f g : PS → Option (PV × PS)} {o : PV → PV → PS → Option (PV × PS)} (hl : Ev G C V l f) (hr : Ev G C V r g) (ho : Op2 G C (compareOp op) o) (hm : behindInMarks op r = false := by with_unfolding_all rfl) :
    Ts G C V (.Compare l [op] [r] p) (fun σ => fbf f σ fun a σ => fbf g σ fun b σ => fb (o a b σ) fTruth) := by
  intro W σ X s v σ' Q E e R ok h
  refine fbE e fun a σ₁ e₁ e => ?_
  refine fbE e fun b σ₂ e₂ e => ?_
  refine fbE e fun c σ₃ e₃ e₄ => ?_
  exact wpAny_isTrue_Compare1 (hl W σ X s a σ₁ _ E e₁ R ok fun W₁ x s₁ l₁ R₁ r₁ => hr W₁ σ₁ X s₁ b σ₂ _ E e₂ R₁ (V.mono l₁ ok) fun W₂ y s₂ l₂ R₂ r₂ =>
    ho W₂ σ₂ X s₂ a b x y c σ₃ _ E e₃ R₂ (r₁.mono l₂) r₂ fun W₃ z s₃ l₃ R₃ r₃ => tru e₄ R₃ r₃ fun s' R' => h W₃ s' (Wd.le_trans l₁ (Wd.le_trans l₂ l₃)) R') hm
theorem Ts.not {e : Expr} {p : Pos} {f : PS → Option (Bool × PS)} (he : Ts G C V e f) : Ts G C V (.UnaryOp .Not e p) (fun σ => fbf f σ fun b σ => some (!b, σ)) := by
  intro W σ X s r σ' Q E e R ok h
  refine fbE e fun a σ₁ e₁ e₂ => ?_
  induction e₂ using someC
  exact wpAny_isTrue_Not (he W σ X s a _ _ E e₁ R ok fun W₁ s₁ l₁ R₁ => h W₁ s₁ l₁ R₁)
inductive Tss (G : Gd) (C : Cx) (V : Vw) : List Expr → List (PS → Option (Bool × PS)) → Prop
  | nil : Tss G C V [] []
  | cons {e es f fs} : Ts G C V e f → Tss G C V es fs → Tss G C V (e :: es) (f :: fs)
noncomputable def fand : List (PS → Option (Bool × PS)) → PS → Option (Bool × PS)
  | [], σ => some (true, σ)
  | f :: fs, σ => fb (f σ) fun b σ => match b with
    | true => fand fs σ
    | false => some (false, σ)
noncomputable def ffor' : List (PS → Option (Bool × PS)) → PS → Option (Bool × PS)
  | [], σ => some (false, σ)
  | f :: fs, σ => fb (f σ) fun b σ => match b with
    | true => some (true, σ)
    | false => ffor' fs σ
theorem tss_and {es : List Expr} {fs : List (PS → Option (Bool × PS))} (T : Tss G C V es fs) : ∀ W σ X s r σ' (Q : Bool → Shared → Prop) (E : Value → Shared → Prop), fand fs σ = some (r, σ') → Rel C W σ X s → V.ok W X → (∀ W' s', W.le W' → Rel C W' σ' X s' → Q r s') → wpAny (model G.p G.w) C.A (allTrue .And es V.env) Q E s := by
  induction T with
  | nil => intro W σ X s r σ' Q E e R ok h; cases e; exact wpAny_allTrue_And_nil (h W s (Wd.le_refl _) R)
  | cons te _ ih =>
    intro W σ X s r σ' Q E e R ok h
    refine fbE e fun b σ₁ e₁ e₂ => ?_
    refine wpAny_allTrue_And_cons (te W σ X s b σ₁ _ E e₁ R ok fun W₁ s₁ l₁ R₁ => ?_)
    induction b using boolC with
    | true => exact ih W₁ σ₁ X s₁ r σ' Q E e₂ R₁ (V.mono l₁ ok) fun W₂ s₂ l₂ R₂ => h W₂ s₂ (Wd.le_trans l₁ l₂) R₂
    | false => induction e₂ using someC; exact h W₁ s₁ l₁ R₁
theorem tss_or {es : List Expr} {fs : List (PS → Option (Bool × PS))} (T : Tss G C V es fs) : ∀ W σ X s r σ' (Q : Bool → Shared → Prop) (E : Value → Shared → Prop), ffor' fs σ = some (r, σ') → Rel C W σ X s → V.ok W X → (∀ W' s', W.le W' → Rel C W' σ' X s' → Q r s') → wpAny (model G.p G.w) C.A (allTrue .Or es V.env) Q E s := by
  induction T with
  | nil => intro W σ X s r σ' Q E e R ok h; cases e; exact wpAny_allTrue_Or_nil (h W s (Wd.le_refl _) R)
  | cons te _ ih =>
    intro W σ X s r σ' Q E e R ok h
    refine fbE e fun b σ₁ e₁ e₂ => ?_
    refine wpAny_allTrue_Or_cons (te W σ X s b σ₁ _ E e₁ R ok fun W₁ s₁ l₁ R₁ => ?_)
    induction b using boolC with
    | false => exact ih W₁ σ₁ X s₁ r σ' Q E e₂ R₁ (V.mono l₁ ok) fun W₂ s₂ l₂ R₂ => h W₂ s₂ (Wd.le_trans l₁ l₂) R₂
    | true => induction e₂ using someC; exact h W₁ s₁ l₁ R₁
theorem Ts.and {es : List Expr} {p : Pos} {fs : List (PS → Option (Bool × PS))} (T : Tss G C V es fs) : Ts G C V (.BoolOp .And es p) (fand fs) :=
  fun W σ X s r σ' Q E e R ok h => wpAny_isTrue_BoolOp (tss_and T W σ X s r σ' Q E e R ok h)
theorem Ts.or {es : List Expr} {p : Pos} {fs : List (PS → Option (Bool × PS))} (T : Tss G C V es fs) : Ts G C V (.BoolOp .Or es p) (ffor' fs) :=
  fun W σ X s r σ' Q E e R ok h => wpAny_isTrue_BoolOp (tss_or T W σ X s r σ' Q E e R ok h)
theorem Ev.ife {t a b : Expr} {p : Pos} {ft : PS → Option (Bool × PS)} {fa fc : PS → Option (PV × PS)} (ht : Ts G C V t ft) (ha : Ev G C V a fa) (hb : Ev G C V b fc) :
    Ev G C V (.IfExp t a b p) (fun σ => fbf ft σ fun c σ => match c with | true => fa σ | false => fc σ) := by
  intro W σ X s r σ' Q E e R ok h
  refine fbE e fun c σ₁ e₁ e₂ => ?_
  refine wpAny_IfExp (ht W σ X s c σ₁ _ E e₁ R ok fun W₁ s₁ l₁ R₁ => ?_)
  induction c using boolC with
  | true => exact ha W₁ σ₁ X s₁ r σ' Q E e₂ R₁ (V.mono l₁ ok) fun W₂ x s₂ l₂ R₂ r₂ => h W₂ x s₂ (Wd.le_trans l₁ l₂) R₂ r₂
  | false => exact hb W₁ σ₁ X s₁ r σ' Q E e₂ R₁ (V.mono l₁ ok) fun W₂ x s₂ l₂ R₂ r₂ => h W₂ x s₂ (Wd.le_trans l₁ l₂) R₂ r₂
theorem Xs.nil : Xs G C [] (fun σ => some (.next, σ)) := by
  intro W σ X s r σ' Q E e R h
  induction e using someC
  exact wpAny_execs_nil (h W _ s (Wd.le_refl _) R .next)
theorem Xs.cons {a : Stmt} {r : List Stmt} {f g : PS → Option (Fl × PS)} (ha : X1 G C a f) (hr : Xs G C r g) : Xs G C (a :: r) (fseq f g) := by
  intro W σ X s r σ' Q E e R h
  unfold fseq at e
  refine wpAny_execs_cons ?_
  cases hf : f σ with
  | none => rw [hf] at e; exact noneE e
  | some q =>
    obtain ⟨fl, σ₁⟩ := q
    rw [hf] at e
    refine ha W σ X s fl σ₁ _ E hf R fun W₁ v s₁ l₁ R₁ fr => ?_
    induction fr with
    | next => exact hr W₁ σ₁ X s₁ _ σ' Q E e R₁ fun W₂ v s₂ l₂ R₂ fr => h W₂ v s₂ (Wd.le_trans l₁ l₂) R₂ fr
    | brk => induction e using someC; exact h W₁ _ s₁ l₁ R₁ .brk
    | cont => induction e using someC; exact h W₁ _ s₁ l₁ R₁ .cont
    | ret v x rv => induction e using someC; exact h W₁ _ s₁ l₁ R₁ (.ret v x rv)
theorem X1.assign (K : COk1 G C) {i : Nat} {x : Str} {b : Bool} {p' p : Pos} {e : Expr} {f : PS → Option (PV × PS)} (hn : C.nm[i]? = some (x, b)) (he : Ev G C (fv C) e f) (hs : swapsWith e (some (.Name x p')) p.line C.fenv = pure false := by rfl) :
    X1 G C (.Assign [.Name x p'] e p) (fun σ => fbf f σ fun v σ => some (.next, fset i v σ)) := by
  intro W σ X s r σ' Q E e R h
  refine fbE e fun v σ₁ e₁ e₂ => ?_
  induction e₂ using someC
  exact wpAny_Assign_Name (he W σ X s v σ₁ _ E e₁ R trivial fun W₁ y s₁ l₁ R₁ rv => st_var K.toCOk K.inj hn R₁ rv fun s' R' => h W₁ _ s' l₁ R' .next) hs
theorem Tg.name (K : COk1 G C) {i : Nat} {x : Str} {b : Bool} {p : Pos} (hn : C.nm[i]? = some (x, b)) : Tg G C (.Name x p) (fun v σ => some (fset i v σ)) := by
  intro W σ X s v y σ' Q E e R rv h
  induction e using some1C
  exact PySem.wpAny_assign_Name (st_var K.toCOk K.inj hn R rv fun s' R' => h W s' (Wd.le_refl _) R')
theorem X1.aug (K : COk1 G C) {i : Nat} {x : Str} {b : Bool} {p' p : Pos} {op : Operator} {e : Expr} {f : PS → Option (PV × PS)} {o : PV → PV → PS → Option (PV × PS)} (hn : C.nm[i]? = some (x, b)) (he : Ev G C (fv C) e f) (ho : Op2 G C (inplaceOp op) o) :
    X1 G C (.AugAssign (.Name x p') op e p) (fun σ => fb (fvar i σ) fun a σ => fbf f σ fun b σ => fb (o a b σ) fun v σ => some (.next, fset i v σ)) := by
  intro W σ X s r σ' Q E e R h
  refine fbE e fun a σ₁ e₁ e => ?_
  refine fbE e fun b σ₂ e₂ e => ?_
  refine fbE e fun v σ₃ e₃ e₄ => ?_
  induction e₄ using someC
  unfold fvar at e₁
  split at e₁
  · rename_i a' ha
    cases e₁ using someC
    exact wpAny_AugAssign_Name (ld_var K.toCOk hn R ha fun y ry => he W σ X s b σ₂ _ E e₂ R trivial fun W₁ z s₁ l₁ R₁ rz => ho W₁ σ₂ X s₁ a b y z v σ₃ _ E e₃ R₁ (ry.mono l₁) rz fun W₂ u s₂ l₂ R₂ ru =>
      st_var K.toCOk K.inj hn R₂ ru fun s' R' => h W₂ _ s' (Wd.le_trans l₁ l₂) R' .next)
  · exact noneE e₁
theorem X1.ite {t : Expr} {a b : List Stmt} {p : Pos} {ft : PS → Option (Bool × PS)} {fa fc : PS → Option (Fl × PS)} (ht : Ts G C (fv C) t ft) (ha : Xs G C a fa) (hb : Xs G C b fc) :
    X1 G C (.If t a b p) (fun σ => fbf ft σ fun c σ => match c with | true => fa σ | false => fc σ) := by
  intro W σ X s r σ' Q E e R h
  refine fbE e fun c σ₁ e₁ e₂ => ?_
  refine wpAny_If (ht W σ X s c σ₁ _ E e₁ R trivial fun W₁ s₁ l₁ R₁ => ?_)
  induction c using boolC with
  | true => exact ha W₁ σ₁ X s₁ r σ' Q E e₂ R₁ fun W₂ x s₂ l₂ R₂ r₂ => h W₂ x s₂ (Wd.le_trans l₁ l₂) R₂ r₂
  | false => exact hb W₁ σ₁ X s₁ r σ' Q E e₂ R₁ fun W₂ x s₂ l₂ R₂ r₂ => h W₂ x s₂ (Wd.le_trans l₁ l₂) R₂ r₂
theorem X1.ret {e : Expr} {p : Pos} {f : PS → Option (PV × PS)} (he : Ev G C (fv C) e f) : X1 G C (.Return (some e) p) (fun σ => fbf f σ fun v σ => some (.ret v, σ)) := by
  intro W σ X s r σ' Q E e R h
  refine fbE e fun v σ₁ e₁ e₂ => ?_
  induction e₂ using someC
  exact wpAny_Return_some (he W σ X s v _ _ E e₁ R trivial fun W₁ y s₁ l₁ R₁ rv => h W₁ _ s₁ l₁ R₁ (.ret v y rv))
theorem X1.asrt {t : Expr} {m : Option Expr} {p : Pos} {ft : PS → Option (Bool × PS)} (ht : Ts G C (fv C) t ft) : X1 G C (.Assert t m p) (fun σ => fbf ft σ fun c σ => match c with | true => some (.next, σ) | false => none) := by
  intro W σ X s r σ' Q E e R h
  refine fbE e fun c σ₁ e₁ e₂ => ?_
  induction c using boolC with
  | true => induction e₂ using someC; exact wpAny_Assert_holds (ht W σ X s _ _ _ E e₁ R trivial fun W₁ s₁ l₁ R₁ => ⟨rfl, h W₁ _ s₁ l₁ R₁ .next⟩)
  | false => exact noneE e₂
theorem X1.expr {e : Expr} {p : Pos} {f : PS → Option (PV × PS)} (he : Ev G C (fv C) e f) (hi : interactive C.fenv = false := by rfl) (hs : swapsWith e none p.line C.fenv = pure false := by rfl) :
    X1 G C (.Expr e p) (fun σ => fbf f σ fun v σ => match v with | .none => some (.next, σ) | _ => none) := by
  intro W σ X s r σ' Q E e R h
  refine fbE e fun v σ₁ e₁ e₂ => ?_
  cases v with
  | none => induction e₂ using someC; exact wpAny_Expr (he W σ X s _ _ _ E e₁ R trivial fun W₁ y s₁ l₁ R₁ rv => by induction rv using VRel.noneC; exact h W₁ _ s₁ l₁ R₁ .next) hi hs
  | _ => exact noneE e₂
inductive FrInv (C : Cx) (W : Wd) (X : Led) (I : Addr) (ok : Nat → Wd → Obj → Prop) (g : Nat → Nat → PS → Prop) (k : Nat) (s' : Shared) : Prop
  | mk (W' : Wd) (σ₂ : PS) (i : Nat) (o' : Obj) : W.le W' → ok i W' o' → Rel C W' σ₂ ((I, o') :: X) s' → g k i σ₂ → FrInv C W X I ok g k s'
theorem X1.for (K : COk1 G C) {t e : Expr} {b : List Stmt} {p : Pos} {st : PV → PS → Option PS} {fe : PS → Option (PV × PS)} {f : PS → Option (Fl × PS)} (n : Nat) (he : Ev G C (fv C) e fe) (ht : Tg G C t st) (hb : Xs G C b f)
    (hg : ∀ it v, letOwnedTupleGo t it v = pure () := by intro _ _; rfl) (hs : ∀ x, foldedSetIterable e C.fenv x = pure x := by intro _; rfl) :
    X1 G C (.For t e b [] p) (fun σ => fbf fe σ fun v σ => ffor (nxOf v) st f n 0 σ) := by
  intro W σ X s r σ' Q E e R h
  refine fbE e fun v σ₁ e₁ e₂ => ?_
  refine wpAny_For (he W σ X s v σ₁ _ E e₁ R trivial fun W₁ x s₁ l₁ R₁ rv => ?_) hs
  have hnx : ∃ q, nxOf v 0 σ₁ = some q := by
    induction n using natC with
    | zero => cases e₂
    | succ n =>
      simp only [ffor] at e₂
      split at e₂
      · rename_i q; exact ⟨_, q⟩
      · rename_i q; exact ⟨_, q⟩
      · exact noneE e₂
  obtain ⟨q, hq⟩ := hnx
  refine iter_ok K hq R₁ rv fun I o ok s₂ S hok R₂ => ?_
  refine codeAny_forLoop_any (FrInv C W X I ok fun k i σ₂ => ffor (nxOf v) st f k i σ₂ = some (r, σ')) ?_ n (.mk W₁ σ₁ 0 o l₁ hok R₂ e₂)
  rintro k s' ⟨W', σ₂, i, o', le, hok', R', e'⟩
  induction k using natC with
  | zero => cases e'
  | succ k =>
    simp only [ffor] at e'
    split at e'
    · rename_i w hw
      refine S.item i W' σ₂ X s' o' w _ _ hok' R' hw fun o₂ y s₃ hok₂ R₃ ry => ?_
      dsimp only
      rw [hg]
      refine wpAny_pure ?_
      split at e'
      · rename_i σ₃ h₃
        refine fbE e' fun fl σ₄ e₄ e₅ => ?_
        refine ht W' σ₂ _ s₃ w y σ₃ _ _ h₃ R₃ ry fun W₄ s₄ l₄ R₄ => ?_
        refine hb W₄ σ₃ _ s₄ fl σ₄ _ _ e₄ R₄ fun W₅ u s₅ l₅ R₅ fr => ?_
        have le₅ := Wd.le_trans le (Wd.le_trans l₄ l₅)
        induction fr with
        | next => exact ⟨k, Nat.lt_succ_self _, .mk W₅ σ₄ (i + 1) o₂ le₅ (S.mono (Wd.le_trans l₄ l₅) hok₂) R₅ e₅⟩
        | cont => exact ⟨k, Nat.lt_succ_self _, .mk W₅ σ₄ (i + 1) o₂ le₅ (S.mono (Wd.le_trans l₄ l₅) hok₂) R₅ e₅⟩
        | brk => induction e₅ using someC; exact h W₅ _ s₅ le₅ R₅.dropX .next
        | ret v x rv => induction e₅ using someC; exact h W₅ _ s₅ le₅ R₅.dropX (.ret v x rv)
      · exact noneE e'
    · rename_i hw
      induction e' using someC
      refine S.done i W' _ X s' o' _ _ hok' R' hw fun s₃ R₃ => ?_
      exact wpAny_execs_nil (h W' _ s₃ le R₃ .next)
    · exact noneE e'
end
end Mine
end
section
open PySem PySem.W PyProof.Rows PySem.Calls
namespace Mine
inductive Evs (G : Gd) (C : Cx) (V : Vw) : List Expr → (PS → Option (List PV × PS)) → Prop
  | nil : Evs G C V [] (fun σ => some ([], σ))
  | cons {e es f g} : Ev G C V e f → Evs G C V es g → starEach (e :: es) V.env = (false, eval e V.env) :: starEach es V.env → Evs G C V (e :: es) (fun σ => fbf f σ fun v σ => fbf g σ fun vs σ => some (v :: vs, σ))
noncomputable def Cl (G : Gd) (C : Cx) (c : Value) (g : List PV → PS → Option (PV × PS)) : Prop :=
  ∀ W σ X s vs xs r σ' (Q : Value → Shared → Prop) (E : Value → Shared → Prop), g vs σ = some (r, σ') → Rel C W σ X s → VRels W vs xs → Po C W σ' X r Q → wpAny (model G.p G.w) C.A (call c xs) Q E s
section
variable {G : Gd} {C : Cx} {V : Vw}
theorem Evs.spl {es : List Expr} {f : PS → Option (List PV × PS)} (H : Evs G C V es f) : ∀ W σ X s rs σ' (Q : List Value → Shared → Prop) (E : Value → Shared → Prop) (pos : Pos), f σ = some (rs, σ') → Rel C W σ X s → V.ok W X →
    (∀ W' vs s', W.le W' → Rel C W' σ' X s' → VRels W' rs vs → Q vs s') → wpAny (model G.p G.w) C.A (spliced (backTo pos (starEach es V.env))) Q E s := by
  induction H with
  | nil => intro W σ X s rs σ' Q E pos e R ok h; induction e using someC; exact wpAny_items_nil (h W [] s (Wd.le_refl _) R .nil)
  | cons he _ hs ih =>
    intro W σ X s rs σ' Q E pos e R ok h
    refine fbE e fun v σ₁ e₁ e => ?_
    refine fbE e fun vs σ₂ e₂ e₃ => ?_
    induction e₃ using someC
    exact wpAny_items_cons (he W σ X s v σ₁ _ E e₁ R ok fun W₁ x s₁ l₁ R₁ r₁ => ih W₁ σ₁ X s₁ vs _ _ E pos e₂ R₁ (V.mono l₁ ok) fun W₂ xs s₂ l₂ R₂ r₂ => h W₂ (x :: xs) s₂ (Wd.le_trans l₁ l₂) R₂ (.cons (r₁.mono l₂) r₂)) hs
theorem Evs.plain {es : List Expr} {f : PS → Option (List PV × PS)} (H : Evs G C V es f) (pos : Pos) : (backTo pos (starEach es V.env)).any (·.1) = false := by
  induction H with
  | nil => rfl
  | cons _ _ hs ih => rw [hs]; simpa [backTo] using ih
theorem Evs.alln {es : List Expr} {f : PS → Option (List PV × PS)} (H : Evs G C V es f) (pos : Pos) : (backTo pos (starEach es V.env)).all (fun x => !x.1) = true := by
  induction H with
  | nil => rfl
  | cons _ _ hs ih => rw [hs]; simpa [backTo] using ih
theorem Evs.args {es : List Expr} {f : PS → Option (List PV × PS)} (H : Evs G C V es f) (c : Value) {W σ X s rs σ'} {Q : Args → Shared → Prop} {E : Value → Shared → Prop} {pos : Pos} (e : f σ = some (rs, σ')) (R : Rel C W σ X s) (ok : V.ok W X)
    (h : ∀ W' vs s', W.le W' → Rel C W' σ' X s' → VRels W' rs vs → Q ⟨vs, []⟩ s') : wpAny (model G.p G.w) C.A (evalArgs c true (backTo pos (starEach es V.env)) []) Q E s := by
  have key := H.spl W σ X s rs σ' (fun vs s' => Q ⟨vs, []⟩ s') E pos e R ok h
  cases H with
  | nil => induction e using someC; exact evalArgs_nil3 (h W [] s (Wd.le_refl _) R .nil)
  | cons he hes hs =>
    rw [hs] at key ⊢
    exact evalArgs_plain key
theorem Ev.callB {x : Str} {p pos : Pos} {id : String} {es : List Expr} {f : PS → Option (List PV × PS)} {g : List PV → PS → Option (PV × PS)} (hx : Ev G C V (.Name x p) (fun σ => some (.raw (.builtin id), σ))) (H : Evs G C V es f) (hc : Cl G C (.builtin id) g) :
    Ev G C V (.Call (.Name x p) es [] pos) (fun σ => fbf f σ fun vs σ => g vs σ) := by
  intro W σ X s r σ' Q E e R ok h
  refine fbE e fun vs σ₁ e₁ e₂ => ?_
  refine Call_Name rfl (hx W σ X s _ _ _ E rfl R ok fun W₁ y s₁ l₁ R₁ ry => ?_)
  induction ry using VRel.rawC
  refine Calls.callWith_builtin (H.plain _) (H.args _ e₁ R₁ (V.mono l₁ ok) fun W₂ xs s₂ l₂ R₂ rs => ?_)
  exact hc W₂ σ₁ X s₂ vs xs r σ' Q E e₂ R₂ rs fun W₃ z s₃ l₃ R₃ r₃ => h W₃ z s₃ (Wd.le_trans l₁ (Wd.le_trans l₂ l₃)) R₃ r₃
theorem Ev.callT {x : Str} {p pos : Pos} {T : String} {es : List Expr} {f : PS → Option (List PV × PS)} {g : List PV → PS → Option (PV × PS)} (hx : Ev G C V (.Name x p) (fun σ => some (.raw (.type T), σ))) (H : Evs G C V es f) (hc : Cl G C (.type T) g) :
    Ev G C V (.Call (.Name x p) es [] pos) (fun σ => fbf f σ fun vs σ => g vs σ) := by
  intro W σ X s r σ' Q E e R ok h
  refine fbE e fun vs σ₁ e₁ e₂ => ?_
  refine Call_Name rfl (hx W σ X s _ _ _ E rfl R ok fun W₁ y s₁ l₁ R₁ ry => ?_)
  induction ry using VRel.rawC
  refine PyProof.Rows.callWith_type (H.plain _) (H.args _ e₁ R₁ (V.mono l₁ ok) fun W₂ xs s₂ l₂ R₂ rs => ?_)
  exact hc W₂ σ₁ X s₂ vs xs r σ' Q E e₂ R₂ rs fun W₃ z s₃ l₃ R₃ r₃ => h W₃ z s₃ (Wd.le_trans l₁ (Wd.le_trans l₂ l₃)) R₃ r₃
theorem Ev.callF {x : Str} {p pos : Pos} {a : Addr} {o : Obj} {fd : FuncData} {es : List Expr} {f : PS → Option (List PV × PS)} {g : List PV → PS → Option (PV × PS)} (hx : Ev G C V (.Name x p) (fun σ => some (.raw (.ref a), σ))) (ho : C.h₀.get? a = some o) (hd : o.data = .func fd) (H : Evs G C V es f) (hc : Cl G C (.ref a) g) :
    Ev G C V (.Call (.Name x p) es [] pos) (fun σ => fbf f σ fun vs σ => g vs σ) := by
  intro W σ X s r σ' Q E e R ok h
  refine fbE e fun vs σ₁ e₁ e₂ => ?_
  refine Call_Name rfl (hx W σ X s _ _ _ E rfl R ok fun W₁ y s₁ l₁ R₁ ry => ?_)
  induction ry using VRel.rawC
  refine Calls.callWith_function (fd := fd) (o := o) (H.args _ e₁ R₁ (V.mono l₁ ok) fun W₂ xs s₂ l₂ R₂ rs => ⟨⟨R₂.keep ho, hd⟩, ?_⟩)
  exact hc W₂ σ₁ X s₂ vs xs r σ' Q E e₂ R₂ rs fun W₃ z s₃ l₃ R₃ r₃ => h W₃ z s₃ (Wd.le_trans l₁ (Wd.le_trans l₂ l₃)) R₃ r₃
noncomputable def tyOf : PV → PS → Option String
  | .str _, _ => some "str"
  | .ref l, σ => match σ.mem[l]? with
    | some (.list _) => some "list"
    | _ => none
  | _, _ => none
theorem typ {W σ X s} {v : PV} {x : Value} {T : String} (e : tyOf v σ = some T) (R : Rel C W σ X s) (rv : VRel W v x) : s.TypeIs x T ∧ ∀ a, x = .ref a → ∃ ob, s.heap.get? a = some ob ∧ ob.dict = none := by
  cases rv with
  | none => cases e
  | bool b => cases e
  | int i t => cases e
  | raw v => cases e
  | flist => cases e
  | str x t => cases e; exact ⟨typeIs_str _ _ _, fun _ q => nomatch q⟩
  | tup => cases e
  | rng => cases e
  | ref l a ha =>
    simp only [tyOf] at e
    split at e
    · rename_i xs hx
      induction e using some1C
      refine Rel.getME R hx ha fun o ho ro => ?_
      induction ro using ORel.listC
      exact ⟨⟨_, ho, rfl⟩, fun b q => by cases q; exact ⟨_, ho, rfl⟩⟩
    · exact noneE e
theorem Ev.meth {o : Expr} {name : Str} {apos pos : Pos} {T id : String} {es : List Expr} {fo : PS → Option (PV × PS)} {f : PS → Option (List PV × PS)} {g : List PV → PS → Option (PV × PS)} (pa : PlainAttrs T) (sl : Slot T name id) (ty : typeOf (.builtin id) = pure (.type "method_descriptor"))
    (hf : Ev G C V o fo) (H : Evs G C V es f) (hc : Cl G C (.builtin id) g) (hbase : attributeBase o name V.env (eval o V.env) = eval o V.env := by rfl) (hl : decide (es.length < 30) = true := by rfl) (hline : (apos.endLine == pos.line) = true := by rfl) :
    Ev G C V (.Call (.Attribute o name apos) es [] pos) (fun σ => fbf fo σ fun v σ => match tyOf v σ with | some T' => if T' = T then fbf f σ fun vs σ => g (v :: vs) σ else none | none => none) := by
  intro W σ X s r σ' Q E e R ok h
  refine fbE e fun v σ₁ e₁ e' => ?_
  refine wpAny_Call_method_lateS hbase (by rw [H.alln]; show decide (es.length + 0 + 0 < 30) = true; simpa using of_decide_eq_true hl) hline (hf W σ X s v σ₁ _ E e₁ R ok fun W₁ y s₁ l₁ R₁ ry => ?_)
  split at e'
  · rename_i T' hT
    split at e'
    · rename_i q
      subst q
      refine fbE e' fun vs σ₂ e₂ e₃ => ?_
      obtain ⟨t1, t2⟩ := typ hT R₁ ry
      refine ⟨T', id, pa, sl, ty, t1, t2, ?_⟩
      refine Calls.callWith_builtin (H.plain _) (H.args _ e₂ R₁ (V.mono l₁ ok) fun W₂ xs s₂ l₂ R₂ rs => ?_)
      exact hc W₂ σ₂ X s₂ (v :: vs) (y :: xs) r σ' Q E e₃ R₂ (.cons (ry.mono l₂) rs) fun W₃ z s₃ l₃ R₃ r₃ => h W₃ z s₃ (Wd.le_trans l₁ (Wd.le_trans l₂ l₃)) R₃ r₃
    · exact noneE e'
  · exact noneE e'
theorem Ev.tup {es : List Expr} {k : Nat} {pos : Pos} {f : PS → Option (List PV × PS)} (H : Evs G C V es f) : Ev G C V (.Tuple es k pos) (fun σ => fbf f σ fun vs σ => if vs.length ≤ 4096 then some (.tup vs, σ) else none) := by
  intro W σ X s r σ' Q E e R ok h
  refine fbE e fun vs σ₁ e₁ e => ?_
  split at e
  · rename_i hl
    induction e using someC
    refine wpAny_Tuple (H.spl W σ X s vs _ _ E pos e₁ R ok fun W₁ xs s₁ l₁ R₁ rs => ⟨by rw [← rs.length]; exact Nat.le_trans hl size4096, ?_⟩)
    have le : W₁.le ⟨W₁.mu, (s₁.heap.objs.size, tupO xs) :: W₁.T⟩ := ⟨⟨[], by simp⟩, fun _ h => .tail _ h⟩
    exact h _ _ _ (Wd.le_trans l₁ le) (R₁.allocT rfl) (.tup vs xs _ (.head _) (rs.mono le))
  · exact noneE e
noncomputable def fnew (po : PO) (σ : PS) : Option (PV × PS) := some (.ref σ.mem.length, ⟨σ.vars, σ.mem ++ [po]⟩)
theorem Rel.len {W σ X s} (R : Rel C W σ X s) : W.mu.length = σ.mem.length := by
  refine Rel.exE R fun m cs ms F N nd sr mr mu => ?_
  rw [← mu, List.length_map, mr.length]
theorem new_ok {W σ X s} {po : PO} {o : Obj} {r : PV} {σ' : PS} {Q : Value → Shared → Prop} (e : fnew po σ = some (r, σ')) (R : Rel C W σ X s) (ho : ORel C.ac W po s.heap.objs.size o) (h : Po C W σ' X r Q) : Q (.ref s.heap.objs.size) { s with heap := s.heap.push o } := by
  cases e
  exact h ⟨W.mu ++ [s.heap.objs.size], W.T⟩ _ _ ⟨⟨_, rfl⟩, fun _ h => h⟩ (R.alloc ho) (.ref _ _ (by rw [← R.len]; simp))
theorem Ev.lst {es : List Expr} {pos : Pos} {f : PS → Option (List PV × PS)} (H : Evs G C V es f) : Ev G C V (.List es pos) (fun σ => fbf f σ fun vs σ => if vs.length ≤ 4096 then fnew (.list vs) σ else none) := by
  intro W σ X s r σ' Q E e R ok h
  refine fbE e fun vs σ₁ e₁ e => ?_
  split at e
  · rename_i hl
    refine wpAny_List (H.spl W σ X s vs _ _ E pos e₁ R ok fun W₁ xs s₁ l₁ R₁ rs => ⟨by rw [← rs.length]; exact Nat.le_trans hl size4096, ?_⟩)
    exact new_ok (Q := Q) e R₁ (.list vs xs 0 rs) fun W₂ z s₂ l₂ R₂ r₂ => h W₂ z s₂ (Wd.le_trans l₁ l₂) R₂ r₂
  · exact noneE e
theorem Ev.str {x : Str} {k : Nat} {p : Pos} (l : List Nat) (hl : x = mkS' l := by rfl) : Ev G C V (.Constant (.str x) k p) (fun σ => some (.str l, σ)) := by
  intro W σ X s r σ' Q E e R _ h
  induction e using someC
  subst hl
  exact wpAny_Constant_str (h W _ _ (Wd.le_refl _) (R.toks _) (.str l _))
noncomputable def oNeg : PV → PS → Option (PV × PS)
  | .int a, σ => some (.int (-a), σ)
  | _, _ => none
theorem Ev.un {op : UnaryOp} {e : Expr} {p : Pos} {f : PS → Option (PV × PS)} {o : PV → PS → Option (PV × PS)} (he : Ev G C V e f) (ho : Op1 G C (unaryOp op) o) : Ev G C V (.UnaryOp op e p) (fun σ => fbf f σ fun v σ => o v σ) := by
  intro W σ X s r σ' Q E e R ok h
  refine fbE e fun v σ₁ e₁ e₂ => ?_
  exact wpAny_UnaryOp (he W σ X s v σ₁ _ E e₁ R ok fun W₁ y s₁ l₁ R₁ ry => ho W₁ σ₁ X s₁ v y r σ' Q E e₂ R₁ ry fun W₂ z s₂ l₂ R₂ r₂ => h W₂ z s₂ (Wd.le_trans l₁ l₂) R₂ r₂)
theorem Op1.neg : Op1 G C (unaryOp .USub) oNeg := by
  intro W σ X s a x r σ' Q E e R ra h
  unfold oNeg at e
  split at e
  · induction ra using VRel.intC; induction e using someC; exact neg_int (h W _ _ (Wd.le_refl _) (R.toks _) (.int _ _))
  · exact noneE e
end
end Mine
end
section
open PySem PySem.W PyProof.Rows PySem.Calls
namespace Mine
section
variable {C : Cx} {W W' : Wd} {σ σ' : PS} {X X' : Led} {s : Shared}
theorem Rel.perm (R : Rel C W σ X s) (h : X.Perm X') : Rel C W σ X' s := by
  obtain ⟨m, cs, ms, F, N, nd, r⟩ := R.ex
  have hp : (cs ++ (ms ++ (W.T ++ X'))).Perm (cs ++ (ms ++ (W.T ++ X))) := List.Perm.append_left _ (List.Perm.append_left _ (List.Perm.append_left _ h.symm))
  exact ⟨⟨m, cs, ms, F, fun p hp' => N p (hp.mem_iff.mp hp'), (hp.map _).nodup_iff.mpr nd, r⟩, R.bare, R.os, R.tk⟩
theorem Rel.freshX (R : Rel C W σ X s) {a : Addr} {o : Obj} {h' : Heap} {tk : Nat} (hn : s.heap.get? a = none) (hk : ∀ b x, s.heap.get? b = some x → h'.get? b = some x) (ho : h'.get? a = some o) (ht : 0 < tk) : Rel C W σ ((a, o) :: X) { s with heap := h', toks := tk } := by
  obtain ⟨m, cs, ms, F, N, nd, r⟩ := R.ex
  have h0 : C.h₀.get? a = none := by
    cases q : C.h₀.get? a with
    | none => rfl
    | some x => have := F.keep a x q; rw [hn] at this; exact noneE this
  have hL : a ≠ C.L := by
    obtain ⟨oL, es, ep, hL, _⟩ := F.ns
    rintro rfl
    rw [hn] at hL; exact noneE hL
  have hnew : a ∉ (cs ++ (ms ++ (W.T ++ X))).map (·.1) := fun hm => by
    obtain ⟨p, hp, e⟩ := List.mem_map.mp hm
    have := (N p hp).1
    rw [e, hn] at this; exact noneE this
  refine ⟨⟨m, cs, ms, ⟨F.ns.at' fun o e => hk _ o e, fun b x q => hk b x (F.keep b x q), F.above⟩, ?_, ?_, r⟩, R.bare, R.os, ht⟩
  · intro p hp
    simp only [List.mem_append, List.mem_cons] at hp
    have old : ∀ p ∈ cs ++ (ms ++ (W.T ++ X)), h'.get? p.1 = some p.2 ∧ p.1 ≠ C.L ∧ C.h₀.get? p.1 = none := fun p hp => ⟨hk _ _ (N p hp).1, (N p hp).2⟩
    rcases hp with h | h | h | h | h
    · exact old p (by simp [h])
    · exact old p (by simp [h])
    · exact old p (by simp [h])
    · subst h; exact ⟨ho, hL, h0⟩
    · exact old p (by simp [h])
  · have := nodup_mid (A := (cs ++ (ms ++ W.T)).map (·.1)) (B := X.map (·.1)) (a := a) (by simpa using hnew) (by simpa using nd)
    simpa using this
theorem Rel.promote {a : Addr} {o : Obj} {po : PO} (R : Rel C W σ ((a, o) :: X) s) (ho : ORel C.ac W po a o) : Rel C ⟨W.mu ++ [a], W.T⟩ ⟨σ.vars, σ.mem ++ [po]⟩ X s := by
  refine Rel.exE R fun m cs ms F N nd sr mr mu => ?_
  have le : W.le ⟨W.mu ++ [a], W.T⟩ := ⟨⟨_, rfl⟩, fun _ h => h⟩
  have hp : (cs ++ (ms ++ [(a, o)] ++ (W.T ++ X))).Perm (cs ++ (ms ++ (W.T ++ (a, o) :: X))) := by
    refine List.Perm.append_left _ ?_
    rw [List.append_assoc]
    refine List.Perm.append_left _ ?_
    show ((a, o) :: (W.T ++ X)).Perm _
    exact List.perm_middle.symm
  exact ⟨⟨m, cs, ms ++ [(a, o)], F, fun p hp' => N p (hp.mem_iff.mp hp'), (hp.map _).nodup_iff.mpr nd, sr.mono le, (mr.mono le).snoc (ho.mono le), by simp [mu]⟩, R.bare, R.os, R.tk⟩
end
noncomputable def fcomp (nx : Nat → PS → Option (Option PV)) (ts : PV → PS → Option (Bool × PS)) (el : PV → PS → Option (PV × PS)) : Nat → Nat → List PV → PS → Option (List PV × PS)
  | 0, _, _, _ => none
  | n + 1, i, acc, σ => match nx i σ with
    | some (some v) => fb (ts v σ) fun b σ => match b with
      | true => fb (el v σ) fun y σ => if acc.length ≤ 4096 then fcomp nx ts el n (i + 1) (acc ++ [y]) σ else none
      | false => fcomp nx ts el n (i + 1) acc σ
    | some none => some (acc, σ)
    | none => none
inductive Cts (G : Gd) (C : Cx) (V : Vw) : List Expr → (PS → Option (Bool × PS)) → Prop
  | nil : Cts G C V [] (fun σ => some (true, σ))
  | one {c f} : Ts G C V c f → Cts G C V [c] f
section
variable {G : Gd} {C : Cx} {V : Vw}
theorem Cts.run {ifs : List Expr} {f : PS → Option (Bool × PS)} (H : Cts G C V ifs f) {W σ X s r σ'} {Q : Bool → Shared → Prop} {E : Value → Shared → Prop} (e : f σ = some (r, σ')) (R : Rel C W σ X s) (ok : V.ok W X) (h : ∀ W' s', W.le W' → Rel C W' σ' X s' → Q r s') :
    wpAny (model G.p G.w) C.A (forIn ifs true fun c r => if r = true then do let ok ← isTrue c V.env (eval c V.env); pure (ForInStep.yield ok) else pure (ForInStep.yield r)) Q E s := by
  cases H with
  | nil => induction e using someC; exact wpAny_tests_nil (h W s (Wd.le_refl _) R)
  | one hc => exact wpAny_tests_one (hc W σ X s r σ' Q E e R ok h)
theorem perm3 {α : Type} (a b c : α) (l : List α) : (a :: b :: c :: l).Perm (b :: a :: c :: l) := List.Perm.swap b a _
theorem perm4 {α : Type} (a b c : α) (l : List α) : (a :: b :: c :: l).Perm (c :: b :: a :: l) := by
  refine (List.Perm.cons a (List.Perm.swap c b l)).trans ?_
  refine (List.Perm.swap c a _).trans ?_
  exact List.Perm.cons c (List.Perm.swap b a l)
inductive CpInv (C : Cx) (W : Wd) (X : Led) (Cn D I : Addr) (ok : Nat → Wd → Obj → Prop) (g : Nat → Nat → List PV → PS → Prop) (k : Nat) (s' : Shared) : Prop
  | mk (W' : Wd) (σ₁ : PS) (i : Nat) (o' oC' : Obj) (m' : Str → Option Value) (xs : List Value) (k' : Nat) (ys : List PV) : W.le W' → ok i W' o' → LCg.NsObj oC' m' → VRels W' ys xs → Rel C W' σ₁ ((Cn, oC') :: (D, listO xs k') :: (I, o') :: X) s' → g k i ys σ₁ → CpInv C W X Cn D I ok g k s'
theorem comp_run (K : COk1 G C) {elt iter : Expr} {x : Str} {px : Pos} {ifs : List Expr} {sc : Scope} {cl : List (Str × Addr)} {pos : Pos} {ts : PV → PS → Option (Bool × PS)} {el : PV → PS → Option (PV × PS)}
    (hcell : ∀ y ∈ sc.names, y.2 ≠ .cell) (hkind : sc.kind = .function) (hx : sc.names.lookup x = some .local)
    (ht : ∀ Cn v, Cts G C (cvw C sc cl Cn x v) ifs (ts v)) (hel : ∀ Cn v, Ev G C (cvw C sc cl Cn x v) elt (el v)) {W σ X s v y q σ' acc} {n : Nat} {E : Value → Shared → Prop} (T : Value → Addr → Result → Shared → Prop)
    (hq : nxOf v 0 σ = some q) (R : Rel C W σ X s) (rv : VRel W v y) (e : fcomp (nxOf v) ts el n 0 [] σ = some (acc, σ'))
    (hT : ∀ W' s' Cn oC D xs k m, W.le W' → Rel C W' σ' ((Cn, oC) :: (D, listO xs k) :: X) s' → VRels W' acc xs → LCg.NsObj oC m → T (.ref D) Cn (.ok .next) s') :
    wpAny (model G.p G.w) C.A (pyIter y) (fun it s₂ => wpAny (model G.p G.w) C.A (newList []) (fun acc s₃ => wpAny (model G.p G.w) C.A (newFunctionEnv sc C.fenv.globals cl [] C.fenv.qual none .none (some C.fenv)) (fun cenv s₄ =>
      codeAny (model G.p G.w) C.A (.compStart (.ListComp elt [⟨.Name x px, iter, ifs, 0⟩] sc pos) 0 it acc { cenv with scope := relabel sc C.fenv }) (T acc cenv.locals) s₄) E s₃) E s₂) E s := by
  refine iter_ok K hq R rv fun I o ok s₁ S hok R₁ => ?_
  refine wpAny_newObj_type ?_
  have R₂ := R₁.allocX (o := { cls := .type "list", dict := none, data := .seq ([] : List Value).toArray }) rfl
  generalize hD : s₁.heap.objs.size = D at R₂ ⊢
  generalize hs₂ : ({ s₁ with heap := s₁.heap.push { cls := .type "list", dict := none, data := .seq ([] : List Value).toArray } } : Shared) = s₂ at R₂ ⊢
  refine wpAny_newFunctionEnv hcell (by intro y hy; simp at hy) (fun h₁ hns₁ hsb₁ => ?_) hkind
  generalize hCn : s₂.heap.objs.size = Cn at hns₁ hsb₁ ⊢
  obtain ⟨oC, heC, hoC⟩ := LCg.ns_obj hns₁
  have fresh : s₂.heap.get? Cn = none := by
    cases e : s₂.heap.get? Cn with
    | none => rfl
    | some o' => have := Heap.lt_size e; rw [hCn] at this; exact absurd this (Nat.lt_irrefl _)
  have old : ∀ b x, s₂.heap.get? b = some x → h₁.get? b = some x := fun b x e => hsb₁.extBut b x (fun q => by rw [q, fresh] at e; exact noneE e) (Heap.get?_push_of_some _ e)
  have R₃ := R₂.freshX (tk := s₂.toks + ([] : List (Str × Value)).length) fresh old heC R₂.tk
  generalize hs₃ : ({ s₂ with heap := h₁, toks := s₂.toks + ([] : List (Str × Value)).length } : Shared) = s₃ at R₃ ⊢
  have loop : codeAny (model G.p G.w) C.A (.compLoop (.ListComp elt [⟨.Name x px, iter, ifs, 0⟩] sc pos) 0 (.ref I) (.ref D) (compEnvC sc cl Cn C.fenv)) (T (.ref D) Cn) s₃ := by
    refine codeAny_compLoop_tests (CpInv C W X Cn D I ok fun k i ys σ₁ => fcomp (nxOf v) ts el k i ys σ₁ = some (acc, σ')) ?_ n (.mk W σ 0 o oC _ [] _ [] (Wd.le_refl _) hok hoC .nil R₃ e)
    rintro k s' ⟨W', σ₁, i, o', oC', m', xs, k', ys, le, hok', hoC', rys, R', e'⟩
    induction k using natC with
    | zero => cases e'
    | succ k =>
      simp only [fcomp] at e'
      split at e'
      · rename_i v' hv'
        refine S.item i W' σ₁ _ s' o' v' _ _ hok' (R'.perm (perm4 _ _ _ _)) hv' fun o₂ z s₄ hok₂ R₄ rz => ?_
        have R₄' := R₄.perm (perm4 _ _ _ _)
        refine fbE e' fun b σ₂ e₁ e₂ => ?_
        refine PySem.wpAny_assign_Name (wpAny_storeName_local (lookup_relabel_local hx) (hoC'.ns (R₄'.getX (.head _))) (fun h₅ hn₅ hs₅ => ?_) (by simp [compEnvC, relabel, hkind]))
        obtain ⟨oC₅, heC₅, hoC₅⟩ := LCg.ns_obj hn₅
        have R₅ := (R₄'.setX hs₅ heC₅).toks (s₄.toks + 1)
        have okc : (cvw C sc cl Cn x v').ok W' ((Cn, oC₅) :: (D, listO xs k') :: (I, o₂) :: X) := ⟨oC₅, _, z, .head _, hoC₅, by simp, rz⟩
        refine (ht Cn v').run e₁ R₅ okc fun W₆ s₆ l₆ R₆ => ?_
        have okc₆ := (cvw C sc cl Cn x v').mono l₆ okc
        induction b using boolC with
        | true =>
          simp only [if_true]
          refine fbE e₂ fun u σ₃ e₃ e₄ => ?_
          split at e₄
          · rename_i hlen
            refine hel Cn v' W₆ σ₂ _ s₆ u σ₃ _ _ e₃ R₆ okc₆ fun W₇ yv s₇ l₇ R₇ ry => ?_
            have rys₇ := (rys.mono l₆).mono l₇
            refine append_at (hsz := by rw [List.size_toArray, ← rys.length]; exact Nat.le_trans hlen size4096) (R₇.getX (.tail _ (.head _))) fun h₈ hs₈ hD₈ => ?_
            rw [List.push_toArray] at hD₈
            have R₈ := ((R₇.perm (perm3 _ _ _ _)).setX hs₈ hD₈).perm (perm3 _ _ _ _)
            exact ⟨k, Nat.lt_succ_self _, .mk W₇ σ₃ (i + 1) o₂ oC₅ _ (xs ++ [yv]) (k' + 1) (ys ++ [u]) (Wd.le_trans le (Wd.le_trans l₆ l₇)) (S.mono (Wd.le_trans l₆ l₇) hok₂) hoC₅ (rys₇.snoc ry) R₈ e₄⟩
          · exact noneE e₄
        | false =>
          simp only [Bool.false_eq_true, if_false]
          exact ⟨k, Nat.lt_succ_self _, .mk W₆ σ₂ (i + 1) o₂ oC₅ _ xs k' ys (Wd.le_trans le l₆) (S.mono l₆ hok₂) hoC₅ (rys.mono l₆) R₆ e₂⟩
      · rename_i hv'
        induction e' using someC
        exact S.done i W' _ _ s' o' _ _ hok' (R'.perm (perm4 _ _ _ _)) hv' fun s₄ R₄ => hT W' s₄ Cn oC' D xs k' m' le (R₄.perm (List.Perm.swap _ _ _)) rys hoC'
      · exact noneE e'
  refine codeAny_compStart_list loop (S.self 0 W σ _ s₃ o _ _ hok (R₃.perm (perm4 _ _ _ _)) loop)
theorem Ev.comp (K : COk1 G C) {elt iter : Expr} {x : Str} {px : Pos} {ifs : List Expr} {sc : Scope} {cl : List (Str × Addr)} {pos : Pos} {fi : PS → Option (PV × PS)} {ts : PV → PS → Option (Bool × PS)} {el : PV → PS → Option (PV × PS)} (n : Nat)
    (hi : Ev G C (fv C) iter fi) (hclos : closureFor sc C.fenv = pure cl) (hcell : ∀ y ∈ sc.names, y.2 ≠ .cell) (hkind : sc.kind = .function)
    (hnames : ∀ y ∈ sc.names, y.2 = .local → sc.names.lookup y.1 = some .local) (hx : sc.names.lookup x = some .local)
    (ht : ∀ Cn v, Cts G C (cvw C sc cl Cn x v) ifs (ts v)) (hel : ∀ Cn v, Ev G C (cvw C sc cl Cn x v) elt (el v)) (hs : ∀ x, foldedSetIterable iter C.fenv x = pure x := by intro _; rfl) :
    Ev G C (fv C) (.ListComp elt [⟨.Name x px, iter, ifs, 0⟩] sc pos) (fun σ => fbf fi σ fun v σ => fb (fcomp (nxOf v) ts el n 0 [] σ) fun acc σ => fnew (.list acc) σ) := by
  intro W σ X s r σ' Q E e R ok h
  refine fbE e fun v σ₁ e₁ e => ?_
  refine fbE e fun acc σ₂ e₂ e₃ => ?_
  have hq : ∃ q, nxOf v 0 σ₁ = some q := by
    induction n using natC with
    | zero => cases e₂
    | succ n =>
      simp only [fcomp] at e₂
      split at e₂
      · rename_i q; exact ⟨_, q⟩
      · rename_i q; exact ⟨_, q⟩
      · exact noneE e₂
  obtain ⟨q, hq⟩ := hq
  show wpAny _ _ (eval (.ListComp elt [⟨.Name x px, iter, ifs, 0⟩] sc pos) C.fenv) _ _ _
  rw [eval_ListComp]
  refine wpAny_comprehension_free (use := none) rfl hs hclos hkind hnames (hi W σ X s v σ₁ _ E e₁ R ok fun W₁ y s₁ l₁ R₁ ry => ?_)
  refine comp_run K hcell hkind hx ht hel _ hq R₁ ry e₂ fun W₂ s₂ Cn oC D xs k m l₂ R₂ rs hoC => ?_
  refine ⟨m, hoC.ns (R₂.getX (.head _)), fun h' hs' => ?_⟩
  have R₃ := R₂.endX (h' := h') (tk := s₂.toks) (fun b x hb e => hs'.extBut b x hb e) R₂.tk
  cases e₃
  refine h ⟨W₂.mu ++ [D], W₂.T⟩ _ _ (Wd.le_trans (Wd.le_trans l₁ l₂) ⟨⟨_, rfl⟩, fun _ h => h⟩) (R₃.promote (.list acc xs k rs)) (.ref _ _ ?_)
  rw [← R₃.len]; simp
end
end Mine
end
section
open PySem PySem.W PyProof.Rows PySem.Calls
namespace Mine
theorem ls1 {xs : List Value} (h : xs.length = 1) : ∃ a, xs = [a] := by
  induction xs using listC with
  | nil => cases h
  | cons a xs => induction xs using listC with
    | nil => exact ⟨a, rfl⟩
    | cons _ _ => cases h
theorem ls2 {xs : List Value} (h : xs.length = 2) : ∃ a b, xs = [a, b] := by
  induction xs using listC with
  | nil => cases h
  | cons a xs => obtain ⟨b, rfl⟩ := ls1 (Nat.succ.inj h); exact ⟨a, b, rfl⟩
theorem ls3 {xs : List Value} (h : xs.length = 3) : ∃ a b c, xs = [a, b, c] := by
  induction xs using listC with
  | nil => cases h
  | cons a xs => obtain ⟨b, c, rfl⟩ := ls2 (Nat.succ.inj h); exact ⟨a, b, c, rfl⟩
noncomputable def FnD.env (d : FnD) (L : Addr) : Env := envX d.qual d.scope L d.f d.cdv d.cl
noncomputable def FnD.nm (d : FnD) : List (Str × Bool) := (d.pn ++ d.rn).map fun x => (x, false)
structure FnOk (G : Gd) (d : FnD) : Prop where
  obj : d ∈ G.fns
  kinds : ∀ x ∈ d.pn ++ d.rn, d.scope.names.lookup x = some .local
  nodup : (d.pn ++ d.rn).Nodup
  nocell : ∀ x ∈ d.scope.names, x.2 ≠ .cell
  co : d.scope.isCoroutine = false
  gen : d.scope.isGenerator = false
  kind : d.scope.kind = .function
  inj : ∀ x y c, d.cl.lookup x = some c → d.cl.lookup y = some c → y = x := by intro x y c h; cases h
  bind : ∀ s xs, G.K.In s.heap → xs.length = d.pn.length → BindsTo s d.fd ⟨xs, []⟩ (d.pn.zip xs)
noncomputable def fnChk (d : FnD) : Bool := ((d.pn ++ d.rn).all fun x => decide (d.scope.names.lookup x = some .local)) && (decide (d.pn ++ d.rn).Nodup && d.scope.names.all fun x => decide (x.2 ≠ .cell))
theorem fnChk_kinds {d : FnD} (h : fnChk d = true) : ∀ x ∈ d.pn ++ d.rn, d.scope.names.lookup x = some .local := fun x hx => of_decide_eq_true (List.all_eq_true.mp (Bool.and_eq_true_iff.mp h).1 x hx)
theorem fnChk_nodup {d : FnD} (h : fnChk d = true) : (d.pn ++ d.rn).Nodup := of_decide_eq_true (Bool.and_eq_true_iff.mp (Bool.and_eq_true_iff.mp h).2).1
theorem fnChk_nocell {d : FnD} (h : fnChk d = true) : ∀ x ∈ d.scope.names, x.2 ≠ .cell := fun x hx => of_decide_eq_true (List.all_eq_true.mp (Bool.and_eq_true_iff.mp (Bool.and_eq_true_iff.mp h).2).2 x hx)
noncomputable def cxF (C : Cx) (d : FnD) (L : Addr) (g : Heap) : Cx :=
  { A := C.A.deeper (d.env L), A₀ := C.A, base := C.base, outer := C.fenv :: C.outer, h₀ := g, L := L, fenv := d.env L, nm := d.nm, ac := C.ac, os := C.os, lv := C.lv - 1 }
theorem cxF_ok {G : Gd} {C : Cx} {d : FnD} (K : COk1 G C) (D : FnOk G d) {L : Addr} {g : Heap} (B : Below C.A C.base (C.fenv :: C.outer) g) (st : C.h₀.StaysIn g) (hlv : 0 < C.lv) : COk1 G (cxF C d L g) where
  below := B
  frames := Around.frames_deeper K.frames
  frame := rfl
  kind := D.kind
  handled := K.handled
  nm := by
    show ((d.nm).map (·.1)).Nodup
    unfold FnD.nm
    rw [List.map_map]
    have : ((fun x : Str × Bool => x.1) ∘ fun x : Str => (x, false)) = id := rfl
    rw [this, List.map_id]; exact D.nodup
  globals := rfl
  builtins := rfl
  locals := rfl
  gd := K.gd.keeps st
  cells := by
    intro x b hm
    obtain ⟨y, hy, e⟩ := List.mem_map.mp (show (x, b) ∈ d.nm from hm)
    cases e
    exact D.kinds x hy
  room := by
    have := K.room
    show C.A.depth + 1 + (C.lv - 1) < _
    omega
  inj := D.inj
  acp := K.acp
  acC := K.acC
  acP := K.acP
  acw := K.acw
  units := by
    have := K.units
    show C.A.units + 3 + 3 * (C.lv - 1) + 8 < _
    omega
theorem SRel.nones {W : Wd} {cl : List (Str × Addr)} {m : Str → Option Value} {cs : Led} (rn : List Str) : SRel W cl m cs (rn.map fun x => (x, false)) (rn.map fun _ => none) := by
  induction rn with
  | nil => exact .nil
  | cons x r ih => exact .loc (fun pv e => nomatch e) ih
theorem SRel.of {W : Wd} {cl : List (Str × Addr)} {m : Str → Option Value} {cs : Led} {rn : List Str} {pn : List Str} {vs : List PV} {xs : List Value} (h : pn.length = vs.length) (r : VRels W vs xs) (hm : ∀ x y, (x, y) ∈ pn.zip xs → m x = some y) :
    SRel W cl m cs ((pn ++ rn).map fun x => (x, false)) (vs.map some ++ rn.map fun _ => none) := by
  induction r using VRels.ind generalizing pn with
  | nil =>
    obtain rfl : pn = [] := List.eq_nil_of_length_eq_zero h
    exact SRel.nones rn
  | cons r rs ih =>
    induction pn using listC with
    | nil => cases h
    | cons x pn => exact .loc (fun pv e => by induction e using some1C; exact ⟨_, hm _ _ (.head _), r⟩) (ih (Nat.succ.inj h) fun x y hx => hm x y (.tail _ hx))
theorem lookup_zip {pn : List Str} {xs : List Value} (nd : pn.Nodup) {x : Str} {y : Value} (h : (x, y) ∈ pn.zip xs) : ((pn.zip xs).reverse).lookup x = some y := by
  have key : ∀ (l : List (Str × Value)), (l.map (·.1)).Nodup → (x, y) ∈ l → l.lookup x = some y := by
    intro l
    induction l with
    | nil => intro _ h; cases h
    | cons p l ih =>
      intro nd h
      obtain ⟨a, b⟩ := p
      rw [List.map_cons, List.nodup_cons] at nd
      rcases List.mem_cons.mp h with e | h
      · cases e; simp
      · have : x ≠ a := fun q => nd.1 (q ▸ List.mem_map.mpr ⟨_, h, rfl⟩)
        rw [List.lookup_cons, show (x == a) = false by simpa using this]
        exact ih nd.2 h
  refine key _ ?_ (List.mem_reverse.mpr h)
  rw [List.map_reverse]
  refine (List.reverse_perm _).nodup_iff.mpr ?_
  refine List.Nodup.sublist ?_ nd
  clear key h nd
  induction pn generalizing xs with
  | nil => exact .slnil
  | cons a pn ih =>
    induction xs using listC with
    | nil => exact List.nil_sublist _
    | cons b xs => exact (ih (xs := xs)).cons₂ a
noncomputable def fcall (d : FnD) (F : PS → Option (Fl × PS)) (vs : List PV) (σ : PS) : Option (PV × PS) :=
  if vs.length = d.pn.length then
    match F ⟨vs.map some ++ d.rn.map fun _ => none, σ.mem⟩ with
    | some (.ret v, σ') => some (v, ⟨σ.vars, σ'.mem⟩)
    | some (.next, σ') => some (.none, ⟨σ.vars, σ'.mem⟩)
    | _ => none
  else none
end Mine
end
section
open PySem PySem.W PyProof.Rows PySem.Calls
namespace Mine
noncomputable def idxOk (k : Int) : Bool := decide (-4096 ≤ k) && decide (k ≤ 4096)
noncomputable def fgi : PV → PV → PS → Option (PV × PS)
  | .str x, .int k, σ => if idxOk k = true then (seqIndex? k x.length).bind fun j => x[j]?.map fun c => (.str [c], σ) else none
  | .tup vs, .int k, σ => if idxOk k = true then (seqIndex? k vs.length).bind fun j => vs[j]?.map fun v => (v, σ) else none
  | .ref l, .int k, σ => match σ.mem[l]? with
    | some (.list xs) => if idxOk k = true then (seqIndex? k xs.length).bind fun j => xs[j]?.map fun v => (v, σ) else none
    | _ => none
  | .ref l, .str key, σ => match σ.mem[l]? with
    | some (.dict es) => (es.lookup key).map fun v => (v, σ)
    | _ => none
  | _, _, _ => none
noncomputable def dstore (es : List (List Nat × PV)) (k : List Nat) (v : PV) : List (List Nat × PV) :=
  if es.any (fun kv => kv.1 = k) then es.map (fun kv => if kv.1 = k then (kv.1, v) else kv) else es ++ [(k, v)]
noncomputable def fsi : PV → PV → PV → PS → Option PS
  | .ref l, .int k, v, σ => match σ.mem[l]? with
    | some (.list xs) => if idxOk k = true then (seqIndex? k xs.length).map fun j => ⟨σ.vars, σ.mem.set l (.list (xs.set j v))⟩ else none
    | _ => none
  | .ref l, .str key, v, σ => match σ.mem[l]? with
    | some (.dict es) => if es.length ≤ 4096 then some ⟨σ.vars, σ.mem.set l (.dict (dstore es key v))⟩ else none
    | _ => none
  | _, _, _, _ => none
noncomputable def fdi : PV → PV → PS → Option PS
  | .ref l, .int k, σ => match σ.mem[l]? with
    | some (.list xs) => if idxOk k = true ∧ xs.length ≤ 4096 then (seqIndex? k xs.length).map fun j => ⟨σ.vars, σ.mem.set l (.list (xs.eraseIdx j))⟩ else none
    | _ => none
  | _, _, _ => none
theorem idxOk_le {k : Int} (h : idxOk k = true) : -4096 ≤ k ∧ k ≤ 4096 := by
  unfold idxOk at h
  simp only [Bool.and_eq_true, decide_eq_true_eq] at h
  exact h
theorem seqIdx {k : Int} {n j : Nat} (h : seqIndex? k n = some j) : j < n ∧ ((0 ≤ k ∧ k.toNat = j) ∨ (k < 0 ∧ -(n : Int) ≤ k ∧ (k + n).toNat = j)) := by
  unfold seqIndex? at h
  by_cases hk : k < 0
  · simp only [if_pos hk] at h
    by_cases q : 0 ≤ k + (n : Int) ∧ k + (n : Int) < n
    · rw [if_pos (by simpa using q)] at h
      injection h with h
      exact ⟨by omega, .inr ⟨hk, by omega, h⟩⟩
    · rw [if_neg (by simpa using q)] at h; exact noneE h
  · simp only [if_neg hk] at h
    by_cases q : 0 ≤ k ∧ k < n
    · rw [if_pos (by simpa using q)] at h
      injection h with h
      exact ⟨by omega, .inl ⟨by omega, h⟩⟩
    · rw [if_neg (by simpa using q)] at h; exact noneE h
theorem mkS'_inj {a b : List Nat} (h : mkS' a = mkS' b) : a = b := by
  have := congrArg (fun s : Str => s.cps.toList) h
  simpa using this
section
variable {W : Wd}
theorem DRel.find {es : List (List Nat × PV)} {ds : List (Str × Value)} {key : List Nat} {v : PV} (r : DRel W es ds) (e : es.lookup key = some v) : ∃ x, valueAt ds (mkS' key) = some x ∧ VRel W v x := by
  induction r with
  | nil => cases e
  | @cons k v' x es ds rv _ ih =>
    rw [List.lookup_cons] at e
    by_cases hk : key = k
    · subst hk
      rw [show (key == key) = true by simp] at e
      induction e using some1C
      exact ⟨x, by simp [valueAt], rv⟩
    · rw [show (key == k) = false by simpa using hk] at e
      obtain ⟨y, hy, ry⟩ := ih e
      refine ⟨y, ?_, ry⟩
      have : ¬ mkS' k = mkS' key := fun q => hk (mkS'_inj q).symm
      simpa [valueAt, List.find?_cons, this] using hy
theorem DRel.any {es : List (List Nat × PV)} {ds : List (Str × Value)} {key : List Nat} (r : DRel W es ds) : es.any (fun kv => kv.1 = key) = ds.any (fun kv => kv.1 = mkS' key) := by
  induction r with
  | nil => rfl
  | @cons k v x es ds rv _ ih =>
    rw [List.any_cons, List.any_cons, ih]
    congr 1
    by_cases hk : k = key
    · subst hk; simp
    · have : ¬ mkS' k = mkS' key := fun q => hk (mkS'_inj q)
      simp [hk, this]
theorem DRel.app {es es' : List (List Nat × PV)} {ds ds' : List (Str × Value)} (r : DRel W es ds) (r' : DRel W es' ds') : DRel W (es ++ es') (ds ++ ds') := by
  induction r with
  | nil => exact r'
  | cons rv _ ih => exact .cons rv ih
theorem DRel.map {es : List (List Nat × PV)} {ds : List (Str × Value)} {key : List Nat} {v : PV} {x : Value} (r : DRel W es ds) (rv : VRel W v x) : DRel W (es.map (fun kv => if kv.1 = key then (kv.1, v) else kv)) (ds.map (fun kv => if kv.1 = mkS' key then (kv.1, x) else kv)) := by
  induction r with
  | nil => exact .nil
  | @cons k v' x' es ds rv' _ ih =>
    rw [List.map_cons, List.map_cons]
    by_cases hk : k = key
    · subst hk
      rw [if_pos rfl, if_pos rfl]
      exact .cons rv ih
    · have : ¬ mkS' k = mkS' key := fun q => hk (mkS'_inj q)
      rw [if_neg hk, if_neg this]
      exact .cons rv' ih
theorem DRel.store {es : List (List Nat × PV)} {ds : List (Str × Value)} {key : List Nat} {v : PV} {x : Value} (r : DRel W es ds) (rv : VRel W v x) : DRel W (dstore es key v) (stored ds (mkS' key) x) := by
  unfold dstore stored
  rw [r.any]
  split
  · exact r.map rv
  · exact r.app (.cons rv .nil)
theorem DRel.length {es : List (List Nat × PV)} {ds : List (Str × Value)} (r : DRel W es ds) : es.length = ds.length := by
  induction r with
  | nil => rfl
  | cons _ _ ih => rw [List.length_cons, List.length_cons, ih]
end
theorem isStr_mk {p : Program} {w : World} (k : List Nat) (t : Tok) : (strKind p w).is (mkS' k) (.str (mkS' k) t) = true := by
  simp [PySem.strKind, PySem.Value.isStrOf]
section
variable {G : Gd} {C : Cx} {V : Vw}
theorem Op2.gi (K : COk1 G C) : Op2 G C getItem fgi := by
  intro W σ X s a b x y r σ' Q E e R ra rb h
  unfold fgi at e
  split at e
  · split at e
    · rename_i hk
      obtain ⟨j, hj, e⟩ := Option.bind_eq_some_iff.mp e
      obtain ⟨c, hc, e⟩ := Option.map_eq_some_iff.mp e
      induction ra using VRel.strC; induction rb using VRel.intC; cases e
      have hk := idxOk_le hk
      refine P.getItem_str (c := c) (by simp; omega) ?_ (h W _ _ (Wd.le_refl _) (R.toks _) (.str [c] _))
      rw [mkS'_len, hj]
      simpa [mkS'] using hc
    · exact noneE e
  · split at e
    · rename_i hk
      obtain ⟨j, hj, e⟩ := Option.bind_eq_some_iff.mp e
      obtain ⟨c, hc, e⟩ := Option.map_eq_some_iff.mp e
      cases e
      have hk := idxOk_le hk
      induction ra using VRel.tupC with
      | tup xs t hm rv =>
        induction rb using VRel.intC
        obtain ⟨z, hz, rz⟩ := rv.get hc
        refine getItem_tuple (items := xs.toArray) (j := j) ⟨_, R.getT hm, rfl, _, rfl⟩ (by omega) (by omega) ?_ (by simpa using hz) (h W z s (Wd.le_refl _) R rz)
        rw [List.size_toArray, ← rv.length]; exact hj
    · exact noneE e
  · split at e
    · rename_i xs hx
      split at e
      · rename_i hk
        obtain ⟨j, hj, e⟩ := Option.bind_eq_some_iff.mp e
        obtain ⟨c, hc, e⟩ := Option.map_eq_some_iff.mp e
        cases e
        have hk := idxOk_le hk
        induction ra using VRel.refC with
        | ref ad ha =>
          induction rb using VRel.intC
          refine Rel.getME R hx ha fun o ho ro => ?_
          induction ro using ORel.listC with
          | list vs n rv =>
            obtain ⟨z, hz, rz⟩ := rv.get hc
            obtain ⟨hlt, hcase⟩ := seqIdx hj
            rcases hcase with ⟨h0, rfl⟩ | ⟨h0, h1, h2⟩
            · exact wpAny_getItem_list ⟨_, ho, rfl, _, rfl⟩ h0 (by omega) (by simpa using hz) (h W z s (Wd.le_refl _) R rz)
            · refine wpAny_getItem_list_neg ⟨_, ho, rfl, _, rfl⟩ h0 ?_ (by omega) ?_ (h W z s (Wd.le_refl _) R rz)
              · rw [List.size_toArray, ← rv.length]; exact h1
              · rw [List.size_toArray, ← rv.length, h2]; simpa using hz
      · exact noneE e
    · exact noneE e
  · split at e
    · rename_i es hx
      obtain ⟨v, hv, e⟩ := Option.map_eq_some_iff.mp e
      cases e
      induction ra using VRel.refC with
      | ref ad ha =>
        induction rb using VRel.strC
        refine Rel.getME R hx ha fun o ho ro => ?_
        induction ro using ORel.dictC with
        | dict ds rd dd =>
          obtain ⟨z, hz, rz⟩ := rd.find hv
          obtain ⟨es', ep, d1, d2, d3, d4, d5⟩ := dd
          rw [K.acp, K.acw] at d3 d4
          exact wpAny_getItem_of (knd := strKind G.p G.w) (isStr_mk _ _) (Heap.DictOf.mapOf ⟨o, es', ep, ho, d1, d2, d3, d4, d5⟩) hz (h W z _ (Wd.le_refl _) (R.toks _) rz)
    · exact noneE e
  · exact noneE e
theorem sameUpd {h : Heap} {l : Addr} {vs : List Value} {n : Nat} (ho : h.get? l = some (listO vs n)) (j : Nat) (v : Value) : (h.update l (Obj.mapSeq (·.setIfInBounds j v))).get? l = some (listO (vs.set j v) n) := by
  have e : (listO vs n).mapSeq (·.setIfInBounds j v) = listO (vs.set j v) n := by
    unfold listO Obj.mapSeq
    simp
  rw [Heap.get?_update_self _ ho (by rw [e]; rfl), e]
theorem si_ok (K : COk1 G C) {W σ X s} {a k v : PV} {x y z : Value} {σ' : PS} {Q : Unit → Shared → Prop} {E : Value → Shared → Prop} (e : fsi a k v σ = some σ') (R : Rel C W σ X s) (ra : VRel W a x) (rk : VRel W k y) (rv : VRel W v z)
    (h : ∀ s', Rel C W σ' X s' → Q () s') : wpAny (model G.p G.w) C.A (setItem x y z) Q E s := by
  unfold fsi at e
  split at e
  · split at e
    · rename_i xs hx
      split at e
      · rename_i hk
        obtain ⟨j, hj, e⟩ := Option.map_eq_some_iff.mp e
        cases e
        have hk := idxOk_le hk
        induction ra using VRel.refC with
        | ref ad ha =>
          induction rk using VRel.intC
          refine Rel.getME R hx ha fun o ho ro => ?_
          induction ro using ORel.listC with
          | list vs n rvs =>
            obtain ⟨hlt, hcase⟩ := seqIdx hj
            have fin : ∀ j', j' = j → Q () { s with heap := s.heap.update ad (Obj.mapSeq (·.setIfInBounds j' z)) } := by
              rintro _ rfl
              exact h _ (R.setM hx ha (Heap.SameBut.update ..) (sameUpd ho _ z) (.list _ _ n (rvs.set rv)))
            rcases hcase with ⟨h0, h2⟩ | ⟨h0, h1, h2⟩
            · refine ki_setAt ho h0 (by omega) ?_ (fin _ h2)
              rw [List.size_toArray, ← rvs.length]; omega
            · refine ki_setBack ho h0 ?_ (by omega) (fin _ ?_)
              · rw [List.size_toArray, ← rvs.length]; exact h1
              · rw [List.size_toArray, ← rvs.length]; exact h2
      · exact noneE e
    · exact noneE e
  · split at e
    · rename_i es hx
      split at e
      · rename_i hlen
        induction e using some1C
        induction ra using VRel.refC with
        | ref ad ha =>
          induction rk using VRel.strC
          refine Rel.getME R hx ha fun o ho ro => ?_
          induction ro using ORel.dictC with
          | dict ds rd dd =>
            obtain ⟨es', ep, d1, d2, d3, d4, d5⟩ := dd
            rw [K.acp, K.acw] at d3 d4
            refine wpAny_setItem_pairs (knd := strKind G.p G.w) (kvs := ds) (isStr_mk _ _) ⟨o, es', ep, ho, d1, d2, d3, d4, d5⟩ (fun h' hd hs => ?_) (by rw [← rd.length]; exact Nat.le_trans hlen size4096)
            obtain ⟨o', es₂, ep₂, ho₂, e1, e2, e3, e4, e5⟩ := hd
            have := (R.setM (o' := o') hx ha hs ho₂ (.dict _ _ _ (rd.store rv) ⟨es₂, ep₂, e1, e2, by rw [K.acp, K.acw]; exact e3, by rw [K.acp, K.acw]; exact e4, e5⟩)).toks (s.toks + 1)
            exact h _ this
      · exact noneE e
    · exact noneE e
  · exact noneE e
theorem di_ok {W σ X s} {a k : PV} {x y : Value} {σ' : PS} {Q : Unit → Shared → Prop} {E : Value → Shared → Prop} (e : fdi a k σ = some σ') (R : Rel C W σ X s) (ra : VRel W a x) (rk : VRel W k y)
    (h : ∀ s', Rel C W σ' X s' → Q () s') : wpAny (model G.p G.w) C.A (delItem x y) Q E s := by
  unfold fdi at e
  split at e
  · split at e
    · rename_i xs hx
      split at e
      · rename_i hk
        obtain ⟨j, hj, e⟩ := Option.map_eq_some_iff.mp e
        cases e
        obtain ⟨hk, hlen⟩ := hk
        have hk := idxOk_le hk
        induction ra using VRel.refC with
        | ref ad ha =>
          induction rk using VRel.intC
          refine Rel.getME R hx ha fun o ho ro => ?_
          induction ro using ORel.listC with
          | list vs n rvs =>
            refine delItem_at (k := j) ho ?_ (by rw [List.size_toArray, ← rvs.length]; exact hj) (fun h' hs ho' => h _ (R.setM hx ha hs ho' ?_)) (by rw [List.size_toArray, ← rvs.length]; exact Nat.le_trans hlen size4096)
            · unfold Builtin.List.listFitsIndex
              simp; omega
            · refine .list _ _ (n + 1) ?_
              have : ∀ {ps : List PV} {qs : List Value} (i : Nat), VRels W ps qs → VRels W (ps.eraseIdx i) (qs.eraseIdx i) := by
                intro ps qs i r
                induction i generalizing ps qs with
                | zero => cases r with
                  | nil => exact .nil
                  | cons _ rs => exact rs
                | succ i ih => cases r with
                  | nil => exact .nil
                  | cons r rs => exact .cons r (ih rs)
              exact this j rvs
      · exact noneE e
    · exact noneE e
  · exact noneE e
end
end Mine
end
section
open PySem PySem.W PyProof.Rows PySem.Calls
namespace Mine
noncomputable def funpack : PV → Nat → PS → Option (List PV)
  | .tup vs, n, _ => if vs.length = n then some vs else none
  | .ref l, n, σ => match σ.mem[l]? with
    | some (.list vs) => if vs.length = n then some vs else none
    | _ => none
  | _, _, _ => none
noncomputable def fsets : List Nat → List PV → PS → PS
  | i :: is, v :: vs, σ => fsets is vs (fset i v σ)
  | _, _, σ => σ
inductive Tns (C : Cx) : List Expr → List Nat → Prop
  | nil : Tns C [] []
  | cons {x : Str} {b : Bool} {p : Pos} {i : Nat} {es : List Expr} {is : List Nat} : C.nm[i]? = some (x, b) → Tns C es is → Tns C (.Name x p :: es) (i :: is)
inductive Tnb (C : Cx) : List Str → List Nat → Prop
  | nil : Tnb C [] []
  | cons {x : Str} {b : Bool} {i : Nat} {es : List Str} {is : List Nat} : C.nm[i]? = some (x, b) → Tnb C es is → Tnb C (x :: es) (i :: is)
section
variable {C : Cx} {W W' : Wd} {σ σ' : PS} {X X' : Led} {s : Shared}
theorem Rel.ext (R : Rel C W σ X s) {h' : Heap} (he : Heap.ExtBut s.heap.objs.size s.heap h') : Rel C W σ X { s with heap := h' } :=
  R.grown fun b o e => he b o (Nat.ne_of_lt (Heap.lt_size e)) e
end
section
variable {G : Gd} {C : Cx} {V : Vw}
theorem getType {a b : PV} {W σ X s} {x : Value} {r : PV × PS} (e : fgi a b σ = some r) (R : Rel C W σ X s) (ra : VRel W a x) : ∃ T id, typeLookup (.type T) "__getitem__" = pure (some (.builtin id)) ∧ s.TypeIs x T := by
  unfold fgi at e
  split at e
  · induction ra using VRel.strC; exact ⟨"str", _, F.slot_str_getitem.lookup, typeIs_str _ _ _⟩
  · induction ra using VRel.tupC with
    | tup xs t hm rv => exact ⟨"tuple", _, slot_tuple_getitem.lookup, ⟨_, R.getT hm, rfl⟩⟩
  · split at e
    · rename_i xs hx
      induction ra using VRel.refC with
      | ref ad ha =>
        refine Rel.getME R hx ha fun o ho ro => ?_
        induction ro using ORel.listC
        exact ⟨"list", _, list_getitem_lookup, ⟨_, ho, rfl⟩⟩
    · exact noneE e
  · split at e
    · rename_i es hx
      induction ra using VRel.refC with
      | ref ad ha =>
        refine Rel.getME R hx ha fun o ho ro => ?_
        induction ro using ORel.dictC with
        | dict ds rd dd =>
          obtain ⟨_, _, d1, _⟩ := dd
          exact ⟨"dict", _, F.slot_dict_getitem.lookup, ⟨_, ho, d1.1⟩⟩
    · exact noneE e
  · exact noneE e
theorem Ev.sub (K : COk1 G C) {value slice : Expr} {p : Pos} {f g : PS → Option (PV × PS)} (hv : Ev G C V value f) (hi : Ev G C V slice g) (hsl : ∀ o i, subscripted slice false o i = operate [o, i] (getItem o i) := by intro _ _; rfl) :
    Ev G C V (.Subscript value slice p) (fun σ => fbf f σ fun a σ => fbf g σ fun b σ => fgi a b σ) := by
  intro W σ X s r σ' Q E e R ok h
  refine fbE e fun a σ₁ e₁ e' => ?_
  refine fbE e' fun b σ₂ e₂ e₃ => ?_
  rw [eval_Subscript]
  refine wpAny_bind (hv W σ X s a σ₁ _ E e₁ R ok fun W₁ o s₁ l₁ R₁ r₁ => wpAny_bind (wpAny_holding (hi W₁ σ₁ X s₁ b σ₂ _ E e₂ R₁ (V.mono l₁ ok) fun W₂ i s₂ l₂ R₂ r₂ => wpAny_bind (wpAny_standAt ?_))))
  obtain ⟨T, id, hl, hT⟩ := getType e₃ R₂ (r₁.mono l₂)
  refine wpAny_bind ?_
  rw [getitemInPython_of_ne hT.not_modules]
  refine wpAny_bind (wpAny_specialOf hT hl ?_)
  have fin : wpAny (model G.p G.w) C.A (subscripted slice false o i) (fun r s₃ => wpAny (model G.p G.w) C.A (letTemporaryGo value o r >>= fun _ => pure r) Q E s₃) E s₂ := by
    rw [hsl]
    exact wpAny_operating (Op2.gi K W₂ σ₂ X s₂ a b o i r σ' _ E e₃ R₂ (r₁.mono l₂) r₂ fun W₃ z s₃ l₃ R₃ r₃ => wpAny_bind (wpAny_letTemporaryGo (wpAny_pure (h W₃ z s₃ (Wd.le_trans l₁ (Wd.le_trans l₂ l₃)) R₃ r₃))))
  exact wpAny_pure (wpAny_bind fin)
theorem X1.augSub (K : COk1 G C) {o i value : Expr} {p' p : Pos} {op : Operator} {fo fi f : PS → Option (PV × PS)} {oo : PV → PV → PS → Option (PV × PS)} (ho : Ev G C (fv C) o fo) (hi : Ev G C (fv C) i fi) (hv : Ev G C (fv C) value f) (hoo : Op2 G C (inplaceOp op) oo)
    (hst : ∀ ov iv new, augStore i ov iv new = (do holding [new, ov, iv] (setItem ov iv new); release [new, ov, iv] []; pure .next) := by intros; rfl) :
    X1 G C (.AugAssign (.Subscript o i p') op value p) (fun σ => fbf fo σ fun a σ => fbf fi σ fun k σ => fb (fgi a k σ) fun old σ => fbf f σ fun v σ => fb (oo old v σ) fun w σ => match fsi a k w σ with | some σ => some (.next, σ) | none => none) := by
  intro W σ X s r σ' Q E e R h
  refine fbE e fun a σ₁ e₁ e' => ?_
  refine fbE e' fun k σ₂ e₂ e' => ?_
  refine fbE e' fun old σ₃ e₃ e' => ?_
  refine fbE e' fun v σ₄ e₄ e' => ?_
  refine fbE e' fun w σ₅ e₅ e₆ => ?_
  split at e₆
  · rename_i σ₆ h₆
    induction e₆ using someC
    exact wpAny_AugAssign_SubscriptAny (ho W σ X s a σ₁ _ E e₁ R trivial fun W₁ x s₁ l₁ R₁ r₁ => hi W₁ σ₁ X s₁ k σ₂ _ E e₂ R₁ trivial fun W₂ y s₂ l₂ R₂ r₂ =>
      Op2.gi K W₂ σ₂ X s₂ a k x y old σ₃ _ E e₃ R₂ (r₁.mono l₂) r₂ fun W₃ z s₃ l₃ R₃ r₃ => hv W₃ σ₃ X s₃ v σ₄ _ E e₄ R₃ trivial fun W₄ u s₄ l₄ R₄ r₄ =>
      hoo W₄ σ₄ X s₄ old v z u w σ₅ _ E e₅ R₄ (r₃.mono l₄) r₄ fun W₅ q s₅ l₅ R₅ r₅ =>
      have l₂₅ := Wd.le_trans l₃ (Wd.le_trans l₄ l₅)
      si_ok K h₆ R₅ (r₁.mono (Wd.le_trans l₂ l₂₅)) (r₂.mono l₂₅) r₅ fun s' R' => h W₅ _ s' (Wd.le_trans l₁ (Wd.le_trans l₂ l₂₅)) R' .next) hst
  · exact noneE e₆
theorem X1.delSub {o i : Expr} {p' p : Pos} {fo fi : PS → Option (PV × PS)} (ho : Ev G C (fv C) o fo) (hi : Ev G C (fv C) i fi) :
    X1 G C (.Delete [.Subscript o i p'] p) (fun σ => fbf fo σ fun a σ => fbf fi σ fun k σ => match fdi a k σ with | some σ => some (.next, σ) | none => none) := by
  intro W σ X s r σ' Q E e R h
  refine fbE e fun a σ₁ e₁ e' => ?_
  refine fbE e' fun k σ₂ e₂ e₃ => ?_
  split at e₃
  · rename_i σ₃ h₃
    induction e₃ using someC
    exact wpAny_Delete (wpAny_deleteEach_cons (wpAny_delete_Subscript (ho W σ X s a σ₁ _ E e₁ R trivial fun W₁ x s₁ l₁ R₁ r₁ => hi W₁ σ₁ X s₁ k σ₂ _ E e₂ R₁ trivial fun W₂ y s₂ l₂ R₂ r₂ =>
      di_ok h₃ R₂ (r₁.mono l₂) r₂ fun s' R' => wpAny_deleteEach_nil (h W₂ _ s' (Wd.le_trans l₁ l₂) R' .next))))
  · exact noneE e₃
theorem unp_ok (K : COk1 G C) {v : PV} {x : Value} {n : Nat} {vs : List PV} {W σ X s} {Q : List Value → Shared → Prop} {E : Value → Shared → Prop} (e : funpack v n σ = some vs) (R : Rel C W σ X s) (rv : VRel W v x) (h : ∀ xs s', Rel C W σ X s' → VRels W vs xs → Q xs s') :
    wpAny (model G.p G.w) C.A (unpackItems x n none) Q E s := by
  unfold funpack at e
  split at e
  · split at e
    · rename_i hl
      induction e using some1C
      induction rv using VRel.tupC with
      | tup xs t hm r =>
        have hn : n = xs.toArray.size := by rw [List.size_toArray, ← r.length]; exact hl.symm
        subst hn
        exact unpackItems_tuple K.handled ⟨_, R.getT hm, rfl, _, rfl⟩ fun h' he => h _ _ (R.ext he) r
    · exact noneE e
  · split at e
    · rename_i xs hx
      split at e
      · rename_i hl
        induction e using some1C
        induction rv using VRel.refC with
        | ref ad ha =>
          refine Rel.getME R hx ha fun o ho ro => ?_
          induction ro using ORel.listC with
          | list ys k r =>
            have hn : n = ys.toArray.size := by rw [List.size_toArray, ← r.length]; exact hl.symm
            subst hn
            exact kun_itemsOf K.handled ⟨_, ho, rfl, _, rfl⟩ fun h' he => h _ _ (R.ext he) r
      · exact noneE e
    · exact noneE e
  · exact noneE e
theorem Tns.each {env : Env} {es : List Expr} {is : List Nat} (T : Tns C es is) : (assignEach es env).length = is.length ∧ (assignEach es env).findIdx? (·.1) = none := by
  induction T with
  | nil => exact ⟨rfl, rfl⟩
  | cons _ _ ih =>
    refine ⟨?_, ?_⟩
    · show (_ :: assignEach _ env).length = _
      rw [List.length_cons, ih.1, List.length_cons]
    · show (List.findIdx? (fun x => x.1) ((false, _) :: assignEach _ env)) = none
      simp [List.findIdx?_cons, ih.2]
theorem Tns.run (K : COk1 G C) {es : List Expr} {is : List Nat} (T : Tns C es is) : ∀ {W σ X s} {vs : List PV} {xs : List Value} {Q : Unit → Shared → Prop} {E : Value → Shared → Prop}, Rel C W σ X s → VRels W vs xs → (∀ s', Rel C W (fsets is vs σ) X s' → Q () s') →
    wpAny (model G.p G.w) C.A (assignInOrder ((assignEach es C.fenv).map (·.2)) xs) Q E s := by
  induction T with
  | nil => intro W σ X s vs xs Q E R rs h; exact assignInOrder_nil (h s R)
  | cons hn _ ih =>
    intro W σ X s vs xs Q E R rs h
    cases rs with
    | nil => exact wpAny_pure (h s R)
    | cons r rs =>
      refine assignInOrder_cons ?_
      exact PySem.wpAny_assign_Name (st_var K.toCOk K.inj hn R r fun s' R' => ih R' rs h)
theorem Tnb.run (K : COk1 G C) {es : List Str} {is : List Nat} (T : Tnb C es is) : ∀ {W σ X s} {vs : List PV} {xs : List Value} {Q : Unit → Shared → Prop} {E : Value → Shared → Prop}, Rel C W σ X s → VRels W vs xs → (∀ s', Rel C W (fsets is vs σ) X s' → Q () s') →
    wpAny (model G.p G.w) C.A (assignInOrder (es.map fun n => bindName C.fenv n) xs) Q E s := by
  induction T with
  | nil => intro W σ X s vs xs Q E R rs h; exact assignInOrder_nil (h s R)
  | cons hn _ ih =>
    intro W σ X s vs xs Q E R rs h
    cases rs with
    | nil => exact wpAny_pure (h s R)
    | cons r rs =>
      refine assignInOrder_cons ?_
      exact bindName_ (st_var K.toCOk K.inj hn R r fun s' R' => ih R' rs h)
theorem VRels.rev {W : Wd} {vs : List PV} {xs : List Value} (r : VRels W vs xs) : VRels W vs.reverse xs.reverse := by
  induction vs generalizing xs with
  | nil => induction r using VRels.nilC; exact .nil
  | cons v vs ih => induction r using VRels.consC with
    | cons r rs => rw [List.reverse_cons, List.reverse_cons]; exact (ih rs).snoc r
theorem X1.tup (K : COk1 G C) {es : List Expr} {is : List Nat} {k : Nat} {p' p : Pos} {value : Expr} {f : PS → Option (PV × PS)} (T : Tns C es is) (hv : Ev G C (fv C) value f) (hs : swapsWithSole [.Tuple es k p'] value p.line C.fenv = pure false := by rfl)
    (hw : swappedStores [.Tuple es k p'] value C.fenv = pure none := by rfl) :
    X1 G C (.Assign [.Tuple es k p'] value p) (fun σ => fbf f σ fun v σ => match funpack v is.length σ with | some vs => some (.next, fsets is vs σ) | none => none) := by
  intro W σ X s r σ' Q E e R h
  refine fbE e fun v σ₁ e₁ e₂ => ?_
  split at e₂
  · rename_i vs hvs
    induction e₂ using someC
    refine Assign_Tuple (hv W σ X s v σ₁ _ E e₁ R trivial fun W₁ x s₁ l₁ R₁ r₁ => ?_) hs hw
    rw [assign_Tuple]
    refine wpAny_bind (wpAny_standAt ?_)
    unfold unpack
    rw [T.each.1, T.each.2]
    exact wpAny_bind (wpAny_holding (unp_ok K hvs R₁ r₁ fun xs s₂ R₂ rs => T.run K R₂ rs fun s' R' => h W₁ _ s' l₁ R' .next))
  · exact noneE e₂
theorem X1.tupS (K : COk1 G C) {es : List Expr} {names : List Str} {is : List Nat} {k : Nat} {p' p : Pos} {value : Expr} {f : PS → Option (PV × PS)} (T : Tnb C names.reverse is) (hv : Ev G C (fv C) value f) (hs : swapsWithSole [.Tuple es k p'] value p.line C.fenv = pure false := by rfl)
    (hw : swappedStores [.Tuple es k p'] value C.fenv = pure (some names) := by rfl) :
    X1 G C (.Assign [.Tuple es k p'] value p) (fun σ => fbf f σ fun v σ => match funpack v names.length σ with | some vs => some (.next, fsets is vs.reverse σ) | none => none) := by
  intro W σ X s r σ' Q E e R h
  refine fbE e fun v σ₁ e₁ e₂ => ?_
  split at e₂
  · rename_i vs hvs
    induction e₂ using someC
    exact Assign_Tuple_swapped (hv W σ X s v σ₁ _ E e₁ R trivial fun W₁ x s₁ l₁ R₁ r₁ => unp_ok K hvs R₁ r₁ fun xs s₂ R₂ rs => T.run K R₂ rs.rev fun s' R' => h W₁ _ s' l₁ R' .next) hs hw
  · exact noneE e₂
end
end Mine
end
section
open PySem PySem.W PyProof.Rows PySem.Calls Builtin Builtin.Str
namespace Mine
noncomputable def fstr (x : List Nat) (lo hi st : Option Int) : List Nat :=
  if (st.getD 1 == 1 && (strSliceIndices lo hi (st.getD 1) x.length).length == x.length) = true then x else (strSliceIndices lo hi (st.getD 1) x.length).filterMap (x[·]?)
noncomputable def fidx (n : Nat) (lo hi : Option Int) : List Nat := sliceRange (sliceBounds lo hi none n).1 (sliceBounds lo hi none n).2.1 (sliceBounds lo hi none n).2.2
noncomputable def fsl : PV → Option Int → Option Int → Option Int → PS → Option (PV × PS)
  | .str x, lo, hi, st, σ => if (st.getD 1 == 0) = false ∧ (fstr x lo hi st).length ≤ 4096 then some (.str (fstr x lo hi st), σ) else none
  | .ref l, lo, hi, none, σ => match σ.mem[l]? with
    | some (.list xs) => if xs.length ≤ 4096 then fnew (.list ((fidx xs.length lo hi).filterMap (xs[·]?))) σ else none
    | _ => none
  | .flist xs, lo, hi, none, σ => if xs.length ≤ 4096 then fnew (.list ((fidx xs.length lo hi).filterMap (xs[·]?))) σ else none
  | _, _, _, _, _ => none
inductive Prt (G : Gd) (C : Cx) (V : Vw) : Option Expr → (PS → Option (Option Int × PS)) → Prop
  | none : Prt G C V none (fun σ => some (none, σ))
  | some {e f} : Ev G C V e f → Prt G C V (some e) (fun σ => fbf f σ fun v σ => match v with | .int i => some (some i, σ) | _ => none)
section
variable {G : Gd} {C : Cx} {V : Vw}
theorem Prt.run {e : Option Expr} {f : PS → Option (Option Int × PS)} (H : Prt G C V e f) {W σ X s o σ'} {Q : Value → Shared → Prop} {E : Value → Shared → Prop} (q : f σ = .some (o, σ')) (R : Rel C W σ X s) (ok : V.ok W X)
    (h : ∀ W' (p : Option (Int × Tok)) s', W.le W' → Rel C W' σ' X s' → p.map (·.1) = o → Q (partValue p) s') : wpAny (model G.p G.w) C.A (evalPart e V.env) Q E s := by
  cases H with
  | none => induction q using someC; rw [evalPart_none]; exact wpAny_pure (h W Option.none s (Wd.le_refl _) R rfl)
  | some he =>
    refine fbE q fun v σ₁ e₁ e₂ => ?_
    rw [evalPart_some]
    cases v with
    | int i => induction e₂ using someC; exact he W σ X s _ _ _ E e₁ R ok fun W' y s' l R' ry => by induction ry using VRel.intC; exact h W' (Option.some (i, _)) s' l R' rfl
    | _ => exact noneE e₂
theorem VRels.pick {W : Wd} {vs : List PV} {xs : List Value} (r : VRels W vs xs) : ∀ is : List Nat, VRels W (is.filterMap (vs[·]?)) (is.filterMap (xs[·]?))
  | [] => .nil
  | i :: is => by
    rw [List.filterMap_cons, List.filterMap_cons]
    cases hv : vs[i]? with
    | none =>
      have : xs[i]? = none := by
        rw [List.getElem?_eq_none_iff] at hv ⊢
        rw [← r.length]; exact hv
      rw [this]; exact r.pick is
    | some v =>
      obtain ⟨y, hy, ry⟩ := r.get hv
      rw [hy]; exact .cons ry (r.pick is)
theorem Ev.slice (K : COk1 G C) {value : Expr} {lower upper step : Option Expr} {p pos : Pos} {f : PS → Option (PV × PS)} {fl fu fs : PS → Option (Option Int × PS)} (hv : Ev G C V value f) (hl : Prt G C V lower fl) (hu : Prt G C V upper fu) (hs : Prt G C V step fs) :
    Ev G C V (.Subscript value (.Slice lower upper step p) pos) (fun σ => fbf f σ fun a σ => fbf fl σ fun lo σ => fbf fu σ fun hi σ => fbf fs σ fun st σ => fsl a lo hi st σ) := by
  intro W σ X s r σ' Q E e R ok h
  refine fbE e fun a σ₁ e₁ e' => ?_
  refine fbE e' fun lo σ₂ e₂ e' => ?_
  refine fbE e' fun hi σ₃ e₃ e' => ?_
  refine fbE e' fun st σ₄ e₄ e₅ => ?_
  rw [eval_Subscript]
  refine wpAny_bind (hv W σ X s a σ₁ _ E e₁ R ok fun W₁ o s₁ l₁ R₁ r₁ => wpAny_bind (wpAny_holding (wpAny_Slice (hl.run e₂ R₁ (V.mono l₁ ok) fun W₂ plo s₂ l₂ R₂ hlo => hu.run e₃ R₂ (V.mono (Wd.le_trans l₁ l₂) ok) fun W₃ phi s₃ l₃ R₃ hhi =>
    hs.run e₄ R₃ (V.mono (Wd.le_trans l₁ (Wd.le_trans l₂ l₃)) ok) fun W₄ pst s₄ l₄ R₄ hst => wpAny_bind (wpAny_standAt ?_)))))
  have l₁₄ := Wd.le_trans l₂ (Wd.le_trans l₃ l₄)
  have r₄ := r₁.mono l₁₄
  have R₅ := R₄.junk { cls := .type "slice", data := .fields #[partValue plo, partValue phi, partValue pst] }
  have hsl : Heap.IsSlice (s₄.heap.push { cls := .type "slice", data := .fields #[partValue plo, partValue phi, partValue pst] }) s₄.heap.objs.size plo phi pst := ⟨_, Heap.get?_push_size _ rfl, rfl, rfl⟩
  generalize hs₅ : ({ s₄ with heap := s₄.heap.push { cls := .type "slice", data := .fields #[partValue plo, partValue phi, partValue pst] } } : Shared) = s₅ at R₅ ⊢
  have hsl : s₅.heap.IsSlice s₄.heap.objs.size plo phi pst := by rw [← hs₅]; exact hsl
  have key : ∀ Q' : Value → Shared → Prop, Po C W₄ σ' X r Q' → (∃ T id, typeLookup (.type T) "__getitem__" = pure (some (.builtin id)) ∧ s₅.TypeIs o T) ∧ wpAny (model G.p G.w) C.A (getItem o (.ref s₄.heap.objs.size)) Q' E s₅ := by
    intro Q' out
    cases a with
    | str x =>
      simp only [fsl] at e₅
      split at e₅
      · rename_i hc
        induction e₅ using someC
        induction r₄ using VRel.strC with
        | str t =>
          refine ⟨⟨"str", _, F.slot_str_getitem.lookup, typeIs_str _ _ _⟩, ?_⟩
          refine wpAny_getItem_str_slice hsl (by rw [hst]; exact hc.1) ?_
          unfold sliceMade slicePicked
          rw [hst, hlo, hhi]
          have hl := hc.2
          unfold fstr at hl out
          rw [mkS'_len]
          split
          · rename_i q
            rw [if_pos q] at out
            exact out W₄ _ _ (Wd.le_refl _) R₅ (.str x t)
          · rename_i q
            rw [if_neg q] at out hl
            have e : (⟨((strSliceIndices lo hi (st.getD 1) x.length).filterMap ((mkS' x).cps[·]?)).toArray⟩ : Str) = mkS' ((strSliceIndices lo hi (st.getD 1) x.length).filterMap (x[·]?)) := by
              unfold mkS'
              simp
            rw [e]
            exact ⟨by rw [mkS'_len]; exact Nat.le_trans hl size4096, out W₄ _ _ (Wd.le_refl _) (R₅.toks _) (.str _ _)⟩
      · exact noneE e₅
    | ref l =>
     induction st using optC with
     | some _ => cases e₅
     | none =>
      simp only [fsl] at e₅
      split at e₅
      · rename_i xs hx
        split at e₅
        · rename_i hlen
          induction r₄ using VRel.refC with
          | ref ad ha =>
            refine Rel.getME R₅ hx ha fun ob ho ro => ?_
            induction ro using ORel.listC with
            | list vs n rv =>
              have hL : s₅.heap.IsList ad vs.toArray := ⟨_, ho, rfl, _, rfl⟩
              have hpst : pst = none := by induction pst using optC with
                | none => rfl
                | some q => cases hst
              subst hpst
              refine ⟨⟨"list", _, list_getitem_lookup, hL.typeIs⟩, ?_⟩
              have ip : ∀ p : Option (Int × Tok), IsPart (partValue p) (p.map (·.1)) := fun p => by
                induction p using optC with
                | none => exact .none
                | some q => exact .int _ _
              refine wpAny_getItem_list_slice hL hsl (ip plo) (ip phi) (ip none) (by simp) ?_ (by rw [List.size_toArray, ← rv.length]; exact Nat.le_trans hlen size4096)
              have e : ({ cls := .type "list", data := .seq (slicePick vs.toArray (plo.map (·.1)) (phi.map (·.1)) (Option.map (·.1) (none : Option (Int × Tok)))) } : Obj) = listO ((fidx xs.length lo hi).filterMap (vs[·]?)) 0 := by
                unfold listO slicePick fidx
                rw [hlo, hhi, rv.length]
                simp
              rw [e]
              exact new_ok (Q := Q') e₅ R₅ (.list _ _ 0 (rv.pick _)) out
        · exact noneE e₅
      · exact noneE e₅
    | flist xs =>
     induction st using optC with
     | some _ => cases e₅
     | none =>
      simp only [fsl] at e₅
      split at e₅
      · rename_i hlen
        induction r₄ using VRel.flistC with
        | flist vs n ad ha rv =>
          have hL : s₅.heap.IsList ad vs.toArray := ⟨_, R₅.getT ha, rfl, _, rfl⟩
          have hpst : pst = none := by induction pst using optC with
            | none => rfl
            | some q => cases hst
          subst hpst
          refine ⟨⟨"list", _, list_getitem_lookup, hL.typeIs⟩, ?_⟩
          have ip : ∀ p : Option (Int × Tok), IsPart (partValue p) (p.map (·.1)) := fun p => by
            induction p using optC with
            | none => exact .none
            | some q => exact .int _ _
          refine wpAny_getItem_list_slice hL hsl (ip plo) (ip phi) (ip none) (by simp) ?_ (by rw [List.size_toArray, ← rv.length]; exact Nat.le_trans hlen size4096)
          have e : ({ cls := .type "list", data := .seq (slicePick vs.toArray (plo.map (·.1)) (phi.map (·.1)) (Option.map (·.1) (none : Option (Int × Tok)))) } : Obj) = listO ((fidx xs.length lo hi).filterMap (vs[·]?)) 0 := by
            unfold listO slicePick fidx
            rw [hlo, hhi, rv.length]
            simp
          rw [e]
          exact new_ok (Q := Q') e₅ R₅ (.list _ _ 0 (rv.pick _)) out
      · exact noneE e₅
    | _ => cases e₅
  obtain ⟨⟨T, id, hl, hT⟩, hg⟩ := key (fun r s₃ => wpAny (model G.p G.w) C.A (letTemporaryGo value o r >>= fun _ => pure r) Q E s₃) fun W₆ z s₆ l₆ R₆ r₆ => wpAny_bind (wpAny_letTemporaryGo (wpAny_pure (h W₆ z s₆ (Wd.le_trans l₁ (Wd.le_trans l₁₄ l₆)) R₆ r₆)))
  refine wpAny_bind ?_
  rw [getitemInPython_of_ne hT.not_modules]
  refine wpAny_bind (wpAny_specialOf hT hl ?_)
  refine wpAny_pure (wpAny_bind ?_)
  induction step using optC with
  | none => exact wpAny_operating hg
  | some st => exact wpAny_operating hg
end
end Mine
end
section
open PySem PySem.W PyProof.Rows PySem.Calls Builtin Builtin.Str
namespace Mine
noncomputable def cLen : List PV → PS → Option (PV × PS)
  | [.str x], σ => if x.length ≤ 4096 then some (.int x.length, σ) else none
  | [.ref l], σ => match σ.mem[l]? with
    | some (.list xs) => if xs.length ≤ 4096 then some (.int xs.length, σ) else none
    | _ => none
  | _, _ => none
noncomputable def cChr : List PV → PS → Option (PV × PS)
  | [.int i], σ => if 0 ≤ i ∧ i ≤ 0x10FFFF then some (.str [i.toNat], σ) else none
  | _, _ => none
noncomputable def cOrd : List PV → PS → Option (PV × PS)
  | [.str [c]], σ => some (.int c, σ)
  | _, _ => none
noncomputable def pInts : List PV → Option (List Int)
  | [] => some []
  | .int i :: r => (pInts r).map (i :: ·)
  | _ => none
noncomputable def cSum : List PV → PS → Option (PV × PS)
  | [.ref l], σ => match σ.mem[l]? with
    | some (.list xs) => (pInts xs).map fun is => (.int is.sum, σ)
    | _ => none
  | _, _ => none
noncomputable def isBoolTy (v : Value) : Bool := match v with
  | .type s => s == "bool"
  | _ => false
noncomputable def fIsB : PV → Option Bool
  | .int _ => some false
  | .bool _ => some true
  | _ => none
noncomputable def cIsBool : List PV → PS → Option (PV × PS)
  | [a, .raw v], σ => if isBoolTy v = true then (match fIsB a with | some b => some (.bool b, σ) | none => none) else none
  | _, _ => none
theorem isBoolTy_is {v : Value} (h : isBoolTy v = true) : v = .type "bool" := by
  unfold isBoolTy at h
  split at h
  · rename_i s
    rw [show s = "bool" by simpa using h]
  · cases h
noncomputable def cRange : List PV → PS → Option (PV × PS)
  | [.int n], σ => some (.rng 0 n 1, σ)
  | [.int a, .int b], σ => some (.rng a b 1, σ)
  | _, _ => none
noncomputable def pStrs : List PV → Option (List (List Nat))
  | [] => some []
  | .str i :: r => (pStrs r).map (i :: ·)
  | _ => none
noncomputable def cJoin : List PV → PS → Option (PV × PS)
  | [.str x, .ref l], σ => match σ.mem[l]? with
    | some (.list xs) => (pStrs xs).bind fun ss => if JoinOk (mkS' x) (ss.map mkS') = true then some (.str (Txt.join (mkS' x) (ss.map mkS')).cps.toList, σ) else none
    | _ => none
  | _, _ => none
noncomputable def cStarts : List PV → PS → Option (PV × PS)
  | [.str x, .str y], σ => some (.bool (Txt.startswith (mkS' x) (mkS' y)), σ)
  | _, _ => none
noncomputable def cEnds : List PV → PS → Option (PV × PS)
  | [.str x, .str y], σ => some (.bool (Txt.endswith (mkS' x) (mkS' y)), σ)
  | _, _ => none
noncomputable def find4 (x y : Str) (i j : Int) : Int := match occurrences x y (fromIndex x.length i) (min (fromIndex x.length j) x.length) 1 with | k :: _ => (k : Int) | [] => -1
noncomputable def cFind : List PV → PS → Option (PV × PS)
  | [.str x, .str y], σ => some (.int (Txt.find (mkS' x) (mkS' y)), σ)
  | [.str x, .str y, .int i, .int j], σ => some (.int (find4 (mkS' x) (mkS' y) i j), σ)
  | _, _ => none
noncomputable def cSplit : List PV → PS → Option (PV × PS)
  | [.str x, .str y], σ => if x.length ≤ 4096 ∧ (y.length == 0) = false ∧ (partsBetween (mkS' x) (occurrences (mkS' x) (mkS' y) 0 x.length (x.length + 1)) y.length).length ≤ 4096 then fnew (.list ((Txt.split (mkS' x) (mkS' y)).map fun t => .str t.cps.toList)) σ else none
  | _, _ => none
noncomputable def cLower : List PV → PS → Option (PV × PS)
  | [.str x], σ => if tooLong (Txt.lower (mkS' x)).length = false then some (.str (Txt.lower (mkS' x)).cps.toList, σ) else none
  | _, _ => none
theorem mk_of (s : Str) : mkS' s.cps.toList = s := by cases s; rfl
section
variable {G : Gd} {C : Cx}
theorem Cl.len : Cl G C (.builtin "len") cLen := by
  intro W σ X s vs xs r σ' Q E e R rs h
  unfold cLen at e
  split at e
  · split at e
    · rename_i hl
      induction e using someC
      induction rs using VRels.consC with | cons r1 rs => induction rs using VRels.nilC with | nil => induction r1 using VRel.strC with | str t =>
        refine P.len_str (by rw [mkS'_len]; omega) ?_
        rw [mkS'_len]
        exact h W _ _ (Wd.le_refl _) (R.toks _) (.int _ _)
    · exact noneE e
  · split at e
    · rename_i xs hx
      split at e
      · rename_i hl
        induction e using someC
        induction rs using VRels.consC with | cons r1 rs => induction rs using VRels.nilC with | nil => induction r1 using VRel.refC with | ref ad ha =>
          refine Rel.getME R hx ha fun o ho ro => ?_
          induction ro using ORel.listC with
          | list vs n rv =>
            refine call_len_list ⟨_, ho, rfl, _, rfl⟩ (by rw [List.size_toArray, ← rv.length]; omega) ?_
            rw [List.size_toArray, ← rv.length]
            exact h W _ _ (Wd.le_refl _) (R.toks _) (.int _ _)
      · exact noneE e
    · exact noneE e
  · exact noneE e
theorem Cl.chr : Cl G C (.builtin "chr") cChr := by
  intro W σ X s vs xs r σ' Q E e R rs h
  unfold cChr at e
  split at e
  · split at e
    · rename_i hl
      induction e using someC
      induction rs using VRels.consC with | cons r1 rs => induction rs using VRels.nilC with | nil => induction r1 using VRel.intC with | int t =>
        exact P.chr_of_int (by simp; omega) (h W _ _ (Wd.le_refl _) (R.toks _) (.str [_] _))
    · exact noneE e
  · exact noneE e
theorem Cl.ord : Cl G C (.builtin "ord") cOrd := by
  intro W σ X s vs xs r σ' Q E e R rs h
  unfold cOrd at e
  split at e
  · induction e using someC
    induction rs using VRels.consC with | cons r1 rs => induction rs using VRels.nilC with | nil => induction r1 using VRel.strC with | str t =>
      exact P.ord_of_char (h W _ _ (Wd.le_refl _) (R.toks _) (.int _ _))
  · exact noneE e
theorem ints_rel {W : Wd} {xs : List PV} {is : List Int} {vs : List Value} (e : pInts xs = some is) (r : VRels W xs vs) : ∃ l : List (Int × Tok), vs.toArray = intItems l.toArray ∧ l.map (·.1) = is := by
  induction r using VRels.ind generalizing is with
  | nil => induction e using some1C; exact ⟨[], by simp [intItems], rfl⟩
  | @cons v x xs vs r rs ih =>
    cases v with
    | int i =>
      obtain ⟨js, hj, rfl⟩ := Option.map_eq_some_iff.mp (show (pInts xs).map (i :: ·) = some is from e)
      obtain ⟨l, h1, h2⟩ := ih hj
      induction r using VRel.intC with
      | int t =>
        refine ⟨(i, t) :: l, ?_, by rw [List.map_cons, h2]⟩
        have := congrArg Array.toList h1
        apply Array.toList_inj.mp
        simpa [intItems] using this
    | _ => exact noneE e
theorem preSum_list : ∀ (l : List (Int × Tok)), preSum (numAt l.toArray) l.length = (l.map (·.1)).sum := by
  intro l
  have key : ∀ (l : List (Int × Tok)) (n : Nat), n ≤ l.length → preSum (numAt l.toArray) n = ((l.take n).map (·.1)).sum := by
    intro l n
    induction n with
    | zero => intro _; rfl
    | succ n ih =>
      intro hn
      rw [preSum, ih (by omega), List.take_succ_eq_append_getElem (by omega)]
      rw [List.map_append, List.sum_append]
      congr 1
      simp [numAt, show n < l.length by omega]
  have := key l l.length (Nat.le_refl _)
  rw [List.take_length] at this
  exact this
theorem Cl.sum (K : COk1 G C) : Cl G C (.builtin "sum") cSum := by
  intro W σ X s vs xs r σ' Q E e R rs h
  unfold cSum at e
  split at e
  · split at e
    · rename_i xs hx
      obtain ⟨is, hi, e⟩ := Option.map_eq_some_iff.mp e
      cases e
      induction rs using VRels.consC with | cons r1 rs => induction rs using VRels.nilC with | nil => induction r1 using VRel.refC with | ref ad ha =>
        refine Rel.getME R hx ha fun o ho ro => ?_
        induction ro using ORel.listC with
        | list vs n rv =>
          obtain ⟨l, h1, h2⟩ := ints_rel hi rv
          refine wpAny_with_toks R.tk (sum_intListG (xs := l.toArray) K.handled ⟨_, ho, rfl, _, by rw [← h1]; rfl⟩ fun h' tk t' hk ht => ?_)
          rw [List.size_toArray, preSum_list, h2]
          exact h W _ _ (Wd.le_refl _) ((R.grown hk).toks tk ht) (.int _ _)
    · exact noneE e
  · exact noneE e
theorem Cl.isBool : Cl G C (.builtin "isinstance") cIsBool := by
  intro W σ X s vs xs r σ' Q E e R rs h
  unfold cIsBool at e
  split at e
  · rename_i a v
    split at e
    · rename_i hv
      induction rs using VRels.consC with | cons r1 rs => induction rs using VRels.consC with | cons r2 rs => induction rs using VRels.nilC with | nil => induction r2 using VRel.rawC with | raw =>
        rw [isBoolTy_is hv]
        cases a with
        | int i => induction e using someC; induction r1 using VRel.intC with | int t => exact IsiPair.int_bool (h W _ _ (Wd.le_refl _) (R.toks _) (.bool _))
        | bool i => induction e using someC; induction r1 using VRel.boolC with | bool => exact IsiPair.bool_bool (h W _ _ (Wd.le_refl _) R (.bool _))
        | _ => exact noneE e
    · exact noneE e
  · exact noneE e
theorem Cl.range : Cl G C (.type "range") cRange := by
  intro W σ X s vs xs r σ' Q E e R rs h
  have le : ∀ q, W.le ⟨W.mu, q :: W.T⟩ := fun q => ⟨⟨[], by simp⟩, fun _ h => .tail _ h⟩
  unfold cRange at e
  split at e
  · induction e using someC
    induction rs using VRels.consC with | cons r1 rs => induction rs using VRels.nilC with | nil => induction r1 using VRel.intC with | int t =>
      exact call_range_1 (h _ _ _ (le _) ((R.allocT (o := rngO 0 _ 1 _ _ _) rfl).toks _) (.rng _ _ _ _ _ _ _ (.head _)))
  · induction e using someC
    induction rs using VRels.consC with | cons r1 rs => induction rs using VRels.consC with | cons r2 rs => induction rs using VRels.nilC with | nil => induction r1 using VRel.intC with | int t => induction r2 using VRel.intC with | int u =>
      exact call_range_2 (h _ _ _ (le _) ((R.allocT (o := rngO _ _ 1 _ _ _) rfl).toks _) (.rng _ _ _ _ _ _ _ (.head _)))
  · exact noneE e
theorem strs_rel {W : Wd} {xs : List PV} {ss : List (List Nat)} {vs : List Value} (e : pStrs xs = some ss) (r : VRels W xs vs) : ∃ l : List (Str × Tok), vs = strValues l ∧ l.map (·.1) = ss.map mkS' := by
  induction r using VRels.ind generalizing ss with
  | nil => induction e using some1C; exact ⟨[], rfl, rfl⟩
  | @cons v x xs vs r rs ih =>
    cases v with
    | str i =>
      obtain ⟨js, hj, rfl⟩ := Option.map_eq_some_iff.mp (show (pStrs xs).map (i :: ·) = some ss from e)
      obtain ⟨l, h1, h2⟩ := ih hj
      induction r using VRel.strC with
      | str t =>
        exact ⟨(mkS' i, t) :: l, by rw [h1]; rfl, by rw [List.map_cons, h2]; rfl⟩
    | _ => exact noneE e
theorem Cl.join : Cl G C (.builtin "str.join") cJoin := by
  intro W σ X s vs xs r σ' Q E e R rs h
  unfold cJoin at e
  split at e
  · rename_i x l0
    split at e
    · rename_i xs hx
      obtain ⟨ss, hi, e⟩ := Option.bind_eq_some_iff.mp e
      split at e
      · rename_i hj
        induction e using someC
        induction rs using VRels.consC with | cons r1 rs => induction rs using VRels.consC with | cons r2 rs => induction rs using VRels.nilC with | nil => induction r1 using VRel.strC with | str t => induction r2 using VRel.refC with | ref ad ha =>
          refine Rel.getME R hx ha fun o ho ro => ?_
          induction ro using ORel.listC with
          | list vs n rv =>
            obtain ⟨l, rfl, h2⟩ := strs_rel hi rv
            refine wpAny_with_toks R.tk (SC.join ⟨_, ho, rfl, _, rfl⟩ h2 hj fun t' k ht => ?_)
            have := h W _ _ (Wd.le_refl _) (R.toks k ht) (.str (Txt.join (mkS' x) (ss.map mkS')).cps.toList t')
            rw [mk_of] at this
            exact this
      · exact noneE e
    · exact noneE e
  · exact noneE e
theorem Cl.starts : Cl G C (.builtin "str.startswith") cStarts := by
  intro W σ X s vs xs r σ' Q E e R rs h
  unfold cStarts at e
  split at e
  · induction e using someC
    induction rs using VRels.consC with | cons r1 rs => induction rs using VRels.consC with | cons r2 rs => induction rs using VRels.nilC with | nil => induction r1 using VRel.strC with | str t => induction r2 using VRel.strC with | str u =>
      exact SC.startswith (h W _ _ (Wd.le_refl _) R (.bool _))
  · exact noneE e
theorem Cl.ends : Cl G C (.builtin "str.endswith") cEnds := by
  intro W σ X s vs xs r σ' Q E e R rs h
  unfold cEnds at e
  split at e
  · induction e using someC
    induction rs using VRels.consC with | cons r1 rs => induction rs using VRels.consC with | cons r2 rs => induction rs using VRels.nilC with | nil => induction r1 using VRel.strC with | str t => induction r2 using VRel.strC with | str u =>
      exact SC.endswith (h W _ _ (Wd.le_refl _) R (.bool _))
  · exact noneE e
theorem gives_find4 (x y : Str) (i j : Int) (t u v v' : Tok) : Gives («str.find» ⟨[.str x t, .str y u, .int i v, .int j v'], []⟩) (.int (find4 x y i j)) := by
  unfold find4
  show Gives (match occurrences x y (fromIndex x.length i) (min (fromIndex x.length j) x.length) 1 with | k :: _ => retInt k | [] => (do rule "str.find.not-found"; retInt (-1))) _
  cases occurrences x y (fromIndex x.length i) (min (fromIndex x.length j) x.length) 1 with
  | nil => exact .rule (.of_eq rfl)
  | cons k _ => exact .of_eq rfl
theorem Cl.find : Cl G C (.builtin "str.find") cFind := by
  intro W σ X s vs xs r σ' Q E e R rs h
  unfold cFind at e
  split at e
  · induction e using someC
    induction rs using VRels.consC with | cons r1 rs => induction rs using VRels.consC with | cons r2 rs => induction rs using VRels.nilC with | nil => induction r1 using VRel.strC with | str t => induction r2 using VRel.strC with | str u =>
      exact SC.find (h W _ _ (Wd.le_refl _) (R.toks _) (.int _ _))
  · induction e using someC
    induction rs using VRels.consC with | cons r1 rs => induction rs using VRels.consC with | cons r2 rs => induction rs using VRels.consC with | cons r3 rs => induction rs using VRels.consC with | cons r4 rs => induction rs using VRels.nilC with | nil => induction r1 using VRel.strC with | str t => induction r2 using VRel.strC with | str u => induction r3 using VRel.intC with | int v => induction r4 using VRel.intC with | int v' =>
      exact call_gives F.slot_str_find (typeIs_str _ _ _) F.entry_str_find (F.args_str_find_4 _ _ _ _) (gives_find4 _ _ _ _ t u v v') (h W _ _ (Wd.le_refl _) (R.toks _) (.int _ _))
  · exact noneE e
theorem texts_rel {W : Wd} : ∀ (l : List (Str × Tok)), VRels W ((l.map (·.1)).map fun t => .str t.cps.toList) (strValues l)
  | [] => .nil
  | (x, t) :: l => .cons (by have := VRel.str (W := W) x.cps.toList t; rw [mk_of] at this; exact this) (texts_rel l)
theorem Cl.split : Cl G C (.builtin "str.split") cSplit := by
  intro W σ X s vs xs r σ' Q E e R rs h
  unfold cSplit at e
  split at e
  · rename_i x y
    split at e
    · rename_i hc
      induction rs using VRels.consC with | cons r1 rs => induction rs using VRels.consC with | cons r2 rs => induction rs using VRels.nilC with | nil => induction r1 using VRel.strC with | str t => induction r2 using VRel.strC with | str u =>
        obtain ⟨hx, hy, hz⟩ := hc
        have hy : ((mkS' y).length == 0) = false := by rw [mkS'_len]; exact hy
        have hx' : (mkS' x).length ≤ sizeLine := by rw [mkS'_len]; exact Nat.le_trans hx size4096
        rw [← mkS'_len x, ← mkS'_len y] at hz
        have hz' := Nat.le_trans hz size4096
        have fin : ∀ (l : List (Str × Tok)) (tk : Nat), 0 < tk → l.map (·.1) = Txt.split (mkS' x) (mkS' y) → Q (.ref s.heap.objs.size) { s with heap := s.heap.push (listO (strValues l) 0), toks := tk } := fun l tk ht hl => by
          have R' := R.toks tk ht
          exact new_ok (Q := Q) e R' (.list _ _ 0 (hl ▸ texts_rel l)) h
        refine wpAny_with_toks R.tk ?_
        cases h1 : (decide ((mkS' x).length < (mkS' y).length) || decide (Builtin.Str.strKind (mkS' x) < Builtin.Str.strKind (mkS' y)))
        · cases hf : (occurrences (mkS' x) (mkS' y) 0 (mkS' x).length ((mkS' x).length + 1)).isEmpty
          · refine call_meets F.slot_str_split (typeIs_str _ _ _) F.entry_str_split (F.args_str_split_2 _ _) (meets_str_split_sep (mkS' x) (mkS' y) t u h1 hy hf hx' hz') ?_
            show wants _ _ _ { s with toks := _, heap := s.heap.push { cls := .type "list", data := .seq (strsFrom s.toks (partsBetween (mkS' x) (occurrences (mkS' x) (mkS' y) 0 (mkS' x).length ((mkS' x).length + 1)) (mkS' y).length)).toArray } }
            rw [strsFrom_eq]
            exact fun ht => fin (numbered s.toks _) _ ht ((numbered_texts _ _).trans ((if_neg (ne_true_of_eq_false h1)).trans (if_neg (ne_true_of_eq_false hf))).symm)
          · exact call_meets F.slot_str_split (typeIs_str _ _ _) F.entry_str_split (F.args_str_split_2 _ _) (meets_str_split_not_found (mkS' x) (mkS' y) t u h1 hy hf)
              (fun ht => fin [(mkS' x, t)] _ ht ((if_neg (ne_true_of_eq_false h1)).trans (if_pos hf)).symm)
        · exact call_meets F.slot_str_split (typeIs_str _ _ _) F.entry_str_split (F.args_str_split_2 _ _) (meets_str_split_cannot_occur (mkS' x) (mkS' y) t u h1)
            (fun ht => fin [(mkS' x, t)] _ ht (if_pos h1).symm)
    · exact noneE e
  · exact noneE e
theorem Cl.lower : Cl G C (.builtin "str.lower") cLower := by
  intro W σ X s vs xs r σ' Q E e R rs h
  unfold cLower at e
  split at e
  · rename_i x
    split at e
    · rename_i hc
      induction e using someC
      induction rs using VRels.consC with | cons r1 rs => induction rs using VRels.nilC with | nil => induction r1 using VRel.strC with | str t =>
        have := h W _ _ (Wd.le_refl _) (R.toks (s.toks + 1)) (.str (Txt.lower (mkS' x)).cps.toList s.toks)
        rw [mk_of] at this
        exact SC.lower hc this
    · exact noneE e
  · exact noneE e
end
end Mine
end
section
open PySem PySem.W PyProof.Rows PySem.Calls Builtin Builtin.Str PySem.SeqAt
set_option genInjectivity false
set_option genSizeOfSpec false
namespace Mine
noncomputable def scEq : PV → PV → Option Bool
  | .int a, .int b => some (a == b)
  | .str a, .str b => some (a == b)
  | .bool a, .bool b => some (a == b)
  | _, _ => none
noncomputable def zipEq (f : PV → PV → Option Bool) : List PV → List PV → Option Bool
  | v :: vs, w :: ws => (f v w).bind fun b => (zipEq f vs ws).map (b && ·)
  | _, _ => some true
noncomputable def tuEq : PV → PV → Option Bool
  | .tup vs, .tup ws => (zipEq scEq vs ws).map (· && vs.length == ws.length)
  | a, b => scEq a b
noncomputable def fEqB : PV → PV → PS → Option Bool
  | .ref l, .ref k, σ => match σ.mem[l]?, σ.mem[k]? with
    | some (.list xs), some (.list ys) => if xs.length = ys.length then zipEq tuEq xs ys else some false
    | _, _ => none
  | .tup vs, .tup ws, _ => (zipEq scEq vs ws).map (· && vs.length == ws.length)
  | .int a, .int b, _ => some (a == b)
  | .str a, .str b, _ => some (a == b)
  | _, _, _ => none
noncomputable def oEqA (a b : PV) (σ : PS) : Option (PV × PS) := (fEqB a b σ).map fun r => (.bool r, σ)
noncomputable def oNeA (a b : PV) (σ : PS) : Option (PV × PS) := (fEqB a b σ).map fun r => (.bool (!r), σ)
noncomputable def EqF (W : Wd) (A : Around) (s : Shared) (f : PV → PV → Option Bool) : Prop := ∀ a b r x y, f a b = some r → VRel W a x → VRel W b y → EqAt A s x y r
theorem mkEq (a b : List Nat) : (mkS' a == mkS' b) = (a == b) := by
  rw [Bool.eq_iff_iff]; simp only [beq_iff_eq]
  exact ⟨fun h => mkS'_inj h, fun h => by rw [h]⟩
theorem scEq_ok (W : Wd) (A : Around) (s : Shared) : EqF W A s scEq := by
  intro a b r x y e ra rb
  unfold scEq at e
  split at e
  · induction ra using VRel.intC; induction rb using VRel.intC; induction e using some1C; exact (MeetsSeq.EqGives.int _ _ _ _).at A s
  · induction ra using VRel.strC; induction rb using VRel.strC; induction e using some1C; rw [← mkEq]; exact EqAt.str_str _ _ _ _
  · induction ra using VRel.boolC; induction rb using VRel.boolC; induction e using some1C; exact EqAt.bool_bool _ _
  · exact noneE e
theorem scEq_refl {W : Wd} {a b : PV} {r : Bool} {x : Value} (e : scEq a b = some r) (ra : VRel W a x) (rb : VRel W b x) : r = true := by
  unfold scEq at e
  split at e
  · induction ra using VRel.intC; cases rb; induction e using some1C; simp
  · induction ra using VRel.strC; cases rb; induction e using some1C; simp
  · induction ra using VRel.boolC; cases rb; induction e using some1C; simp
  · exact noneE e
noncomputable def zipAt (f : PV → PV → Option Bool) (vs ws : List PV) (j : Nat) : Bool := match vs[j]?, ws[j]? with | some v, some w => (f v w).getD false | _, _ => false
theorem zipEq_all {f : PV → PV → Option Bool} : ∀ {vs ws : List PV} {r : Bool}, zipEq f vs ws = some r →
    (∀ (j : Nat) (v w : PV), vs[j]? = some v → ws[j]? = some w → ∃ b, f v w = some b) ∧ (List.range (min vs.length ws.length)).all (zipAt f vs ws) = r
  | [], ws, r, e => by cases e; exact ⟨fun j v w h => (by simp at h), by simp⟩
  | v :: vs, [], r, e => by cases e; exact ⟨fun j v w _ h => (by simp at h), by simp⟩
  | v :: vs, w :: ws, r, e => by
    obtain ⟨b, hb, e⟩ := Option.bind_eq_some_iff.mp (show (f v w).bind _ = some r from e)
    obtain ⟨r', hr, rfl⟩ := Option.map_eq_some_iff.mp e
    obtain ⟨h1, h2⟩ := zipEq_all hr
    refine ⟨fun j v' w' hv hw => ?_, ?_⟩
    · induction j using natC with
      | zero => cases hv; cases hw; exact ⟨b, hb⟩
      | succ j => exact h1 j v' w' hv hw
    · have : min (v :: vs).length (w :: ws).length = min vs.length ws.length + 1 := by simp
      rw [this, List.range_succ_eq_map, List.all_cons, List.all_map]
      have e0 : zipAt f (v :: vs) (w :: ws) 0 = b := by simp [zipAt, hb]
      have e1 : (zipAt f (v :: vs) (w :: ws) ∘ Nat.succ) = zipAt f vs ws := rfl
      rw [e0, e1, h2]
theorem zipEq_ok {W : Wd} {A : Around} {s : Shared} {f : PV → PV → Option Bool} (F : EqF W A s f) {vs ws : List PV} {xs ys : List Value} {r : Bool} (e : zipEq f vs ws = some r) (rv : VRels W vs xs) (rw' : VRels W ws ys) :
    ∃ g : Nat → Bool, (∀ j (h1 : j < xs.toArray.size) (h2 : j < ys.toArray.size), EqAt A s xs.toArray[j] ys.toArray[j] (g j)) ∧ (List.range (min xs.toArray.size ys.toArray.size)).all g = r := by
  obtain ⟨h1, h2⟩ := zipEq_all e
  refine ⟨zipAt f vs ws, fun j hj hk => ?_, ?_⟩
  rotate_left
  · rw [List.size_toArray, List.size_toArray, ← rv.length, ← rw'.length]; exact h2
  · have hj' : j < vs.length := by rw [rv.length]; simpa using hj
    have hk' : j < ws.length := by rw [rw'.length]; simpa using hk
    obtain ⟨x, hx, rx⟩ := rv.get (List.getElem?_eq_getElem hj')
    obtain ⟨y, hy, ry⟩ := rw'.get (List.getElem?_eq_getElem hk')
    obtain ⟨b, hb⟩ := h1 j _ _ (List.getElem?_eq_getElem hj') (List.getElem?_eq_getElem hk')
    have e1 : xs.toArray[j] = x := by
      have := (List.getElem?_eq_some_iff.mp hx).2; simpa using this
    have e2 : ys.toArray[j] = y := by
      have := (List.getElem?_eq_some_iff.mp hy).2; simpa using this
    rw [e1, e2]
    have e3 : zipAt f vs ws j = b := by simp [zipAt, List.getElem?_eq_getElem hj', List.getElem?_eq_getElem hk', hb]
    rw [e3]
    exact F _ _ _ _ _ hb rx ry
theorem VRels.tail {W : Wd} {v : PV} {vs : List PV} {x : Value} {xs : List Value} (r : VRels W (v :: vs) (x :: xs)) : VRel W v x ∧ VRels W vs xs := by
  cases r with | cons a b => exact ⟨a, b⟩
theorem zipEq_refl {W : Wd} {vs ws : List PV} {xs : List Value} {r : Bool} (e : zipEq scEq vs ws = some r) (a : VRels W vs xs) (b : VRels W ws xs) : r = true := by
  induction a using VRels.ind generalizing ws r with
  | nil => induction e using some1C; rfl
  | @cons v x vs xs q _ ih =>
    induction ws using listC with
    | nil => induction e using some1C; rfl
    | cons w ws =>
      obtain ⟨q', hb, e⟩ := Option.bind_eq_some_iff.mp (show (scEq v w).bind _ = some r from e)
      obtain ⟨r', hr, rfl⟩ := Option.map_eq_some_iff.mp e
      rw [scEq_refl hb q b.tail.1, ih hr b.tail.2]; rfl
theorem tupO_inj {xs ys : List Value} (h : tupO xs = tupO ys) : xs = ys := by
  have := congrArg Obj.data h
  simp only [tupO] at this
  injection this with h1
  simpa using h1
section
variable {G : Gd} {C : Cx} {W : Wd} {σ : PS} {X : Led} {s : Shared}
theorem tuEq_ok (R : Rel C W σ X s) {A : Around} (hu : A.units + 2 < cLine) : EqF W A s tuEq := by
  intro a b r x y e ra rb
  unfold tuEq at e
  split at e
  · rename_i vs ws
    obtain ⟨r', hr, rfl⟩ := Option.map_eq_some_iff.mp e
    induction ra using VRel.tupC with
    | tup xs ta hma rva => induction rb using VRel.tupC with
      | tup ys tb hmb rvb =>
        by_cases hab : ta = tb
        · subst hab
          have : xs = ys := tupO_inj (Option.some.inj ((R.getT hma).symm.trans (R.getT hmb)))
          subst this
          rw [zipEq_refl hr rva rvb, rva.length, rvb.length]
          simpa using EqAt.same (A := A) (s := s) (.ref ta)
        · obtain ⟨g, h1, h2⟩ := zipEq_ok (scEq_ok W A.in1 s) hr rva rvb
          have := EqAt.of_refs hab (RcAt.tuples (A := A) ⟨_, R.getT hma, rfl, _, rfl⟩ ⟨_, R.getT hmb, rfl, _, rfl⟩ (by omega) h1)
          rw [h2] at this
          have e : (xs.toArray.size == ys.toArray.size) = (vs.length == ws.length) := by
            rw [List.size_toArray, List.size_toArray, ← rva.length, ← rvb.length]
          rw [e] at this
          exact this
  · exact scEq_ok W A s a b r x y e ra rb
theorem eqB_ok (K : COk1 G C) {a b : PV} {r : Bool} {x y : Value} (e : fEqB a b σ = some r) (R : Rel C W σ X s) (ra : VRel W a x) (rb : VRel W b y) : RcAt C.A s x y r ∧ RcNeAt C.A s x y (!r) := by
  have hu : C.A.units + 8 < cLine := by have := K.units; omega
  have hu1 : C.A.units < cLine := by omega
  have hu2 : C.A.in1.units + 2 < cLine := by show C.A.units + 1 + 2 < _; omega
  unfold fEqB at e
  split at e
  · split at e
    · rename_i xs ys hx hy
      induction ra using VRel.refC with
      | ref ad ha => induction rb using VRel.refC with
        | ref bd hb =>
          refine Rel.getME R hx ha fun o ho ro => ?_
          refine Rel.getME R hy hb fun o' ho' ro' => ?_
          induction ro using ORel.listC with
          | list vs n rv => induction ro' using ORel.listC with
            | list ws n' rw' =>
              have hl : s.heap.IsList ad vs.toArray := ⟨_, ho, rfl, _, rfl⟩
              have hl' : s.heap.IsList bd ws.toArray := ⟨_, ho', rfl, _, rfl⟩
              split at e
              · rename_i hlen
                obtain ⟨g, h1, h2⟩ := zipEq_ok (tuEq_ok R hu2) e rv rw'
                have hs : vs.toArray.size = ws.toArray.size := by rw [List.size_toArray, List.size_toArray, ← rv.length, ← rw'.length, hlen]
                rw [hs, Nat.min_self] at h2
                have a1 := RcAt.lists hl hl' hs hu1 h1
                have a2 := RcNeAt.lists hl hl' hs hu1 h1
                rw [hs, h2] at a1 a2
                exact ⟨a1, a2⟩
              · rename_i hlen
                induction e using some1C
                have hs : (vs.toArray.size != ws.toArray.size) = true := by rw [List.size_toArray, List.size_toArray, ← rv.length, ← rw'.length]; simpa using hlen
                exact ⟨RcAt.lists_lengths hl hl' hs hu1, RcNeAt.lists_lengths hl hl' hs hu1⟩
    · exact noneE e
  · rename_i vs ws
    obtain ⟨r', hr, rfl⟩ := Option.map_eq_some_iff.mp e
    induction ra using VRel.tupC with
    | tup xs ta hma rva => induction rb using VRel.tupC with
      | tup ys tb hmb rvb =>
        obtain ⟨g, h1, h2⟩ := zipEq_ok (scEq_ok W C.A.in1 s) hr rva rvb
        have a1 := RcAt.tuples (A := C.A) ⟨_, R.getT hma, rfl, _, rfl⟩ ⟨_, R.getT hmb, rfl, _, rfl⟩ hu1 h1
        have a2 := RcNeAt.tuples (A := C.A) ⟨_, R.getT hma, rfl, _, rfl⟩ ⟨_, R.getT hmb, rfl, _, rfl⟩ hu1 h1
        have e : (xs.toArray.size == ys.toArray.size) = (vs.length == ws.length) := by
          rw [List.size_toArray, List.size_toArray, ← rva.length, ← rvb.length]
        rw [h2, e] at a1 a2
        exact ⟨a1, a2⟩
  · induction ra using VRel.intC; induction rb using VRel.intC; induction e using some1C; exact ⟨fun prog w E Q h => wpAny_eq_int h, RcNeAt.int_int _ _ _ _⟩
  · rename_i a b
    induction ra using VRel.strC with
    | str t => induction rb using VRel.strC with
      | str u =>
        induction e using some1C
        have e : (mkS' a == mkS' b) = (a == b) := by
          rw [Bool.eq_iff_iff]; simp only [beq_iff_eq]
          exact ⟨fun h => mkS'_inj h, fun h => by rw [h]⟩
        have a2 := RcNeAt.str_str (A := C.A) (s := s) (mkS' a) t (mkS' b) u
        rw [e] at a2
        exact ⟨fun prog w E Q h => P.eq_str (by simpa using h), a2⟩
  · exact noneE e
theorem Op2.eqA (K : COk1 G C) : Op2 G C (compareOp .Eq) oEqA := by
  intro W σ X s a b x y r σ' Q E e R ra rb h
  obtain ⟨q, hq, e⟩ := Option.map_eq_some_iff.mp e
  cases e
  exact (eqB_ok K hq R ra rb).1 _ _ _ _ (h W _ _ (Wd.le_refl _) R (.bool _))
theorem Op2.neA (K : COk1 G C) : Op2 G C (compareOp .NotEq) oNeA := by
  intro W σ X s a b x y r σ' Q E e R ra rb h
  obtain ⟨q, hq, e⟩ := Option.map_eq_some_iff.mp e
  cases e
  exact (eqB_ok K hq R ra rb).2 _ _ _ _ (h W _ _ (Wd.le_refl _) R (.bool _))
noncomputable def anyEq (a : PV) : List PV → Option Bool
  | [] => some false
  | v :: r => (scEq v a).bind fun b => (anyEq a r).map (b || ·)
noncomputable def fIn : PV → PV → PS → Option Bool
  | .str a, .str b, _ => some (!(occurrences (mkS' b) (mkS' a) 0 b.length 1).isEmpty)
  | a, .ref l, σ => match σ.mem[l]? with
    | some (.list xs) => anyEq a xs
    | _ => none
  | a, .tup vs, _ => anyEq a vs
  | _, _, _ => none
noncomputable def oNotIn (a b : PV) (σ : PS) : Option (PV × PS) := (fIn a b σ).map fun r => (.bool (!r), σ)
noncomputable def eqV (a : PV) (y : Value) : Bool := match a, y with
  | .int k, .int i _ => i == k
  | .str k, .str z _ => z.cps.toList == k
  | .bool k, .bool b => b == k
  | _, _ => false
theorem eqV_ok {v a : PV} {y : Value} {b : Bool} (e : scEq v a = some b) (rv : VRel W v y) : eqV a y = b := by
  unfold scEq at e
  split at e
  · induction rv using VRel.intC; induction e using some1C; rfl
  · induction rv using VRel.strC; induction e using some1C; rfl
  · induction rv using VRel.boolC; induction e using some1C; rfl
  · exact noneE e
theorem anyEq_ok {a : PV} {x : Value} {A : Around} (ra : VRel W a x) {xs : List PV} {vs : List Value} {r : Bool} (e : anyEq a xs = some r) (rs : VRels W xs vs) : (∀ y, y ∈ vs → EqAt A s y x (eqV a y)) ∧ vs.any (eqV a) = r := by
  induction rs using VRels.ind generalizing r with
  | nil => induction e using some1C; exact ⟨fun y h => (nomatch h), rfl⟩
  | @cons v y xs vs rv rs ih =>
    obtain ⟨q, hb, e⟩ := Option.bind_eq_some_iff.mp (show (scEq v a).bind _ = some r from e)
    obtain ⟨r', hr, rfl⟩ := Option.map_eq_some_iff.mp e
    obtain ⟨h1, h2⟩ := ih hr
    refine ⟨fun z hz => ?_, by rw [List.any_cons, h2, eqV_ok hb rv]⟩
    rcases List.mem_cons.mp hz with rfl | hz
    · rw [eqV_ok hb rv]; exact scEq_ok W A s _ _ _ _ _ hb rv ra
    · exact h1 z hz
theorem in_ok {a b : PV} {r : Bool} {x y : Value} (e : fIn a b σ = some r) (R : Rel C W σ X s) (ra : VRel W a x) (rb : VRel W b y) {Q : Value → Shared → Prop} {E : Value → Shared → Prop} :
    (Q (.bool r) s → wpAny (model G.p G.w) C.A (compareOp .In x y) Q E s) ∧ (Q (.bool (!r)) s → wpAny (model G.p G.w) C.A (compareOp .NotIn x y) Q E s) := by
  unfold fIn at e
  split at e
  · induction ra using VRel.strC; induction rb using VRel.strC; induction e using some1C
    exact ⟨fun h => P.in_str (by rw [mkS'_len]; exact h), fun h => P.notIn_str (by rw [mkS'_len]; exact h)⟩
  · split at e
    · rename_i xs hx
      induction rb using VRel.refC with
      | ref ad ha =>
        refine Rel.getME R hx ha fun o ho ro => ?_
        induction ro using ORel.listC with
        | list vs n rv =>
          obtain ⟨h1, h2⟩ := anyEq_ok (s := s) (A := C.A.in1) ra e rv
          have h2' : vs.toArray.any (eqV a) = r := by simpa using h2
          exact ⟨fun h => in_listAt (eqV a) ⟨_, ho, rfl, _, rfl⟩ (fun y hy => h1 y (by simpa using hy)) (by rw [h2']; exact h), fun h => notIn_listAt (eqV a) ⟨_, ho, rfl, _, rfl⟩ (fun y hy => h1 y (by simpa using hy)) (by rw [h2']; exact h)⟩
    · exact noneE e
  · induction rb using VRel.tupC with
    | tup vs t hm rv =>
      obtain ⟨h1, h2⟩ := anyEq_ok (s := s) (A := C.A.in1) ra e rv
      have h2' : vs.toArray.any (eqV a) = r := by simpa using h2
      exact ⟨fun h => in_tupleAt (eqV a) ⟨_, R.getT hm, rfl, _, rfl⟩ (fun y hy => h1 y (by simpa using hy)) (by rw [h2']; exact h), fun h => notIn_tupleAt (eqV a) ⟨_, R.getT hm, rfl, _, rfl⟩ (fun y hy => h1 y (by simpa using hy)) (by rw [h2']; exact h)⟩
  · exact noneE e
theorem Op2.notIn : Op2 G C (compareOp .NotIn) oNotIn := by
  intro W σ X s a b x y r σ' Q E e R ra rb h
  obtain ⟨q, hq, e⟩ := Option.map_eq_some_iff.mp e
  cases e
  exact (in_ok hq R ra rb).2 (h W _ _ (Wd.le_refl _) R (.bool _))
end
end Mine
end
section
open PySem PySem.W PyProof.Rows PySem.Calls Builtin Builtin.Str PySem.SeqAt
namespace Mine
section
variable {C : Cx} {W W' : Wd} {σ σ' : PS} {X X' : Led} {s : Shared}
theorem Rel.reX (R : Rel C W σ X s) {h' : Heap} {tk : Nat} (hX : ∀ p ∈ X', h'.get? p.1 = some p.2 ∧ (p.1 ∈ X.map (·.1) ∨ s.heap.get? p.1 = none)) (hnd : (X'.map (·.1)).Nodup)
    (hk : ∀ b x, b ∉ X.map (·.1) → s.heap.get? b = some x → h'.get? b = some x) (ht : 0 < tk) : Rel C W σ X' { s with heap := h', toks := tk } := by
  obtain ⟨m, cs, ms, F, N, nd, r⟩ := R.ex
  have e : ∀ X : Led, cs ++ (ms ++ (W.T ++ X)) = (cs ++ (ms ++ W.T)) ++ X := fun X => by simp
  rw [e] at N nd
  rw [List.map_append, List.nodup_append] at nd
  obtain ⟨nd1, nd2, nd3⟩ := nd
  have hXb : ∀ b, b ∈ X.map (·.1) → b ≠ C.L ∧ C.h₀.get? b = none := fun b hb => by
    obtain ⟨p, hp, rfl⟩ := List.mem_map.mp hb
    exact (N p (List.mem_append_right _ hp)).2
  have hLX : C.L ∉ X.map (·.1) := fun h => (hXb _ h).1 rfl
  have old : ∀ p ∈ cs ++ (ms ++ W.T), p.1 ∉ X.map (·.1) := fun p hp h => nd3 _ (List.mem_map.mpr ⟨p, hp, rfl⟩) _ h rfl
  refine ⟨⟨m, cs, ms, ⟨F.ns.at' fun o q => hk _ o hLX q, fun b x q => hk b x (fun z => by rw [(hXb b z).2] at q; exact noneE q) (F.keep b x q), F.above⟩, ?_, ?_, r⟩, R.bare, R.os, ht⟩
  · rw [e]
    intro p hp
    rcases List.mem_append.mp hp with q | q
    · have z := N p (List.mem_append_left _ q)
      exact ⟨hk _ _ (old p q) z.1, z.2⟩
    · obtain ⟨h1, h2⟩ := hX p q
      refine ⟨h1, ?_⟩
      rcases h2 with h2 | h2
      · exact hXb _ h2
      · refine ⟨fun z => ?_, ?_⟩
        · obtain ⟨oL, es, ep, hL, _⟩ := F.ns
          rw [z, hL] at h2; cases h2
        · cases q : C.h₀.get? p.1 with
          | none => rfl
          | some o => have := F.keep _ _ q; rw [h2] at this; exact noneE this
  · rw [e, List.map_append, List.nodup_append]
    refine ⟨nd1, hnd, fun a ha b hb hab => ?_⟩
    subst hab
    obtain ⟨p, hp, hpe⟩ := List.mem_map.mp hb
    have z := (hX p hp).2
    rw [hpe] at z
    rcases z with z | z
    · exact nd3 _ ha _ z rfl
    · obtain ⟨q, hq, rfl⟩ := List.mem_map.mp ha
      have := (N q (List.mem_append_left _ hq)).1
      rw [z] at this; exact noneE this
theorem Rel.ndX (R : Rel C W σ X s) : (X.map (·.1)).Nodup := by
  obtain ⟨m, cs, ms, F, N, nd, r⟩ := R.ex
  rw [show cs ++ (ms ++ (W.T ++ X)) = (cs ++ (ms ++ W.T)) ++ X by simp, List.map_append, List.nodup_append] at nd
  exact nd.2.1
end
noncomputable def oIAdd : PV → PV → PS → Option (PV × PS) := oAdd
noncomputable def oIMul : PV → PV → PS → Option (PV × PS)
  | .int a, .int b, σ => if Builtin.Int.intBits b ≤ 64 ∨ Builtin.Int.intBits a ≤ 64 ∨ Builtin.Int.intBits a + Builtin.Int.intBits b ≤ 1000000 then some (.int (a * b), σ) else none
  | _, _, _ => none
noncomputable def oISub : PV → PV → PS → Option (PV × PS)
  | .int a, .int b, σ => some (.int (a - b), σ)
  | _, _, _ => none
noncomputable def oMulL : PV → PV → PS → Option (PV × PS)
  | .ref l, .int x, σ => match σ.mem[l]? with
    | some (.list xs) => if 0 ≤ x ∧ x ≤ 64 ∧ 0 < xs.length ∧ xs.length ≤ 64 then fnew (.list (List.replicate x.toNat xs).flatten) σ else none
    | _ => none
  | a, b, σ => oMul a b σ
noncomputable def fenum (l a b : Nat) (f : PS → Option (Fl × PS)) : Nat → Nat → PS → Option (Fl × PS)
  | 0, _, _ => none
  | n + 1, i, σ => match σ.mem[l]? with
    | some (.list xs) => match xs[i]? with
      | some v => fb (f (fset b v (fset a (.int i) σ))) fun r σ => match r with
        | .next => fenum l a b f n (i + 1) σ
        | .cont => fenum l a b f n (i + 1) σ
        | .brk => some (.next, σ)
        | .ret v => some (.ret v, σ)
      | none => some (.next, σ)
    | _ => none
section
variable {G : Gd} {C : Cx} {V : Vw}
theorem Op2.iadd : Op2 G C (inplaceOp .Add) oIAdd := by
  intro W σ X s a b x y r σ' Q E e R ra rb h
  unfold oIAdd oAdd at e
  split at e
  · induction ra using VRel.intC; induction rb using VRel.intC; induction e using someC; exact P.iadd_int (h W _ _ (Wd.le_refl _) (R.toks _) (.int _ _))
  · split at e
    · rename_i hl
      induction ra using VRel.strC; induction rb using VRel.strC; induction e using someC
      refine P.iadd_str ?_
      rename_i σ₀ a b t u
      rw [mkS'_len, mkS'_len]
      by_cases ha : a = []
      · subst ha; exact h W _ _ (Wd.le_refl _) R (.str b u)
      · rw [if_neg (by simpa using ha)]
        by_cases hb : b = []
        · subst hb
          rw [List.append_nil] at h
          exact h W _ _ (Wd.le_refl _) R (.str a t)
        · rw [if_neg (by simpa using hb)]
          have : mkS' a ++ mkS' b = mkS' (a ++ b) := by
            show Str.append _ _ = _
            simp [Str.append, mkS']
          rw [this]
          exact ⟨by rw [mkS'_len]; exact Nat.le_trans hl size4096, h W _ _ (Wd.le_refl _) (R.toks _) (.str _ _)⟩
    · exact noneE e
  · exact noneE e
theorem Op2.isub : Op2 G C (inplaceOp .Sub) oISub := by
  intro W σ X s a b x y r σ' Q E e R ra rb h
  unfold oISub at e
  split at e
  · induction ra using VRel.intC; induction rb using VRel.intC; induction e using someC; exact P.isub_int (h W _ _ (Wd.le_refl _) (R.toks _) (.int _ _))
  · exact noneE e
theorem Op2.imul : Op2 G C (inplaceOp .Mult) oIMul := by
  intro W σ X s a b x y r σ' Q E e R ra rb h
  unfold oIMul at e
  split at e
  · split at e
    · rename_i hb
      induction ra using VRel.intC; induction rb using VRel.intC; induction e using someC
      exact P.imul_int (h W _ _ (Wd.le_refl _) (R.toks _) (.int _ _)) (intMul_ok hb)
    · exact noneE e
  · exact noneE e
theorem foldl_repA (a : List Value) : ∀ (n : Nat) (z : Array Value), ((List.replicate n a.toArray).foldl (fun x1 x2 => x1 ++ x2) z).toList = z.toList ++ (List.replicate n a).flatten
  | 0, z => by simp
  | n + 1, z => by
    rw [List.replicate_succ, List.foldl_cons, foldl_repA a n, List.replicate_succ, List.flatten_cons]
    simp
theorem VRels.rep {W : Wd} {vs : List PV} {xs : List Value} (r : VRels W vs xs) : ∀ n, VRels W (List.replicate n vs).flatten (List.replicate n xs).flatten
  | 0 => .nil
  | n + 1 => by
    rw [List.replicate_succ, List.replicate_succ, List.flatten_cons, List.flatten_cons]
    exact r.app (r.rep n)
theorem mul_listE {prog : Program} {w : World} {A : Around} {E : Value → Shared → Prop} {s : Shared} {l : Addr} {items : Array Value} {k : Nat} {x : Int} {u : Tok} {Q : Value → Shared → Prop}
    (hl : s.heap.get? l = some { cls := .type "list", dict := none, data := .seq items k, slots := #[] })
    (hlo : -(2 ^ 63 : Int) ≤ x) (hhi : x < 2 ^ 63) (hsz : items.size * x.toNat ≤ 2 ^ 24)
    (h : Q (.ref s.heap.objs.size) { s with heap := s.heap.push { cls := .type "list", data := .seq (List.foldl (fun x1 x2 => x1 ++ x2) #[] (List.replicate (if items.isEmpty = true then 0 else x.toNat) items)) } }) :
    wpAny (model prog w) A (binaryOp .Mult (.ref l) (.int x u)) Q E s :=
  wpAny_binaryOp_repeat_ref (T := "list") (U := "int") (by decide) ⟨_, hl, rfl⟩ (fun s' => typeIs_int s' x u) noFill_list_mul F.fills_int_mul F.slot_int_rmul repeat_list F.slot_int_index.lookup
    (call_meets F.slot_int_rmul (typeIs_int s x u) F.entry_int_rmul (F.args_int_rmul_2 _ _) (int___rmul___int_list x u l items k)
      ⟨hl, rfl, ⟨_, hl, rfl⟩, call_meets F.slot_list_mul ⟨_, hl, rfl⟩ F.entry_list_mul (F.args_list_mul_2 _ _)
        (AutoListH.list___mul___list_int_3 l items k x u (by simp [Builtin.List.listFitsIndex]; omega) (by omega) (by simp [Builtin.List.listTooLong, sizeLine]; omega))
        ⟨hl, h⟩⟩)
theorem Op2.mulL : Op2 G C (binaryOp .Mult) oMulL := by
  intro W σ X s a b x y r σ' Q E e R ra rb h
  unfold oMulL at e
  split at e
  · split at e
    · rename_i xs hx
      split at e
      · rename_i hb
        obtain ⟨b0, b1, b2, b3⟩ := hb
        induction ra using VRel.refC with
        | ref ad ha =>
          induction rb using VRel.intC
          refine Rel.getME R hx ha fun o ho ro => ?_
          induction ro using ORel.listC with
          | list vs n rv =>
            have hlen : vs.length ≤ 64 := by rw [← rv.length]; exact b3
            refine mul_listE ho (by omega) (by omega) ?_ ?_
            · rw [List.size_toArray]
              exact Nat.le_trans (Nat.mul_le_mul hlen (by omega : _ ≤ 64)) (by decide)
            · have hne : vs.toArray.isEmpty = false := by
                induction vs using listC with
                | nil => rw [rv.length] at b2; exact absurd b2 (by decide)
                | cons _ _ => rfl
              rw [hne, if_neg Bool.false_ne_true]
              have e' : ∀ k : Nat, ({ cls := .type "list", data := .seq (List.foldl (fun x1 x2 => x1 ++ x2) #[] (List.replicate k vs.toArray)) } : Obj) = listO (List.replicate k vs).flatten 0 := fun k => by
                unfold listO
                congr 2
                apply Array.toList_inj.mp
                rw [foldl_repA]; simp
              rw [e']
              exact new_ok (Q := Q) e R (.list _ _ 0 (rv.rep _)) h
      · exact noneE e
    · exact noneE e
  · exact Op2.mul W σ X s _ _ x y r σ' Q E e R ra rb h
noncomputable def enumO (it : Addr) (i : Int) (old : Value) : Obj := { cls := .type "enumerate", dict := none, data := .fields #[.none, .bool false, .ref it, rawInt i, .none, old], slots := #[] }
inductive EnInv (C : Cx) (W₁ : Wd) (X : Led) (ad Ee I : Addr) (g : Nat → Nat → PS → Prop) (j : Nat) (s' : Shared) : Prop
  | mk (W' : Wd) (σ₂ : PS) (i : Nat) (old : Value) (o' : Obj) : W₁.le W' → o'.cls = .type "list_iterator" → o'.data = .fields #[.ref ad, .int (i : Nat) 0] → Rel C W' σ₂ ((Ee, enumO I (i : Nat) old) :: (I, o') :: X) s' → g j i σ₂ → EnInv C W₁ X ad Ee I g j s'
theorem X1.enum (K : COk1 G C) {xi xv : Str} {pi pv tp pn cp pos : Pos} {k : Nat} {e : Expr} {body : List Stmt} {bi bv : Bool} {ii iv : Nat} {f : PS → Option (PV × PS)} {fbd : PS → Option (Fl × PS)} (n : Nat)
    (hni : C.nm[ii]? = some (xi, bi)) (hnv : C.nm[iv]? = some (xv, bv)) (hx : Ev G C (fv C) (.Name "enumerate" pn) (fun σ => some (.raw (.type "enumerate"), σ))) (he : Ev G C (fv C) e f) (hst : starEach [e] C.fenv = [(false, eval e C.fenv)]) (hb : Xs G C body fbd)
    (hs : ∀ x, foldedSetIterable (.Call (.Name "enumerate" pn) [e] [] cp) C.fenv x = pure x := by intro _; rfl) :
    X1 G C (.For (.Tuple [.Name xi pi, .Name xv pv] k tp) (.Call (.Name "enumerate" pn) [e] [] cp) body [] pos) (fun σ => fbf f σ fun v σ => match v with | .ref l => fenum l ii iv fbd n 0 σ | _ => none) := by
  intro W σ X s r σ' Q E q R h
  refine fbE q fun v σ₁ e₁ e₂ => ?_
  refine wpAny_For ?_ hs
  have H : Evs G C (fv C) [e] _ := .cons he .nil hst
  refine Call_Name rfl (hx W σ X s _ _ _ E rfl R trivial fun W₀ z s₀ l₀ R₀ rz => ?_)
  induction rz using VRel.rawC
  refine PyProof.Rows.callWith_type (H.plain _) (H.args _ (rs := [v]) (σ' := σ₁) (by unfold fbf; rw [e₁]; rfl) R₀ trivial fun W₁ xs s₁ l₁ R₁ rs => ?_)
  cases v with
  | ref l =>
    induction rs using VRels.consC with | cons r1 rs => induction rs using VRels.nilC with | nil => induction r1 using VRel.refC with | ref ad ha =>
    have hl : ∃ xs, σ₁.mem[l]? = some (.list xs) := by
      induction n using natC with
      | zero => cases e₂
      | succ n =>
        simp only [fenum] at e₂
        split at e₂
        · rename_i xs q; exact ⟨xs, q⟩
        · exact noneE e₂
    obtain ⟨xs₀, hx₀⟩ := hl
    refine Rel.getME R₁ hx₀ ha fun o ho ro => ?_
    induction ro using ORel.listC with
    | list vs nn rv =>
      refine call_enumerate_list ⟨_, ho, rfl, _, rfl⟩ fun h' hE hI hsz hk => ?_
      obtain ⟨oI, hoI, hcI, hdI⟩ := hI
      have fresh : ∀ a, s₁.heap.objs.size ≤ a → s₁.heap.get? a = none := fun a ha => by
        cases q : s₁.heap.get? a with
        | none => rfl
        | some o => exact absurd (Heap.lt_size q) (Nat.not_lt.mpr ha)
      have R₂ : Rel C W₁ σ₁ ((s₁.heap.objs.size + 1, enumO s₁.heap.objs.size 0 .none) :: (s₁.heap.objs.size, oI) :: X) { s₁ with heap := h' } := by
        have := R₁.ndX
        refine R₁.reX (tk := s₁.toks) (fun p hp => ?_) ?_ (fun b x _ e => hk b x e) R₁.tk
        · rcases List.mem_cons.mp hp with rfl | hp
          · exact ⟨hE, .inr (fresh _ (Nat.le_succ _))⟩
          · rcases List.mem_cons.mp hp with rfl | hp
            · exact ⟨hoI, .inr (fresh _ (Nat.le_refl _))⟩
            · exact ⟨hk _ _ (R₁.getX hp), .inl (List.mem_map.mpr ⟨p, hp, rfl⟩)⟩
        · have hnX : ∀ a, s₁.heap.objs.size ≤ a → a ∉ X.map (·.1) := fun a ha hm => by
            obtain ⟨p, hp, rfl⟩ := List.mem_map.mp hm
            exact absurd (Heap.lt_size (R₁.getX hp)) (Nat.not_lt.mpr ha)
          rw [List.map_cons, List.map_cons, List.nodup_cons, List.nodup_cons]
          refine ⟨?_, hnX _ (Nat.le_refl _), this⟩
          rw [List.mem_cons, not_or]
          exact ⟨Nat.succ_ne_self _, hnX _ (Nat.le_succ _)⟩
      generalize hI : s₁.heap.objs.size = I at R₂ ⊢
      generalize hE' : I + 1 = Ee at R₂ ⊢
      have hne : Ee ≠ I := by rw [← hE']; exact Nat.succ_ne_self _
      generalize ({ s₁ with heap := h' } : Shared) = s₂ at R₂ ⊢
      refine wpAny_pyIter_enum (R₂.getX (.head _)) ?_
      refine codeAny_forLoop_any (EnInv C W₁ X ad Ee I fun j i σ₂ => fenum l ii iv fbd j i σ₂ = some (r, σ')) ?_ n (.mk W₁ σ₁ 0 .none oI (Wd.le_refl _) hcI hdI R₂ e₂)
      rintro j s' ⟨W', σ₂, i, old, o', le, hc', hd', R', e'⟩
      induction j using natC with
      | zero => cases e'
      | succ j =>
        simp only [fenum] at e'
        split at e'
        · rename_i xs hxs
          refine Rel.getME R' hxs (mu_mono le ha) fun oL hoL roL => ?_
          induction roL using ORel.listC with
          | list ys n' rys =>
            have hL : s'.heap.IsList ad ys.toArray := ⟨_, hoL, rfl, _, rfl⟩
            have hIt : s'.heap.IsListIter I ad i := ⟨o', R'.getX (.tail _ (.head _)), hc', hd'⟩
            split at e'
            · rename_i v hv
              obtain ⟨y, hy, ry⟩ := rys.get hv
              refine fbE e' fun fl σ₃ e₃ e₄ => ?_
              refine wpAny_pyNext_enum_item (R'.getX (.head _)) hIt hL (by simpa using hy) hne fun h₃ hEO hIt₃ hT hsz₃ hk₃ => ?_
              obtain ⟨oI₃, hoI₃, hcI₃, hdI₃⟩ := hIt₃
              refine wpAny_letOwnedTupleGo_enum hEO fun h₄ hE₄ hs₄ => ?_
              have ndX := R'.ndX
              have hEX : Ee ∉ X.map (·.1) := fun hm => by
                rw [List.map_cons, List.map_cons, List.nodup_cons, List.mem_cons] at ndX
                exact ndX.1 (.inr hm)
              have hIX : I ∉ X.map (·.1) := fun hm => by
                rw [List.map_cons, List.map_cons, List.nodup_cons, List.nodup_cons] at ndX
                exact ndX.2.1 hm
              have hEl : Ee < s'.heap.objs.size := Heap.lt_size (R'.getX (.head _))
              have hIl : I < s'.heap.objs.size := Heap.lt_size (R'.getX (.tail _ (.head _)))
              have hTE : s'.heap.objs.size ≠ Ee := Ne.symm (Nat.ne_of_lt hEl)
              have hTI : s'.heap.objs.size ≠ I := Ne.symm (Nat.ne_of_lt hIl)
              have fr : s'.heap.get? s'.heap.objs.size = none := by
                cases q : s'.heap.get? s'.heap.objs.size with
                | none => rfl
                | some o => exact absurd (Heap.lt_size q) (Nat.lt_irrefl _)
              have R₄ : Rel C W' σ₂ ((s'.heap.objs.size, tupO [.int (i : Nat) s'.toks, y]) :: (Ee, enumO I ((i + 1 : Nat) : Int) y) :: (I, oI₃) :: X) { s' with heap := h₄, toks := s'.toks + 1 } := by
                refine R'.reX (fun p hp => ?_) ?_ (fun b x hb e => ?_) (Nat.succ_pos _)
                · rcases List.mem_cons.mp hp with rfl | hp
                  · exact ⟨hs₄.extBut _ _ hTE hT, .inr fr⟩
                  · rcases List.mem_cons.mp hp with rfl | hp
                    · refine ⟨?_, .inl (by simp)⟩
                      rw [show (((i + 1 : Nat) : Int)) = (i : Int) + 1 by push_cast; rfl]
                      exact hE₄
                    · rcases List.mem_cons.mp hp with rfl | hp
                      · exact ⟨hs₄.extBut _ _ (Ne.symm hne) hoI₃, .inl (by simp)⟩
                      · have hp1 : p.1 ∈ X.map (·.1) := List.mem_map.mpr ⟨p, hp, rfl⟩
                        have n1 : p.1 ≠ Ee := fun q => hEX (q ▸ hp1)
                        have n2 : p.1 ≠ I := fun q => hIX (q ▸ hp1)
                        exact ⟨hs₄.extBut _ _ n1 (hk₃ _ _ n1 n2 (R'.getX (.tail _ (.tail _ hp)))), .inl (by simp [hp1])⟩
                · rw [List.map_cons, List.nodup_cons]
                  refine ⟨fun hm => ?_, ndX⟩
                  simp only [List.map_cons, List.mem_cons] at hm
                  rcases hm with hm | hm | hm
                  · exact hTE hm
                  · exact hTI hm
                  · obtain ⟨p, hp, hpe⟩ := List.mem_map.mp hm
                    have := R'.getX (a := p.1) (o := p.2) (.tail _ (.tail _ hp))
                    rw [hpe, fr] at this; exact noneE this
                · simp only [List.map_cons, List.mem_cons, not_or] at hb
                  exact hs₄.extBut _ _ hb.1 (hk₃ _ _ hb.1 hb.2.1 e)
              have T : Tns C [.Name xi pi, .Name xv pv] [ii, iv] := .cons hni (.cons hnv .nil)
              rw [assign_Tuple]
              refine wpAny_bind (wpAny_standAt ?_)
              unfold unpack
              rw [T.each.1, T.each.2]
              refine wpAny_bind (wpAny_holding (unpackItems_tuple (items := #[.int (i : Nat) s'.toks, y]) K.handled ⟨_, R₄.getX (.head _), rfl, _, rfl⟩ fun h₅ he₅ => ?_))
              have R₅ := R₄.ext he₅
              refine T.run K (vs := [.int (i : Nat), v]) R₅ (.cons (.int _ _) (.cons ry .nil)) fun s₆ R₆ => ?_
              refine hb W' _ _ s₆ fl σ₃ _ _ e₃ R₆ fun W₇ u s₇ l₇ R₇ fr => ?_
              have le₇ := Wd.le_trans (Wd.le_trans l₀ l₁) (Wd.le_trans le l₇)
              induction fr with
              | next => exact ⟨j, Nat.lt_succ_self _, .mk W₇ σ₃ (i + 1) y oI₃ (Wd.le_trans le l₇) hcI₃ hdI₃ R₇.dropX e₄⟩
              | cont => exact ⟨j, Nat.lt_succ_self _, .mk W₇ σ₃ (i + 1) y oI₃ (Wd.le_trans le l₇) hcI₃ hdI₃ R₇.dropX e₄⟩
              | brk => induction e₄ using someC; exact h W₇ _ s₇ le₇ R₇.dropX.dropX.dropX .next
              | ret v x rv => induction e₄ using someC; exact h W₇ _ s₇ le₇ R₇.dropX.dropX.dropX (.ret v x rv)
            · rename_i hv
              induction e' using someC
              have : ys[i]? = none := by
                rw [List.getElem?_eq_none_iff] at hv ⊢
                rw [← rys.length]; exact hv
              refine wpAny_pyNext_enum_end K.handled (R'.getX (.head _)) hIt hL (by simpa using this) fun h₃ hx₃ => ?_
              exact wpAny_execs_nil (h W' _ _ (Wd.le_trans (Wd.le_trans l₀ l₁) le) ((R'.dropX).endX (tk := s'.toks) (fun b x hb e => hx₃ b x hb e) R'.tk) .next)
        · exact noneE e'
  | _ => exact noneE e₂
end
end Mine
end
section
open PySem PySem.W PyProof.Rows PySem.Calls
namespace Mine
theorem Ev.callU {G : Gd} {C : Cx} {V : Vw} (K : COk1 G C) (VV : VG V) {d : FnD} (hd : d ∈ G.fns) {x : Str} {p pos : Pos} {es : List Expr} {f : PS → Option (List PV × PS)} {g : List PV → PS → Option (PV × PS)} (hx : V.env.kindOf x = some .globalImplicit)
    (e : nsIn G.K mainGlobals x = some (some (.ref d.f))) (hdb : (x == ("__debug__" : Str)) = false) (H : Evs G C V es f) (hc : Cl G C (.ref d.f) g) : Ev G C V (.Call (.Name x p) es [] pos) (fun σ => fbf f σ fun vs σ => g vs σ) := by
  obtain ⟨fo, h1, h2, _⟩ := K.gd.fn d hd
  exact Ev.callF (Ev.glo K VV hx e (fun _ => .raw _) hdb) h1 h2 H hc
noncomputable def closGo (cells : List (Str × Addr)) : List (Str × NameKind) → List (Str × Addr) → List (Str × Addr)
  | [], acc => acc
  | (n, .free) :: r, acc => closGo cells r ((n, (cells.lookup n).getD 0) :: acc)
  | _ :: r, acc => closGo cells r acc
noncomputable def closOf (sc : Scope) (env : Env) : List (Str × Addr) := closGo env.cells sc.names []
noncomputable def nthS (l : List Stmt) (i : Nat) : Stmt := (l[i]?).getD (.Pass default)
@[reducible] noncomputable def pick {s t : Stmt} (_ : s = t) : Stmt := t
noncomputable def sBody : Stmt → List Stmt
  | .For _ _ b _ _ => b
  | .While _ b _ _ => b
  | .If _ b _ _ => b
  | _ => []
noncomputable def sElse : Stmt → List Stmt
  | .If _ _ b _ => b
  | _ => []
noncomputable def fnP : Stmt → Arguments
  | .FunctionDef _ p .. => p
  | _ => default
noncomputable def fnB : Stmt → List Stmt
  | .FunctionDef _ _ b .. => b
  | _ => []
noncomputable def fnS : Stmt → Scope
  | .FunctionDef _ _ _ _ _ _ s .. => s
  | _ => default
noncomputable def scOk (sc : Scope) (x : Str) : Bool := (sc.names.all fun y => decide (y.2 ≠ .cell) && (decide (y.2 ≠ .local) || decide (sc.names.lookup y.1 = some .local))) && (decide (sc.kind = .function) && decide (sc.names.lookup x = some .local))
theorem scOk_cell {sc : Scope} {x : Str} (h : scOk sc x = true) : ∀ y ∈ sc.names, y.2 ≠ .cell := fun y hy => of_decide_eq_true (Bool.and_eq_true_iff.mp (List.all_eq_true.mp (Bool.and_eq_true_iff.mp h).1 y hy)).1
theorem scOk_names {sc : Scope} {x : Str} (h : scOk sc x = true) : ∀ y ∈ sc.names, y.2 = .local → sc.names.lookup y.1 = some .local := fun y hy q => by
  rcases Bool.or_eq_true_iff.mp (Bool.and_eq_true_iff.mp (List.all_eq_true.mp (Bool.and_eq_true_iff.mp h).1 y hy)).2 with h | h
  · exact absurd q (of_decide_eq_true h)
  · exact of_decide_eq_true h
theorem scOk_kind {sc : Scope} {x : Str} (h : scOk sc x = true) : sc.kind = .function := of_decide_eq_true (Bool.and_eq_true_iff.mp (Bool.and_eq_true_iff.mp h).2).1
theorem scOk_x {sc : Scope} {x : Str} (h : scOk sc x = true) : sc.names.lookup x = some .local := of_decide_eq_true (Bool.and_eq_true_iff.mp (Bool.and_eq_true_iff.mp h).2).2
theorem Ev.compT {G : Gd} {C : Cx} (K : COk1 G C) {elt iter : Expr} {x : Str} {px : Pos} {ifs : List Expr} {sc : Scope} {pos : Pos} {fi : PS → Option (PV × PS)} {ts : PV → PS → Option (Bool × PS)} {el : PV → PS → Option (PV × PS)} (n : Nat)
    (hi : Ev G C (fv C) iter fi) (ht : ∀ Cn v, Cts G C (cvw C sc (closOf sc C.fenv) Cn x v) ifs (ts v)) (hel : ∀ Cn v, Ev G C (cvw C sc (closOf sc C.fenv) Cn x v) elt (el v))
    (hclos : closureFor sc C.fenv = pure (closOf sc C.fenv)) (hsc : scOk sc x = true) (hs : ∀ x, foldedSetIterable iter C.fenv x = pure x) :
    Ev G C (fv C) (.ListComp elt [⟨.Name x px, iter, ifs, 0⟩] sc pos) (fun σ => fbf fi σ fun v σ => fb (fcomp (nxOf v) ts el n 0 [] σ) fun acc σ => fnew (.list acc) σ) := Ev.comp K n hi hclos (scOk_cell hsc) (scOk_kind hsc) (scOk_names hsc) (scOk_x hsc) ht hel hs
end Mine
end
section
open PySem PySem.W PyProof.Rows PySem.Calls
namespace Mine
section
variable {prog : Program} {w : World} {A : Around} {E : Value → Shared → Prop} {s : Shared} {KK : Frag} {x c : Addr} {ox : Obj} {od : Option Obj}
theorem call_meth {env : Env} {o : Expr} {name : Str} {apos pos : Pos} {args : List Expr} {Q : Value → Shared → Prop} (hbase : attributeBase o name env (eval o env) = eval o env)
    (hall : (backTo pos (starEach args env)).all (fun x => !x.1) = true) (hl : decide (args.length < 30) = true) (hline : (apos.endLine == pos.line) = true)
    (h : wpAny (model prog w) A (eval o env) (fun ov s₁ => ∀ pl, wpAny (model prog w) A (getMethod ov name pl) (fun r s₂ => wpAny (model prog w) A (callWith pos r.1 r.2 (backTo pos (starEach args env)) []) Q E s₂) E s₁) E s) :
    wpAny (model prog w) A (eval (.Call (.Attribute o name apos) args [] pos) env) Q E s := by
  rw [arm_eval_Call, hbase]
  refine wpAny_bind (wpAny_mono h (fun ov s₁ h₁ => ?_) fun _ _ e => e)
  refine wpAny_bind (wpAny_standAt ?_)
  have hform : methodCallForm (args.length + ([] : List Keyword).length) (backTo pos (starEach args env)) (backToKw pos (keywordEach [] env)) = true := by
    unfold methodCallForm
    rw [hall]
    show decide (args.length + 0 + 0 < 30) = true
    simpa using of_decide_eq_true hl
  have hpos : methodCallPos true o env apos pos = pure pos := by unfold methodCallPos; simp [hline]
  unfold methodCall
  rw [hform]
  refine wpAny_bind (wpAny_holding ?_)
  refine wpAny_mono (h₁ _) (fun r s₂ h₂ => wpAny_bind (wpAny_of_eq hpos h₂)) fun _ _ e => e
theorem method_blt {id : String} {name : Str} {pl : Sem Bool} {Q : Value × List Value → Shared → Prop} (X : KK.In s.heap) (I : InstAt s.heap x ox c od) {ga : String} (hga : findIn KK (.ref c) "__getattribute__" = some (some (.builtin ga))) (hcan : (Manifest.canonical ga != "object.__getattribute__") = false) (hk : findIn KK (.ref c) "__getattr__" = some none)
    (hf : findIn KK (.ref c) name = some (some (.builtin id))) (ht : typeOf (.builtin id) = pure (.type "method_descriptor")) (hs : shadowIn od name = some false) (h : Q (.builtin id, [.ref x]) s) :
    wpAny (model prog w) A (getMethod (.ref x) name pl) Q E s := by
  unfold getMethod specialOf
  refine wpAny_bind (wpAny_bind (I.type.here ((looks_findIn X hga).here ?_)))
  dsimp only
  rw [hcan, if_neg (by decide)]
  refine wpAny_bind (wpAny_bind (I.type.here ((looks_findIn X hk).here ?_)))
  refine wpAny_bind (wpAny_bind (I.type.here ((looks_findIn X hf).here (wpAny_bind (wpAny_of_eq ht ?_)))))
  rw [if_neg (by decide +kernel)]
  refine wpAny_bind (wpAny_loadPart I.at_ ?_)
  have hd := I.dict
  cases e : ox.dict with
  | none => exact wpAny_bind (wpAny_rule (wpAny_pure h))
  | some dx =>
    induction od using optC with
    | none => rw [e] at hd; exact hd.elim
    | some o =>
      rw [e] at hd
      obtain ⟨r, a, b⟩ := Option.map_eq_some_iff.mp hs
      refine wpAny_bind (wpAny_bind (wpAny_loadPart hd ?_))
      rw [nsLook_of a]
      refine wpAny_pure ?_
      rw [b]
      exact wpAny_bind (wpAny_rule (wpAny_pure h))
theorem method_def {f : Addr} {name : Str} {pl : Sem Bool} {Q : Value × List Value → Shared → Prop} (X : KK.In s.heap) (I : InstAt s.heap x ox c od) {ga : String} (hga : findIn KK (.ref c) "__getattribute__" = some (some (.builtin ga))) (hcan : (Manifest.canonical ga != "object.__getattribute__") = false) (hk : findIn KK (.ref c) "__getattr__" = some none)
    (hf : findIn KK (.ref c) name = some (some (.ref f))) (ht : typeIn KK (.ref f) = some (.type "function")) (hs : shadowIn od name = some false) (h : Q (.ref f, [.ref x]) s) :
    wpAny (model prog w) A (getMethod (.ref x) name pl) Q E s := by
  unfold getMethod specialOf
  refine wpAny_bind (wpAny_bind (I.type.here ((looks_findIn X hga).here ?_)))
  dsimp only
  rw [hcan, if_neg (by decide)]
  refine wpAny_bind (wpAny_bind (I.type.here ((looks_findIn X hk).here ?_)))
  refine wpAny_bind (wpAny_bind (I.type.here ((looks_findIn X hf).here (wpAny_bind ((looks_typeIn X ht).here ?_)))))
  rw [if_neg (by decide +kernel)]
  refine wpAny_bind (wpAny_loadPart I.at_ ?_)
  have hd := I.dict
  cases e : ox.dict with
  | none => exact wpAny_bind (wpAny_rule (wpAny_pure h))
  | some dx =>
    induction od using optC with
    | none => rw [e] at hd; exact hd.elim
    | some o =>
      rw [e] at hd
      obtain ⟨r, a, b⟩ := Option.map_eq_some_iff.mp hs
      refine wpAny_bind (wpAny_bind (wpAny_loadPart hd ?_))
      rw [nsLook_of a]
      refine wpAny_pure ?_
      rw [b]
      exact wpAny_bind (wpAny_rule (wpAny_pure h))
theorem isInst_sub {U : String} {Q : Bool → Shared → Prop} (X : KK.In s.heap) (I : InstAt s.heap x ox c od) (hm : mroIn KK c (.type U) = some true) (hQ : Q true s) : wpAny (model prog w) A (isInstance (.ref x) (.type U)) Q E s := by
  simp only [isInstance]
  exact wpAny_bind (I.type.here ((looks_mroIn X hm).here hQ))
theorem call_sub {id owner n : String} {b : Builtin} {rest : List Value} {Q : Value → Shared → Prop} (hsplit : splitId id = some (owner, n))
    (hkind : (Manifest.find? owner).bind (·.attrs.lookup n) = some .slot ∨ (Manifest.find? owner).bind (·.attrs.lookup n) = some .method) (hq : plainId id = true)
    (X : KK.In s.heap) (I : InstAt s.heap x ox c od) (hm : mroIn KK c (.type owner) = some true) (hb : entryFor table id = some b) (ha : argsOk id ⟨.ref x :: rest, []⟩)
    (hc : wpAny (model prog w) A.in1 (b ⟨.ref x :: rest, []⟩) (fun fin s' => ∃ v, fin = .done (.ret v) ∧ Q v s') E s) : wpAny (model prog w) A (call (.builtin id) (.ref x :: rest)) Q E s := by
  have hk : builtinKind id = (Manifest.find? owner).bind (·.attrs.lookup n) := by simp only [builtinKind, hsplit]
  refine wpAny_call (codeAny_call_builtin hq hb ?_)
  have chk : ∀ (Q' : Unit → Shared → Prop), Q' () s → wpAny (model prog w) A.in1 (checkBuiltinCall id ⟨.ref x :: rest, []⟩) Q' E s := by
    intro Q' hQ
    rcases hkind with h | h <;>
    · simp only [checkBuiltinCall, hk, h, hsplit]
      refine wpAny_bind (isInst_sub X I hm ?_)
      simp only [Bool.not_true, Bool.false_eq_true, if_false]
      cases hsig : Manifest.signature? id with
      | none => exact wpAny_pure hQ
      | some sig =>
        simp only [argsOk, hsig] at ha
        have h2 : Bind.checkArgs id sig ⟨.ref x :: rest, []⟩ = pure () := ha
        show wpAny _ _ (Bind.checkArgs id sig ⟨.ref x :: rest, []⟩) _ E s
        rw [h2]; exact wpAny_pure hQ
  exact chk _ (wpAny_mono hc (fun fin s' h' => by obtain ⟨v, rfl, hv⟩ := h'; exact hv) fun _ _ e => e)
end
end Mine
end
section
open PySem PySem.W PyProof.Rows PySem.Calls
namespace Mine
noncomputable def isAcc (v : PV) (σ : PS) : Bool := match v with
  | .ref l => match σ.mem[l]? with
    | some (.acc _ _) => true
    | _ => false
  | _ => false
noncomputable def accApp : List PV → PS → Option (PV × PS)
  | [.ref l, v], σ => match σ.mem[l]? with
    | some (.acc n xs) => if xs.length ≤ 4096 then some (.none, ⟨σ.vars, σ.mem.set l (.acc n (xs ++ [v]))⟩) else none
    | _ => none
  | _, _ => none
structure AccK (G : Gd) : Prop where
  ga : findIn G.K (.ref G.acc) "__getattribute__" = some (some (.builtin "list.__getattribute__"))
  can : (Manifest.canonical "list.__getattribute__" != "object.__getattribute__") = false
  gt : findIn G.K (.ref G.acc) "__getattr__" = some none
  app : findIn G.K (.ref G.acc) "append" = some (some (.builtin "list.append"))
  list : mroIn G.K G.acc (.type "list") = some true
section
variable {G : Gd} {C : Cx} {V : Vw}
theorem acc_at (K : COk1 G C) {W σ X s} {l : Nat} {n : Int} {xs : List PV} {ad : Addr} (R : Rel C W σ X s) (hx : σ.mem[l]? = some (.acc n xs)) (ha : W.mu[l]? = some ad) :
    ∃ vs e dx t u, s.heap.get? ad = some (accO G.acc dx vs e) ∧ VRels W xs vs ∧ (dx, accD G.w.params n t u) ∈ W.T ∧ InstAt s.heap ad (accO G.acc dx vs e) G.acc (some (accD G.w.params n t u)) := by
  obtain ⟨o, ho, ro⟩ := R.getM hx ha
  induction ro using ORel.accC with
  | acc vs e dx t u rv hm =>
    rw [K.acC] at ho
    rw [K.acP] at hm
    exact ⟨vs, e, dx, t, u, ho, rv, hm, ho, rfl, rfl, R.getT hm⟩
theorem accE {P : Prop} (K : COk1 G C) {W σ X s} {l : Nat} {n : Int} {xs : List PV} {ad : Addr} (R : Rel C W σ X s) (hx : σ.mem[l]? = some (.acc n xs)) (ha : W.mu[l]? = some ad)
    (h : ∀ vs e dx t u, s.heap.get? ad = some (accO G.acc dx vs e) → VRels W xs vs → (dx, accD G.w.params n t u) ∈ W.T → InstAt s.heap ad (accO G.acc dx vs e) G.acc (some (accD G.w.params n t u)) → P) : P := by
  obtain ⟨vs, e, dx, t, u, a, b, c, d⟩ := acc_at K R hx ha
  exact h vs e dx t u a b c d
theorem accD_shadow (P : Params) (n : Int) (t u : Tok) {name : Str} (h : (name == Str.ofString "_initial_size") = false) (h' : (Str.ofString "_initial_size" == name) = false) : shadowIn (some (accD P n t u)) name = some false := by
  unfold shadowIn lookIn accD
  simp only [List.find?_cons, List.find?_nil, DictEntry.refKey, Value.isStr, h']
  simp
theorem mapSeq_acc {c dx : Addr} {vs : List Value} {e : Nat} {f : Array Value → Array Value} : ∃ e', (accO c dx vs e).mapSeq f = accO c dx (f vs.toArray).toList e' := by
  unfold accO Obj.mapSeq
  exact ⟨_, by simp; rfl⟩
theorem accApp_ok (K : COk1 G C) (AK : AccK G) {W σ X s} {l : Nat} {v : PV} {ad : Addr} {y : Value} {r : PV} {σ' : PS} {Q : Value → Shared → Prop} {E : Value → Shared → Prop} (e : accApp [.ref l, v] σ = some (r, σ')) (R : Rel C W σ X s) (ha : W.mu[l]? = some ad) (rv : VRel W v y)
    (h : Po C W σ' X r Q) : wpAny (model G.p G.w) C.A (call (.builtin "list.append") [.ref ad, y]) Q E s := by
  simp only [accApp] at e
  split at e
  · rename_i n xs hx
    split at e
    · rename_i hl
      induction e using someC
      refine accE K R hx ha fun vs e dx t u ho rvs hm I => ?_
      refine call_sub (owner := "list") (n := "append") (by decide +kernel) (.inr (by decide +kernel)) (by decide +kernel) (K.gd.frag.keeps fun _ _ => R.keep) I AK.list entry_list_append (args_list_append _ _) ?_
      show wpAny _ _ (updateSeq ad (·.push y) >>= fun _ => ret .none) _ _ s
      obtain ⟨e', hms⟩ := mapSeq_acc (c := G.acc) (dx := dx) (vs := vs) (e := e) (f := (·.push y))
      have hsz : vs.toArray.size ≤ sizeLine := by rw [List.size_toArray, ← rvs.length]; exact Nat.le_trans hl size4096
      refine wpAny_bind (wpAny_updateSeq (hz := hsz) (_hz' := by rw [Array.size_push]; omega) ho rfl (wpAny_pure ⟨.none, rfl, ?_⟩))
      have hget : (s.heap.update ad (Obj.mapSeq (·.push y))).get? ad = some (accO G.acc dx (vs ++ [y]) e') := by
        rw [Heap.get?_update_self _ ho (by rw [hms]; rfl), hms]
        simp
      refine h W _ _ (Wd.le_refl _) (R.setM hx ha (Heap.SameBut.update ..) hget ?_) .none
      rw [← K.acC]
      exact .acc n _ _ e' dx t u (rvs.snoc rv) (K.acP ▸ hm)
    · exact noneE e
  · exact noneE e
theorem Ev.accApp (K : COk1 G C) (AK : AccK G) {o : Expr} {es : List Expr} {ap pos : Pos} {fo : PS → Option (PV × PS)} {f : PS → Option (List PV × PS)} (ho : Ev G C V o fo) (H : Evs G C V es f)
    (hbase : attributeBase o (Str.ofString "append") V.env (eval o V.env) = eval o V.env) (hl : decide (es.length < 30) = true) (hline : (ap.endLine == pos.line) = true) :
    Ev G C V (.Call (.Attribute o (Str.ofString "append") ap) es [] pos) (fun σ => fbf fo σ fun v σ => if isAcc v σ = true then fbf f σ fun us σ => Mine.accApp (v :: us) σ else none) := by
  intro W σ X s r σ' Q E q R ok h
  refine fbE q fun v σ₁ e₁ q => ?_
  split at q
  · rename_i hacc
    refine fbE q fun us σ₂ e₂ e₃ => ?_
    refine call_meth hbase (H.alln _) hl hline (ho W σ X s v σ₁ _ E e₁ R ok fun W₁ z s₁ l₁ R₁ rz pl => ?_)
    unfold isAcc at hacc
    split at hacc
    · rename_i l
      split at hacc
      · rename_i n xs hx
        induction rz using VRel.refC with
        | ref ad ha =>
          refine accE K R₁ hx ha fun vs ee dx t u' hoA rvs hm I => ?_
          refine method_blt (K.gd.frag.keeps fun _ _ => R₁.keep) I AK.ga AK.can AK.gt AK.app F.type_list_append (accD_shadow _ _ _ _ (by decide) (by decide)) ?_
          refine Calls.callWith_builtin (H.plain _) (H.args _ e₂ R₁ (V.mono l₁ ok) fun W₂ ys s₂ l₂ R₂ rs => ?_)
          induction us using listC with
          | nil => cases e₃
          | cons u us => induction us using listC with
            | cons _ _ => cases e₃
            | nil =>
              induction rs using VRels.consC with | cons r1 rs => induction rs using VRels.nilC with | nil =>
              exact accApp_ok K AK e₃ R₂ (mu_mono l₂ ha) r1 fun W₃ z s₃ l₃ R₃ r₃ => h W₃ z s₃ (Wd.le_trans l₁ (Wd.le_trans l₂ l₃)) R₃ r₃
      · cases hacc
    · cases hacc
  · exact noneE q
theorem Ev.accM (K : COk1 G C) (AK : AccK G) {o : Expr} {name : Str} {ap pos : Pos} {es : List Expr} {fo : PS → Option (PV × PS)} {f : PS → Option (List PV × PS)} {fa : Addr} {fd : FuncData} {fobj : Obj} {g : List PV → PS → Option (PV × PS)} (hfind : findIn G.K (.ref G.acc) name = some (some (.ref fa))) (hty : typeIn G.K (.ref fa) = some (.type "function"))
    (hfo : C.h₀.get? fa = some fobj) (hfd : fobj.data = .func fd) (hn1 : (name == Str.ofString "_initial_size") = false) (hn2 : (Str.ofString "_initial_size" == name) = false)
    (ho : Ev G C V o fo) (H : Evs G C V es f) (hc : Cl G C (.ref fa) g) (hbase : attributeBase o name V.env (eval o V.env) = eval o V.env) (hl : decide (es.length < 30) = true) (hline : (ap.endLine == pos.line) = true) :
    Ev G C V (.Call (.Attribute o name ap) es [] pos) (fun σ => fbf fo σ fun v σ => if isAcc v σ = true then fbf f σ fun vs σ => g (v :: vs) σ else none) := by
  intro W σ X s r σ' Q E q R ok h
  refine fbE q fun v σ₁ e₁ q => ?_
  split at q
  · rename_i hacc
    refine fbE q fun us σ₂ e₂ e₃ => ?_
    refine call_meth hbase (H.alln _) hl hline (ho W σ X s v σ₁ _ E e₁ R ok fun W₁ z s₁ l₁ R₁ rz pl => ?_)
    unfold isAcc at hacc
    split at hacc
    · rename_i l
      split at hacc
      · rename_i n xs hx
        induction rz using VRel.refC with
        | ref ad ha =>
          refine accE K R₁ hx ha fun vs ee dx t u' hoA rvs hm I => ?_
          refine method_def (K.gd.frag.keeps fun _ _ => R₁.keep) I AK.ga AK.can AK.gt hfind hty (accD_shadow _ _ _ _ hn1 hn2) ?_
          refine Calls.callWith_function (fd := fd) (o := fobj) (H.args _ e₂ R₁ (V.mono l₁ ok) fun W₂ ys s₂ l₂ R₂ rs => ⟨⟨R₂.keep hfo, hfd⟩, ?_⟩)
          exact hc W₂ σ₂ X s₂ (.ref l :: us) (.ref ad :: ys) r σ' Q E e₃ R₂ (.cons (.ref l ad (mu_mono l₂ ha)) rs) fun W₃ z s₃ l₃ R₃ r₃ => h W₃ z s₃ (Wd.le_trans l₁ (Wd.le_trans l₂ l₃)) R₃ r₃
      · cases hacc
    · cases hacc
  · exact noneE q
end
end Mine
end
section
open PySem PySem.W PyProof.Rows PySem.Calls
namespace Mine
noncomputable def mReplS (v : PV) (y z : Str) (σ : PS) : Option (PV × PS) := match v with
  | .str x => if x.length ≤ 4096 ∧ z.length ≤ 14 ∧ (y == z) = false then some (.str (Txt.replace (mkS' x) y z).cps.toList, σ) else none
  | _ => none
section
variable {G : Gd} {C : Cx} {V : Vw}
end
end Mine
end
section
open PySem PySem.W PyProof.Rows PySem.Calls
namespace Mine
mutual
noncomputable def belowV (n : Nat) : PV → Bool
  | .ref l => decide (l < n)
  | .tup vs => belowL n vs
  | .flist vs => belowL n vs
  | _ => true
noncomputable def belowL (n : Nat) : List PV → Bool
  | [] => true
  | v :: r => belowV n v && belowL n r
end
noncomputable def belowO (n : Nat) : PO → Bool
  | .list xs => belowL n xs
  | .dict es => belowL n (es.map (·.2))
  | .acc _ xs => belowL n xs
  | .tab _ => true
  | .gone => true
noncomputable def cutV (n : Nat) : Option PV → Option PV
  | some v => if belowV n v = true then some v else none
  | none => none
noncomputable def cutS (n : Nat) (σ : PS) : PS := ⟨σ.vars.map (cutV n), σ.mem.take n⟩
noncomputable def cutW (n : Nat) (W : Wd) : Wd := ⟨W.mu.take n, W.T⟩
mutual
theorem VRel.cut {W : Wd} {n : Nat} : ∀ {v : PV} {x : Value}, belowV n v = true → VRel W v x → VRel (cutW n W) v x
  | _, _, _, .none => .none
  | _, _, _, .bool b => .bool b
  | _, _, _, .int i t => .int i t
  | _, _, _, .str s t => .str s t
  | .ref l, _, h, .ref _ a e => .ref l a (by
      have hl : l < n := by simpa [belowV] using h
      show (W.mu.take n)[l]? = some a
      rw [List.getElem?_take_of_lt hl]; exact e)
  | .tup vs, _, h, .tup _ xs a m r => .tup vs xs a m (VRels.cut (by simpa [belowV] using h) r)
  | _, _, _, .rng a b c t u v x m => .rng a b c t u v x m
  | _, _, _, .raw v => .raw v
  | .flist vs, _, h, .flist _ xs k a m r => .flist vs xs k a m (VRels.cut (by simpa [belowV] using h) r)
theorem VRels.cut {W : Wd} {n : Nat} : ∀ {vs : List PV} {xs : List Value}, belowL n vs = true → VRels W vs xs → VRels (cutW n W) vs xs
  | _, _, _, .nil => .nil
  | v :: vs, _, h, .cons r rs => by
    have : belowV n v = true ∧ belowL n vs = true := by simpa [belowL] using h
    exact .cons (VRel.cut this.1 r) (VRels.cut this.2 rs)
end
theorem DRel.cut {W : Wd} {n : Nat} {es : List (List Nat × PV)} {ds : List (Str × Value)} (h : belowL n (es.map (·.2)) = true) (r : DRel W es ds) : DRel (cutW n W) es ds := by
  induction r with
  | nil => exact .nil
  | cons r _ ih =>
    have := Bool.and_eq_true_iff.mp h
    exact .cons (r.cut this.1) (ih this.2)
theorem ORel.cut {A : Acc} {W : Wd} {n : Nat} {po : PO} {a : Addr} {o : Obj} (h : belowO n po = true) (r : ORel A W po a o) : ORel A (cutW n W) po a o := by
  cases r with
  | list xs vs k r => exact .list xs vs k (r.cut h)
  | dict es ds o r d => exact .dict es ds o (r.cut h) d
  | acc i xs vs e dx t u r m => exact .acc i xs vs e dx t u (r.cut h) m
  | tab _ vs ht => exact .tab _ vs ht
  | gone h => exact .gone h
theorem MRel.cut {A : Acc} {W : Wd} {n k : Nat} {ps : List PO} {l : Led} (h : ∀ po ∈ ps.take k, belowO n po = true) (r : MRel A W ps l) : MRel A (cutW n W) (ps.take k) (l.take k) := by
  induction r generalizing k with
  | nil => rw [List.take_nil, List.take_nil]; exact .nil
  | cons r rs ih => induction k using natC with
    | zero => exact .nil
    | succ k => exact .cons (r.cut (h _ (.head _))) (ih fun po hp => h po (.tail _ hp))
theorem cutV_some {n : Nat} {v : Option PV} {pv : PV} (e : cutV n v = some pv) : v = some pv ∧ belowV n pv = true := by
  induction v using optC with
  | none => cases e
  | some v =>
    simp only [cutV] at e
    split at e
    · rename_i hb
      induction e using some1C
      exact ⟨rfl, hb⟩
    · exact noneE e
theorem SRel.cut {W : Wd} {n : Nat} {cl : List (Str × Addr)} {m : Str → Option Value} {cs : Led} {nm : List (Str × Bool)} {vs : List (Option PV)} (r : SRel W cl m cs nm vs) : SRel (cutW n W) cl m cs nm (vs.map (cutV n)) := by
  induction r with
  | nil => exact .nil
  | loc k _ ih => exact .loc (fun pv e => let ⟨e1, e2⟩ := cutV_some e; let ⟨y, h1, h2⟩ := k pv e1; ⟨y, h1, h2.cut e2⟩) ih
  | cel a b c k _ ih => exact .cel a b c (fun pv e => let ⟨e1, e2⟩ := cutV_some e; let ⟨y, h1, h2⟩ := k pv e1; ⟨y, h1, h2.cut e2⟩) ih
theorem Rel.cut {C : Cx} {W : Wd} {σ : PS} {X : Led} {s : Shared} {n : Nat} (R : Rel C W σ X s) (h : ∀ po ∈ σ.mem.take n, belowO n po = true) : Rel C (cutW n W) (cutS n σ) X s := by
  refine Rel.exE R fun m cs ms F N nd sr mr mu => ?_
  have hs : (cs ++ (ms.take n ++ (W.T ++ X))).Sublist (cs ++ (ms ++ (W.T ++ X))) :=
    List.Sublist.append (List.Sublist.refl _) (List.Sublist.append (List.take_sublist _ _) (List.Sublist.refl _))
  exact ⟨⟨m, cs, ms.take n, F, fun p hp => N p (hs.subset hp), List.Nodup.sublist (hs.map _) nd, sr.cut, mr.cut h, by show (ms.take n).map _ = W.mu.take n; rw [List.map_take, mu]⟩, R.bare, R.os, R.tk⟩
noncomputable def dropS (ds : List Nat) (σ : PS) : PS := ⟨ds.foldl (fun vs i => vs.set i none) σ.vars, ds.foldl (fun ms i => if 1000 ≤ i then ms.set (i - 1000) .gone else ms) σ.mem⟩
theorem SRel.forget {W : Wd} {cl : List (Str × Addr)} {m : Str → Option Value} {cs : Led} {nm : List (Str × Bool)} {vs : List (Option PV)} {i : Nat} (r : SRel W cl m cs nm vs) : SRel W cl m cs nm (vs.set i none) := by
  induction r generalizing i with
  | nil => exact .nil
  | loc k r ih => induction i using natC with
    | zero => exact .loc (fun _ e => nomatch e) r
    | succ i => exact .loc k (ih (i := i))
  | cel a b c k r ih => induction i using natC with
    | zero => exact .cel a b c (fun _ e => nomatch e) r
    | succ i => exact .cel a b c k (ih (i := i))
theorem Rel.drop {C : Cx} {W : Wd} {σ : PS} {X : Led} {s : Shared} (R : Rel C W σ X s) (ds : List Nat) : Rel C W (dropS ds σ) X s := by
  refine Rel.exE R fun m cs ms F N nd sr mr mu => ?_
  refine ⟨⟨m, cs, ms, F, N, nd, ?_, ?_, mu⟩, R.bare, R.os, R.tk⟩
  · show SRel W C.fenv.cells m cs C.nm (ds.foldl (fun vs i => vs.set i none) σ.vars)
    clear R mr
    generalize σ.vars = vs at sr
    induction ds generalizing vs with
    | nil => exact sr
    | cons d ds ih => exact ih _ sr.forget
  · show MRel C.ac W (ds.foldl (fun ms i => if 1000 ≤ i then ms.set (i - 1000) .gone else ms) σ.mem) ms
    clear R sr
    generalize σ.mem = ps at mr
    induction ds generalizing ps with
    | nil => exact mr
    | cons d ds ih =>
      refine ih _ ?_
      dsimp only
      split
      · exact mr.gone
      · exact mr
noncomputable def ffin (ds : List Nat) (f : PS → Option (Fl × PS)) (σ : PS) : Option (Fl × PS) := match f σ with
  | some (.next, σ₁) => if (σ₁.mem.take σ.mem.length).all (belowO σ.mem.length) = true then some (.next, dropS ds (cutS σ.mem.length σ₁)) else none
  | o => o
theorem X1.fin {G : Gd} {C : Cx} {b : Stmt} {f : PS → Option (Fl × PS)} (ds : List Nat) (hb : X1 G C b f) : X1 G C b (ffin ds f) := by
  intro W σ X s r σ' Q E e R h
  unfold ffin at e
  split at e
  · rename_i σ₁ hf
    split at e
    · rename_i hall
      induction e using someC
      refine hb W σ X s _ _ _ _ hf R fun W' v s' le R' fr => ?_
      cases fr with
      | next =>
        obtain ⟨⟨ex, hex⟩, hT⟩ := le
        rw [List.all_eq_true] at hall
        refine h (cutW σ.mem.length W') _ s' ⟨⟨[], ?_⟩, hT⟩ ((R'.cut hall).drop ds) .next
        show W'.mu.take _ = _
        rw [hex, ← R.len, List.take_left, List.append_nil]
    · exact noneE e
  · exact hb W σ X s r σ' Q E e R h
theorem iter_okC {G : Gd} {C : Cx} {W : Wd} {σ : PS} {X : Led} {s : Shared} (K : COk1 G C) {v : PV} {x : Value} {r : Option PV} {Q : Value → Shared → Prop} {E : Value → Shared → Prop} (e : nxOf v 0 σ = some r) (R : Rel C W σ X s) (rv : VRel W v x)
    (h : ∀ I o ok s', Stp G C I ok (nxOf v) → (∀ n, belowV n v = true → ∀ i W o, ok i W o → ok i (cutW n W) o) → ok 0 W o → Rel C W σ ((I, o) :: X) s' → Q (.ref I) s') : wpAny (model G.p G.w) C.A (pyIter x) Q E s := by
  cases rv with
  | none => cases e
  | bool b => cases e
  | int i t => cases e
  | raw v => cases e
  | flist => cases e
  | str x t =>
    refine wpAny_pyIter_strU ?_
    exact h _ _ _ _ (stp_str K) (fun _ _ _ _ _ h => h) ⟨Nat.zero_le _, rfl, rfl⟩ (R.allocX rfl)
  | ref l a ha =>
    simp only [nxOf] at e
    split at e
    · rename_i xs hx
      refine Rel.getME R hx ha fun o' ho' ro => ?_
      induction ro using ORel.listC with
      | list vs n rv =>
        refine wpAny_pyIter_list ⟨_, ho', rfl, _, rfl⟩ ?_
        refine h _ _ _ _ (stp_list K) (fun n hb i W o hok => ⟨?_, hok.2⟩) ⟨ha, rfl, rfl⟩ (R.allocX rfl)
        have hl : l < n := by simpa [belowV] using hb
        show (W.mu.take n)[l]? = some a
        rw [List.getElem?_take_of_lt hl]; exact hok.1
    · exact noneE e
  | tup vs xs a hm rv =>
    refine wpAny_pyIter_tuple ⟨_, R.getT hm, rfl, _, rfl⟩ ?_
    refine h _ _ _ _ (stp_tup K) (fun n hb i W o hok => ⟨hok.1, hok.2.1.cut (by simpa [belowV] using hb), hok.2.2⟩) ⟨hm, rv, rfl, rfl⟩ (R.allocX rfl)
  | rng a b c t u v y hm =>
    simp only [nxOf] at e
    split at e
    · rename_i hc
      obtain ⟨rfl, hs⟩ := hc
      refine wpAny_pyIter_range (R.getT hm) hs ?_
      refine h _ _ _ _ (stp_rng K) (fun _ _ _ _ _ h => h) ⟨Builtin.Range.rangeSize a b 1, ?_, ?_⟩ (R.allocX rfl)
      · simp
      · unfold Builtin.Range.rangeSize
        rw [if_pos (by decide)]
        split
        · left; simp
        · right; refine ⟨Int.le_refl _, ?_⟩; simp; omega
    · exact noneE e
noncomputable def fforC (ds : List Nat) (n0 : Nat) (nx : Nat → PS → Option (Option PV)) (st : PV → PS → Option PS) (b : PS → Option (Fl × PS)) : Nat → Nat → PS → Option (Fl × PS)
  | 0, _, _ => none
  | n + 1, i, σ => match nx i σ with
    | some (some v) => match st v σ with
      | some σ₁ => fb (b σ₁) fun r σ₂ => match r with
        | .next => if (σ₂.mem.take n0).all (belowO n0) = true then fforC ds n0 nx st b n (i + 1) (dropS ds (cutS n0 σ₂)) else none
        | .ret v => some (.ret v, σ₂)
        | _ => none
      | none => none
    | some none => some (.next, σ)
    | none => none
theorem X1.forC {G : Gd} {C : Cx} (K : COk1 G C) {t e : Expr} {b : List Stmt} {p : Pos} {st : PV → PS → Option PS} {fe : PS → Option (PV × PS)} {f : PS → Option (Fl × PS)} (ds : List Nat) (n : Nat) (he : Ev G C (fv C) e fe) (ht : Tg G C t st) (hb : Xs G C b f)
    (hg : ∀ it v, letOwnedTupleGo t it v = pure () := by intro _ _; rfl) (hs : ∀ x, foldedSetIterable e C.fenv x = pure x := by intro _; rfl) :
    X1 G C (.For t e b [] p) (fun σ => fbf fe σ fun v σ => if belowV σ.mem.length v = true then fforC ds σ.mem.length (nxOf v) st f n 0 σ else none) := by
  intro W σ X s r σ' Q E e' R h
  refine fbE e' fun v σ₁ e₁ e₂ => ?_
  refine wpAny_For (he W σ X s v σ₁ _ E e₁ R trivial fun W₁ x s₁ l₁ R₁ rv => ?_) hs
  split at e₂
  · rename_i hbl
    have hnx : ∃ q, nxOf v 0 σ₁ = some q := by
      induction n using natC with
      | zero => cases e₂
      | succ n =>
        simp only [fforC] at e₂
        split at e₂
        · rename_i q; exact ⟨_, q⟩
        · rename_i q; exact ⟨_, q⟩
        · exact noneE e₂
    obtain ⟨q, hq⟩ := hnx
    refine iter_okC K hq R₁ rv fun I o ok s₂ S hcut hok R₂ => ?_
    have hlen := R₁.len
    refine codeAny_forLoop_any (FrInv C W₁ X I ok fun k i σ₂ => fforC ds σ₁.mem.length (nxOf v) st f k i σ₂ = some (r, σ')) ?_ n (.mk W₁ σ₁ 0 _ (Wd.le_refl _) hok R₂ e₂)
    rintro k s' ⟨W', σ₂, i, o', le, hok', R', e'⟩
    induction k using natC with
    | zero => cases e'
    | succ k =>
      simp only [fforC] at e'
      split at e'
      · rename_i w hw
        refine S.item i W' σ₂ X s' o' w _ _ hok' R' hw fun o₂ y s₃ hok₂ R₃ ry => ?_
        dsimp only
        rw [hg]
        refine wpAny_pure ?_
        split at e'
        · rename_i σ₃ h₃
          refine fbE e' fun fl σ₄ e₄ e₅ => ?_
          refine ht W' σ₂ _ s₃ w y σ₃ _ _ h₃ R₃ ry fun W₄ s₄ l₄ R₄ => ?_
          refine hb W₄ σ₃ _ s₄ fl σ₄ _ _ e₄ R₄ fun W₅ u s₅ l₅ R₅ fr => ?_
          have le₅ := Wd.le_trans le (Wd.le_trans l₄ l₅)
          induction fr with
          | next =>
            simp only at e₅
            split at e₅
            · rename_i hall
              rw [List.all_eq_true] at hall
              have hok₃ := hcut σ₁.mem.length hbl _ _ _ (S.mono (Wd.le_trans l₄ l₅) hok₂)
              obtain ⟨⟨ex, hex⟩, hT⟩ := le₅
              refine ⟨k, Nat.lt_succ_self _, .mk (cutW σ₁.mem.length W₅) (dropS ds (cutS σ₁.mem.length σ₄)) (i + 1) o₂ (⟨⟨[], ?_⟩, hT⟩) hok₃ ((R₅.cut hall).drop ds) e₅⟩
              show W₅.mu.take _ = _
              rw [hex, ← hlen, List.take_left, List.append_nil]
            · exact noneE e₅
          | cont => exact noneE e₅
          | brk => exact noneE e₅
          | ret v x rv => induction e₅ using someC; exact h W₅ _ s₅ (Wd.le_trans l₁ le₅) R₅.dropX (.ret v x rv)
        · exact noneE e'
      · rename_i hw
        induction e' using someC
        refine S.done i W' _ X s' o' _ _ hok' R' hw fun s₃ R₃ => ?_
        exact wpAny_execs_nil (h W' _ s₃ (Wd.le_trans l₁ le) R₃ .next)
      · exact noneE e'
  · exact noneE e₂
end Mine
end
section
open PySem PySem.W PyProof.Rows PySem.Calls
namespace Mine
section
variable {prog : Program} {w : World} {A : Around} {E : Value → Shared → Prop} {s : Shared} {KK : Frag} {x c : Addr} {ox : Obj} {od : Option Obj}
noncomputable def noSeqT (K : Frag) (C : Addr) : Bool := seqItemTypes.all fun n => subIn K (.ref C) (.type n) == some false
end
end Mine
end
section
open PySem PySem.W PyProof.Rows PySem.Calls Builtin Builtin.Str
namespace Mine
structure AccK2 (G : Gd) : Prop extends AccK G where
  seq : noSeqT G.K G.acc = true
  get : findIn G.K (.ref G.acc) "__getitem__" = some (some (.builtin "list.__getitem__"))
  set : findIn G.K (.ref G.acc) "__setitem__" = some (some (.builtin "list.__setitem__"))
section
variable {G : Gd} {C : Cx} {V : Vw}
end
end Mine
end
section
open PySem PySem.W PyProof.Rows PySem.Calls
namespace Mine
section
variable {prog : Program} {w : World} {A : Around} {E : Value → Shared → Prop} {s : Shared} {KK : Frag} {x c : Addr} {ox : Obj} {od : Option Obj}
theorem iter_sub {Q : Value → Shared → Prop} (X : KK.In s.heap) (I : InstAt s.heap x ox c od) (hf : findIn KK (.ref c) "__iter__" = some (some (.builtin "list.__iter__"))) (hm : mroIn KK c (.type "list") = some true)
    (h : Q (.ref s.heap.objs.size) { s with heap := s.heap.push { cls := .type "list_iterator", data := .fields #[.ref x, .int 0 0] } }) : wpAny (model prog w) A (pyIter (.ref x)) Q E s := by
  unfold pyIter specialOf
  refine wpAny_bind (wpAny_bind (I.type.here ((looks_findIn X hf).here ?_)))
  show wpAny _ A (callSpecialIfBoundUnlessNone? (.ref x) "__iter__" _ >>= _) Q E s
  have hcall : wpAny (model prog w) A (call (.builtin "list.__iter__") [.ref x]) (fun it s' => it = .ref s.heap.objs.size ∧ s' = { s with heap := s.heap.push { cls := .type "list_iterator", data := .fields #[.ref x, .int 0 0] } }) E s := by
    refine call_sub (owner := "list") (n := "__iter__") (by decide +kernel) (.inl (by decide +kernel)) (by decide +kernel) X I hm entry_list_iter (args_list_iter _) ?_
    show wpAny _ _ (do ret (← newFields "list_iterator" [.ref x, rawInt 0])) _ _ s
    exact wpAny_bind (wpAny_newObj_type (wpAny_pure ⟨_, rfl, rfl, rfl⟩))
  have fin : ∀ it s', it = Value.ref s.heap.objs.size ∧ s' = { s with heap := s.heap.push { cls := .type "list_iterator", data := .fields #[.ref x, .int 0 0] } } → wpAny (model prog w) A (do
      match ← specialOf it "__next__" with
      | none => rule "iter.non-iterator"; raiseError "TypeError" s!"iter() returned non-iterator of type '{← typeNameOf it}'"
      | some _ => pure it) Q E s' := by
    rintro it s' ⟨rfl, rfl⟩
    refine wpAny_bind (wpAny_specialOf ⟨_, Heap.get?_push_size _ rfl, rfl⟩ slot_listiter_next.lookup (wpAny_pure h))
  have hb : bindSpecial (.builtin "list.__iter__") (.ref x) = pure (.builtin "list.__iter__", [.ref x]) := slot_list_iter.bind _
  unfold callSpecialIfBoundUnlessNone? bindSpecialIfBound? specialOf
  refine wpAny_bind (wpAny_holding (wpAny_bind (wpAny_bind (wpAny_bind (I.type.here ((looks_findIn X hf).here ?_))))))
  dsimp only
  rw [hb]
  refine wpAny_bind (wpAny_askSetting ?_)
  split
  · refine wpAny_bind (wpAny_pure (wpAny_pure ?_))
    dsimp only
    rw [if_neg (by decide)]
    exact wpAny_bind (wpAny_mono hcall (fun it s' q => wpAny_pure (fin it s' q)) fun _ _ e => e)
  · refine wpAny_tryCatch (wpAny_bind (wpAny_pure (wpAny_pure ?_)))
    dsimp only
    rw [if_neg (by decide)]
    exact wpAny_bind (wpAny_mono hcall (fun it s' q => wpAny_pure (fin it s' q)) fun _ _ e => e)
theorem next_seq {it l : Addr} {i : Nat} {o : Obj} {items : Array Value} {n : Nat} {y : Value} {Q : Option Value → Shared → Prop} (hit : s.heap.IsListIter it l i) (ho : s.heap.get? l = some o) (hd : o.data = .seq items n) (hx : items[i]? = some y)
    (hQ : ∀ h', h'.IsListIter it l (i + 1) → Heap.SameBut it s.heap h' → Q (some y) { s with heap := h' }) : wpAny (model prog w) A (pyNext (.ref it)) Q E s := by
  obtain ⟨oi, hoi, hci, hdi⟩ := id hit
  have run : wpAny (model prog w) A (call (.builtin "list_iterator.__next__") [.ref it]) (fun v s' => v = y ∧ ∃ h', h'.IsListIter it l (i + 1) ∧ Heap.SameBut it s.heap h' ∧ s' = { s with heap := h' }) (fun _ _ => False) s := by
    refine wpAny_call_entry slot_listiter_next hit.typeIs entry_listiter_next ?_ (args_listiter_next _)
    refine wpAny_bind (m := field (.ref it) 0) (wpAny_field hoi hdi (x := .ref l) rfl ?_)
    rw [if_neg (show ¬ ((Value.ref l == Value.none) = true) from Bool.false_ne_true)]
    refine wpAny_bind (m := field (.ref it) 1) (wpAny_field hoi hdi (x := .int i 0) rfl ?_)
    refine wpAny_bind (m := seqItems? (.ref l)) (wpAny_seqItems ho hd ?_)
    simp only [Int.toNat_natCast, hx]
    refine wpAny_bind (wpAny_setField hoi hdi (by simp) (wpAny_pure ⟨y, rfl, rfl, _, ⟨_, Heap.get?_update_self _ hoi (Obj.isFreed_of_fields (Obj.data_mapFields hdi _)), (Obj.cls_mapFields ..).trans hci, ?_⟩, Heap.SameBut.update .., rfl⟩))
    rw [Obj.data_mapFields hdi]; simp [rawInt]
  unfold pyNext
  refine wpAny_bind (wpAny_attempt (wpAny_callSpecial?_slot (name := Str.ofString "__next__") hit.typeIs slot_listiter_next (wpAny_mono run (fun v s' q => ?_) fun _ _ e => ?_)))
  · obtain ⟨rfl, h', a, b, rfl⟩ := q
    exact wpAny_pure (hQ h' a b)
  · exact e.elim
theorem stop_seq {it l : Addr} {i : Nat} {o : Obj} {items : Array Value} {n : Nat} {Q : Option Value → Shared → Prop} (hh : A.handled = none) (hit : s.heap.IsListIter it l i) (ho : s.heap.get? l = some o) (hd : o.data = .seq items n) (hx : items[i]? = none)
    (hQ : ∀ h', Heap.ExtBut it s.heap h' → Q none { s with heap := h' }) : wpAny (model prog w) A (pyNext (.ref it)) Q E s := by
  obtain ⟨oi, hoi, hci, hdi⟩ := id hit
  unfold pyNext
  refine wpAny_bind (wpAny_attempt (wpAny_callSpecial?_slot (name := Str.ofString "__next__") hit.typeIs slot_listiter_next (wpAny_call_entry slot_listiter_next hit.typeIs entry_listiter_next ?_ (args_listiter_next _))))
  refine wpAny_bind (m := field (.ref it) 0) (wpAny_field hoi hdi (x := .ref l) rfl ?_)
  rw [if_neg (show ¬ ((Value.ref l == Value.none) = true) from Bool.false_ne_true)]
  refine wpAny_bind (m := field (.ref it) 1) (wpAny_field hoi hdi (x := .int i 0) rfl ?_)
  refine wpAny_bind (m := seqItems? (.ref l)) (wpAny_seqItems ho hd ?_)
  simp only [Int.toNat_natCast, hx]
  refine wpAny_bind (wpAny_rule (wpAny_bind (wpAny_setField hoi hdi (by simp) ?_)))
  refine wpAny_bind (m := newExc (.type "StopIteration") []) ?_
  simp only [newExc, newTuple]
  refine wpAny_bind (wpAny_newObj_type ?_ (by size_fits))
  refine wpAny_bind (m := firstArgMember _ _) (wpAny_of_eq (a := Value.none) (by first | rfl | (simp only [firstArgMember]; rfl)) ?_)
  refine wpAny_newObj_type ?_ (by size_fits)
  simp only [raiseNew]
  refine wpAny_bind (wpAny_handled ?_)
  rw [show A.in1.handled = none from hh]
  refine wpAny_bind (wpAny_pure (wpAny_throw ?_))
  refine wpAny_bind (wpAny_isInstance (T := "StopIteration") (b := true) ⟨_, Heap.get?_push_size _ rfl, rfl⟩ isSubtype_stop ?_)
  exact wpAny_pure (hQ _ (((Heap.SameBut.update ..).extBut.push _).push _))
end
theorem walk_seq {prog : Program} {w : World} {A : Around} (hh : A.handled = none) (I ax : Addr) (hne : ax ≠ I) (oa : Obj) (items : Array Value) (n0 : Nat) (hda : oa.data = .seq items n0) (Ts : Nat → Addr) (vals : Nat → Array Value)
    (hit : ∀ j, j < items.size → items[j]? = some (.ref (Ts j))) (hTI : ∀ j, j < items.size → Ts j ≠ I) :
    WalksU prog w A I (I :: ax :: (List.range items.size).map Ts) [I] items.size (fun j v => j < items.size ∧ v = vals j)
      (fun j h => h.IsListIter I ax j ∧ h.get? ax = some oa ∧ ∀ k, k < items.size → h.IsTuple (Ts k) (vals k))
      (fun j T h => (j < items.size ∧ T = Ts j) ∧ h.IsListIter I ax (j + 1) ∧ h.get? ax = some oa ∧ ∀ k, k < items.size → h.IsTuple (Ts k) (vals k)) where
  sub := fun b hb => by
    rw [List.mem_singleton] at hb
    exact hb ▸ .head _
  frame := fun _ h h' st hk => by
    obtain ⟨⟨o, a, b⟩, e, t⟩ := st
    exact ⟨⟨o, hk I (.head _) _ a, b⟩, hk ax (.tail _ (.head _)) _ e, fun k hk' => (t k hk').at fun o e => hk (Ts k) (.tail _ (.tail _ (List.mem_map.mpr ⟨k, List.mem_range.mpr hk', rfl⟩))) o e⟩
  item := fun i s Q E hi ⟨st, e, t⟩ hQ => by
    refine next_seq st e hda (hit i hi) fun h' hit' hs' => ?_
    have tup : ∀ k, k < items.size → h'.IsTuple (Ts k) (vals k) := fun k hk' => (t k hk').extBut hs'.extBut (hTI k hk')
    exact hQ (Ts i) (vals i) h' s.toks ⟨hi, rfl⟩ (tup i hi) ⟨⟨hi, rfl⟩, hit', hs'.extBut _ _ hne e, tup⟩ fun b o hb e => hs'.extBut b o (fun q => hb (q ▸ .head _)) e
  go := fun _ _ _ _ _ s Q _ hm hQ => wpAny_letOwnedTupleGo_listiter hm.2.1 (hQ s.heap hm.2 fun _ _ _ e => e)
  apart := fun j T _ hm hmem => by
    rw [List.mem_singleton] at hmem
    exact hTI j hm.1.1 (hm.1.2 ▸ hmem)
  done := fun s Q E ⟨st, e, _⟩ hQ => stop_seq hh st e hda (by simp) fun h' he' => hQ h' s.toks fun b o hb e => he' b o (fun q => hb (q ▸ .head _)) e
  self := fun _ _ _ _ st hQ => wpAny_pyIter_listiter st.1 hQ
end Mine
end
section
open PySem PySem.W PyProof.Rows PySem.Calls
namespace Mine
section
variable {C : Cx} {W W' : Wd} {σ σ' : PS} {X X' : Led} {s : Shared}
theorem Rel.grownP (R : Rel C W σ X s) {lt : Nat} {P : Addr} (ht : σ.mem[lt]? = some (.tab P)) {s' : Shared} (hk : ∀ b o, b ≠ P → s.heap.get? b = some o → s'.heap.get? b = some o) (hP : ∃ vs, TriplesOk vs ∧ s'.heap.get? P = some (tabO vs))
    (hg : AllBare s'.gens) (ho : s'.os = s.os) (hT : 0 < s'.toks) : Rel C W σ X s' := by
  refine Rel.exE R fun m cs ms F N nd sr mr mu => ?_
  obtain ⟨l₁, a', o, l₂, rfl, hl, ro, k⟩ := mr.split ht
  obtain ⟨vs, tr, hPs⟩ := hP
  cases ro with
  | tab _ vs₀ tr₀ =>
    have e : ∀ o, cs ++ (l₁ ++ (P, o) :: l₂ ++ (W.T ++ X)) = (cs ++ l₁) ++ (P, o) :: (l₂ ++ (W.T ++ X)) := fun o => by simp
    have hm := N (P, tabO vs₀) (by simp)
    rw [e] at N nd
    have nd' := nd
    rw [List.map_append, List.map_cons, List.perm_middle.nodup_iff, List.nodup_cons, List.mem_append] at nd'
    have hset : σ.mem.set lt (.tab P) = σ.mem := by
      apply List.ext_getElem?
      intro i
      rw [List.getElem?_set]
      split
      · rename_i q; subst q
        rw [if_pos (List.getElem?_eq_some_iff.mp ht).1, ht]
      · rfl
    have mr' := k (.tab P) (tabO vs) (.tab P vs tr)
    rw [hset] at mr'
    refine ⟨⟨m, cs, l₁ ++ (P, tabO vs) :: l₂, ⟨F.ns.at' fun o e => hk _ o (Ne.symm hm.2.1) e, fun b x q => hk b x (fun z => ?_) (F.keep b x q), F.above⟩, ?_, ?_, sr, mr', by rw [← mu]; simp⟩, hg, ho.trans R.os, hT⟩
    · have := hm.2.2; rw [z, show C.h₀.get? P = none from this] at q; exact noneE q
    · rw [e]
      intro p hp
      rcases List.mem_append.mp hp with q | q
      · exact ⟨hk _ _ (fun z => nd'.1 (.inl (List.mem_map.mpr ⟨p, q, z⟩))) (N p (List.mem_append_left _ q)).1, (N p (List.mem_append_left _ q)).2⟩
      · rcases List.mem_cons.mp q with rfl | q
        · exact ⟨hPs, hm.2⟩
        · exact ⟨hk _ _ (fun z => nd'.1 (.inr (List.mem_map.mpr ⟨p, q, z⟩))) (N p (List.mem_append_right _ (.tail _ q))).1, (N p (List.mem_append_right _ (.tail _ q))).2⟩
    · rw [e]; exact nd_upd nd
theorem Rel.tabAt (R : Rel C W σ X s) {lt : Nat} {P : Addr} (ht : σ.mem[lt]? = some (.tab P)) : ∃ vs, TriplesOk vs ∧ s.heap.get? P = some (tabO vs) ∧ C.h₀.get? P = none := by
  refine Rel.exE R fun m cs ms F N nd sr mr mu => ?_
  obtain ⟨l₁, a', o, l₂, rfl, hl, ro, k⟩ := mr.split ht
  cases ro with
  | tab _ vs₀ tr₀ =>
    have hm := N (P, tabO vs₀) (by simp)
    exact ⟨vs₀, tr₀, hm.1, hm.2.2⟩
end
noncomputable def tupPV (p : List Nat × List Nat) : PV := .tup [.str p.1, .str p.2]
theorem tups_rel {W : Wd} : ∀ {ps : List (List Nat × List Nat)} {vs : List Value}, VRels W (ps.map tupPV) vs → ∃ ts : List (Addr × Tok × Tok), ts.length = ps.length ∧ vs = ts.map (fun t => .ref t.1) ∧
    ∀ (j : Nat) (t : Addr × Tok × Tok) (p : List Nat × List Nat), ts[j]? = some t → ps[j]? = some p → (t.1, tupO [.str (mkS' p.1) t.2.1, .str (mkS' p.2) t.2.2]) ∈ W.T
  | [], _, .nil => ⟨[], rfl, rfl, fun _ _ _ e => by cases e⟩
  | p :: ps, _, .cons r rs => by
    obtain ⟨ts, h1, rfl, h2⟩ := tups_rel rs
    cases r with
    | tup _ xs a hm rxs =>
      induction rxs using VRels.consC with
      | cons ra rb => induction rb using VRels.consC with
        | cons rb rn => induction rn using VRels.nilC; induction ra using VRel.strC with
          | str t => induction rb using VRel.strC with
            | str u =>
              refine ⟨(a, t, u) :: ts, by simp [h1], rfl, fun j t' p' e1 e2 => ?_⟩
              induction j using natC with
              | zero => cases e1; cases e2; exact hm
              | succ j => exact h2 j t' p' e1 e2
structure CodeK (G : Gd) (c P : Addr) : Prop where
  obj : ∃ o vs file tf flags tg inF text tt, G.K.lookup c = some o ∧ o.data = .fields vs ∧ o.cls = .type "code" ∧ vs[11]? = some (.ref P) ∧ vs.getD 11 .none = .ref P ∧ vs.getD 18 .none = .str file tf ∧ vs.getD 7 .none = .int flags tg ∧ vs.getD 9 .none = .bool inF ∧ vs.getD 10 .none = .int text tt
  ne : c ≠ P
theorem CodeK.code {G : Gd} {c P : Addr} (k : CodeK G c P) {h : Heap} (X : G.K.In h) {ps : List Value} (hP : h.get? P = some (tabO ps)) (tr : TriplesOk ps) : h.IsCode c P ps.toArray ∧ h.TableAt c P ps.toArray := by
  obtain ⟨o, vs, file, tf, flags, tg, inF, text, tt, h0, h1, hc, h11', h11, h2, h7, h9, h10⟩ := k.obj
  exact ⟨⟨o, vs, file, tf, flags, tg, inF, text, tt, _, X _ _ h0, h1, h11, h2, h7, h9, h10, hP, rfl, by simpa using tr, k.ne⟩, ⟨o, vs, X _ _ h0, hc, h1, h11'⟩, hP⟩
theorem gencode {G : Gd} {c P : Addr} (k : CodeK G c P) {A : Around} {E : Value → Shared → Prop} {s : Shared} {env : Env} {pos : Pos} {qual : Str} {sc : Scope} {Q : Value → Shared → Prop} (hc : env.code = .ref c) (X : G.K.In s.heap) {ps : List Value} (hP : s.heap.get? P = some (tabO ps)) (tr : TriplesOk ps)
    (h : ∀ c' h' tk, (∀ b o, b ≠ P → s.heap.get? b = some o → h'.get? b = some o) → s.heap.objs.size ≤ h'.objs.size → (∃ vs, TriplesOk vs ∧ h'.get? P = some (tabO vs)) → Q c' { s with heap := h', toks := tk }) :
    wpAny (model G.p G.w) A (genexprCode env pos qual sc) Q E s := by
  obtain ⟨h1, h2⟩ := k.code X hP tr
  cases hf : codeAmong pos ps.toArray.toList with
  | some cv => exact wpAny_genexprCode_hit hc h1 hf (h cv s.heap s.toks (fun _ _ _ e => e) (Nat.le_refl _) ⟨ps, tr, hP⟩)
  | none =>
    refine wpAny_genexprCodeX hc h1 h2 hf fun c' h' tk hx hge hlt _ _ htab _ => h _ h' tk hx (Nat.le_trans hge (Nat.le_of_lt hlt)) ⟨ps ++ [rawInt pos.line, rawInt pos.col, .ref c'], TriplesOk_snoc pos.line pos.col (.ref c') ps tr, ?_⟩
    have := htab.2
    simpa [tabO] using this
theorem passing_all (n : Nat) : passing (fun _ => true) n 0 = List.range n := by unfold passing; simp
structure BmK (G : Gd) : Prop where
  name : ∃ bm o, nsIn G.K mainGlobals "__builtins__" = some (some (.ref bm)) ∧ bm ≠ builtinsNs ∧ G.K.lookup bm = some o ∧ o.cls = .type "module" ∧ o.dict = some builtinsNs ∧ o.data = .plain
structure AccK3 (G : Gd) : Prop extends AccK2 G where
  iter : findIn G.K (.ref G.acc) "__iter__" = some (some (.builtin "list.__iter__"))
  bm : BmK G
section
variable {G : Gd} {C : Cx}
theorem gen_acc (K : COk1 G C) (AK : AccK3 G) {c P : Addr} (CK : CodeK G c P) (hcode : C.fenv.code = .ref c) {elt iter : Expr} {xa xb : Str} {pa pb pt : Pos} {kt : Nat} {sc : Scope} {pos : Pos} {fi : PS → Option (PV × PS)}
    (hco : sc.isCoroutine = false) (hclos : closureFor sc C.fenv = pure []) (hcell : ∀ y ∈ sc.names, y.2 ≠ .cell) (h0 : sc.names.lookup (".0" : Str) = some NameKind.local)
    (hxa : sc.names.lookup xa = some .local) (hxb : sc.names.lookup xb = some .local) (hab : xa ≠ xb) (hkind : sc.kind = .function) (hfold : ∀ x, genFold iter C.fenv x = pure x)
    {W : Wd} {σ : PS} {X : Led} {s : Shared} {l lt : Nat} {n : Int} {ps : List (List Nat × List Nat)} {Q : Value → Shared → Prop} {E : Value → Shared → Prop} (F : Nat → Value → Prop) (hi : Ev G C (fv C) iter fi) (e : fi σ = some (.ref l, σ)) (R : Rel C W σ X s) (hx : σ.mem[l]? = some (.acc n (ps.map tupPV))) (ht : σ.mem[lt]? = some (.tab P))
    (helt : ∀ (A' : Around) E' (i : Nat) (p : List Nat × List Nat) ta tb (u : Shared) m₂ (env' : Env), A'.handled = none → GdOk G u.heap → env'.scope = sc → env'.globals = mainGlobals → env'.builtins = builtinsNs → ps[i]? = some p → u.heap.Ns env'.locals m₂ → m₂ xa = some (.str (mkS' p.1) ta) → m₂ xb = some (.str (mkS' p.2) tb) →
      wpAny (model G.p G.w) A' (eval elt env') (fun y s₃ => F i y ∧ Keeps u s₃) E' u)
    (hQ : ∀ W' s₁ a s' fp wr g St, W.le W' → Rel C W' σ X s₁ → WalksS G.p G.w C.A.in4 a fp wr (GenOnlyQ g) ps.length (fun j y => ∃ i, (List.range ps.length)[j]? = some i ∧ F i y) St → St 0 s' → (∀ i s', St i s' → s'.TypeIs (.ref a) "generator") → a ∈ fp → (∀ b ∈ fp, b < s'.heap.objs.size) →
      (∀ b o, b ≠ P → s₁.heap.get? b = some o → s'.heap.get? b = some o) → (∃ vs, TriplesOk vs ∧ s'.heap.get? P = some (tabO vs)) → AllBare s'.gens → s'.os = s₁.os → (∀ b ∈ wr, s₁.heap.objs.size ≤ b) → Q (.ref a) s') :
    wpAny (model G.p G.w) C.A (eval (.GeneratorExp elt [⟨.Tuple [.Name xa pa, .Name xb pb] kt pt, iter, [], 0⟩] sc pos) C.fenv) Q E s := by
  refine wpAny_GeneratorExp_walksQT K.handled hco hclos hcell h0 hxa hxb hab hkind (by have := K.room; omega) (hi W σ X s _ σ _ E e R trivial fun W₁ xv s₁ l₁ R₁ rv => ?_) hfold
  induction rv using VRel.refC with
  | ref ad had =>
    refine accE K R₁ hx had fun vs ee dx t u ho rvs hm I => ?_
    have X₁ : G.K.In s₁.heap := K.gd.frag.keeps fun _ _ => R₁.keep
    refine iter_sub X₁ I AK.iter AK.list ?_
    have k₂ : ∀ (o : Obj) b x, s₁.heap.get? b = some x → (s₁.heap.push o).get? b = some x := fun o b x e => Heap.get?_push_of_some o e
    have g₁ : GdOk G s₁.heap := K.gd.keeps fun _ _ => R₁.keep
    refine match R₁.tabAt ht with | ⟨pvs, tr, hP, hP0⟩ => ?_
    refine ⟨(g₁.keeps (k₂ _)).nolimit, gencode CK hcode (X₁.keeps (k₂ _)) (k₂ _ _ _ hP) tr fun c' h₃ tk hk₃ hsz₃ hP₃ => ?_⟩
    refine match AK.bm.name with | ⟨bm, ob, hb1, hb2, hb3, hb4, hb5, hb6⟩ => ?_
    have kOld : ∀ b o, C.h₀.get? b = some o → h₃.get? b = some o := fun b o e => hk₃ b o (fun q => by rw [q, hP0] at e; exact noneE e) (k₂ _ _ _ (R₁.keep e))
    have g₃ : GdOk G h₃ := K.gd.keeps kOld
    refine wpAny_builtinsFor (m := G.mg) (bm := bm) (o := ob) (by rw [K.globals]; exact g₃.g) (mg_of K.gd.frag K.gd.g hb1) hb2 (g₃.frag _ _ hb3) hb4 hb5 hb6 ?_
    obtain ⟨ts, htl, rfl, hts⟩ := tups_rel rvs
    have hlt : ad < s₁.heap.objs.size := Heap.lt_size ho
    have hPlt : P < s₁.heap.objs.size := Heap.lt_size hP
    have hadP : ad ≠ P := fun q => by
      rw [q, hP] at ho
      have := congrArg Obj.cls (Option.some.inj ho)
      cases this
    let Ts : Nat → Addr := fun j => (ts[j]?.map fun t => t.1).getD 0
    let vals : Nat → Array Value := fun j => match ts[j]?, ps[j]? with
      | some t, some p => #[.str (mkS' p.1) t.2.1, .str (mkS' p.2) t.2.2]
      | _, _ => #[]
    have hsz : ((ts.map fun t => Value.ref t.1).toArray).size = ps.length := by simp [htl]
    have at' : ∀ j, j < ps.length → ∃ t p, ts[j]? = some t ∧ ps[j]? = some p := fun j hj => ⟨_, _, List.getElem?_eq_getElem (htl ▸ hj), List.getElem?_eq_getElem hj⟩
    have hTs : ∀ j, j < ps.length → s₁.heap.get? (Ts j) = some (tupO (vals j).toList) := fun j hj => by
      obtain ⟨t, p, e1, e2⟩ := at' j hj
      simp only [Ts, vals, e1, e2, Option.map_some, Option.getD_some]
      exact R₁.getT (hts j t p e1 e2)
    have hTlt : ∀ j, j < ps.length → Ts j < s₁.heap.objs.size := fun j hj => Heap.lt_size (hTs j hj)
    have hTP : ∀ j, j < ps.length → Ts j ≠ P := fun j hj q => by
      have := hTs j hj
      rw [q, hP] at this
      have := congrArg Obj.cls (Option.some.inj this)
      cases this
    have Wk := fun (A' : Around) (hA : A'.handled = none) => walk_seq (prog := G.p) (w := G.w) hA s₁.heap.objs.size ad (Nat.ne_of_lt hlt) (accO G.acc dx (ts.map fun t => Value.ref t.1) ee) (ts.map fun t => Value.ref t.1).toArray ee rfl Ts vals
      (fun j hj => by
        obtain ⟨t, p, e1, e2⟩ := at' j (hsz ▸ hj)
        simp [Ts, e1]) (fun j hj => Nat.ne_of_lt (hTlt j (hsz ▸ hj)))
    rw [hsz] at Wk
    have tup : ∀ (h : Heap), (∀ b o, b ≠ P → s₁.heap.get? b = some o → h.get? b = some o) → ∀ k, k < ps.length → h.IsTuple (Ts k) (vals k) := fun h hk k hk' => ⟨_, hk _ _ (hTP k hk') (hTs k hk'), rfl, 0, by simp [tupO]⟩
    have k₃ : ∀ b o, b ≠ P → s₁.heap.get? b = some o → h₃.get? b = some o := fun b o hb e => hk₃ b o hb (k₂ _ _ _ e)
    have hs4 : s₁.heap.objs.size + 1 ≤ h₃.objs.size := by
      have := hsz₃
      rw [Heap.size_push] at this
      exact this
    refine ⟨s₁.heap.objs.size, _, _, _, _, _, _, (fun _ => true), F, rfl, Wk, fun i v hv => ?_, ⟨⟨_, hk₃ _ _ (Nat.ne_of_gt hPlt) (Heap.get?_push_size _ rfl), rfl, rfl⟩, k₃ _ _ hadP ho, tup h₃ k₃⟩, ?_, g₃.nolimit, ?_, fun href hhref => ?_, fun a h₅ tk' gs hgb hag hsz₅ hk₅ WS hat => ?_⟩
    · obtain ⟨hi, rfl⟩ := hv
      obtain ⟨t, p, e1, e2⟩ := at' i hi
      have hv : vals i = #[.str (mkS' p.1) t.2.1, .str (mkS' p.2) t.2.2] := by simp only [vals, e1, e2]
      exact ⟨_, _, hv⟩
    · intro b hb
      show b < h₃.objs.size
      refine Nat.lt_of_lt_of_le ?_ hs4
      rcases List.mem_cons.mp hb with rfl | hb
      · exact Nat.lt_succ_self _
      · rcases List.mem_cons.mp hb with rfl | hb
        · exact Nat.lt_succ_of_lt hlt
        · obtain ⟨k, hk, rfl⟩ := List.mem_map.mp hb
          exact Nat.lt_succ_of_lt (hTlt k (List.mem_range.mp hk))
    · intro hm
      rw [List.mem_singleton] at hm
      have hc : cStatics < s₁.heap.objs.size := let ⟨_, hn, _⟩ := g₁.nolimit; hn.lt
      rw [hm] at hc
      exact Nat.lt_irrefl _ hc
    · refine ⟨fun A' E' i va vb s₂ m₂ _ _ _ _ _ _ => wpAny_tests_nil ⟨rfl, s₂.heap, s₂.toks, rfl, fun _ _ e => e⟩, fun A' E' i va vb s₂ m₂ hA hPt _ hn hma hmb hkp => ?_⟩
      obtain ⟨hi, hv⟩ := hPt
      obtain ⟨t, p, e1, e2⟩ := at' i hi
      simp only [vals, e1, e2] at hv
      obtain ⟨rfl, rfl⟩ : va = .str (mkS' p.1) t.2.1 ∧ vb = .str (mkS' p.2) t.2.2 := by
        have := congrArg Array.toList hv
        simpa using this
      refine helt A' E' i p _ _ s₂ m₂ _ hA (K.gd.keeps fun b o e => ?_) rfl K.globals rfl e2 hn hma hmb
      have e3 := kOld b o e
      refine hkp b (List.mem_range.mpr (Heap.lt_size e3)) ?_ o (hhref b o e3)
      intro hm
      rw [List.mem_singleton] at hm
      have := Heap.lt_size (R₁.keep e)
      rw [hm] at this
      exact Nat.lt_irrefl _ this
    · rw [passing_all] at WS
      rw [List.length_range] at WS
      obtain ⟨pv₃, tr₃, hp₃⟩ := hP₃
      refine hQ W₁ s₁ a _ _ _ _ _ l₁ R₁ WS hat (fun i s' st => st.1.typeIs) (.head _) ?_ (fun b o hb e => hk₅ b o (k₃ b o hb e)) ⟨pv₃, tr₃, hk₅ _ _ hp₃⟩ (R₁.bare.push hgb) rfl ?_
      · intro b hb
        show b < h₅.objs.size
        rw [hsz₅]
        rcases List.mem_cons.mp hb with rfl | hb
        · exact Nat.lt_succ_self _
        · rcases List.mem_cons.mp hb with rfl | hb
          · exact Nat.lt_succ_of_lt hag
          · exact Nat.lt_succ_of_lt (Nat.lt_trans (List.mem_range.mp hb) hag)
      · intro b hb
        rcases List.mem_cons.mp hb with rfl | hb
        · show s₁.heap.objs.size ≤ h₃.objs.size
          omega
        · rw [List.mem_singleton] at hb
          exact hb ▸ Nat.le_refl _
end
end Mine
end
section
open PySem PySem.W PyProof.Rows PySem.Calls Builtin Builtin.ObjectAttr
namespace Mine
section
variable {prog : Program} {w : World} {A : Around} {E : Value → Shared → Prop} {s : Shared} {KK : Frag} {x c : Addr} {ox : Obj} {od : Option Obj}
theorem args_lga (a b : Value) : argsOk "list.__getattribute__" ⟨[a, b], []⟩ := by unfold argsOk; kernel_rfl
theorem bind_lga (a : Value) : bindSpecial (.builtin "list.__getattribute__") a = pure (.builtin "list.__getattribute__", [a]) := by
  unfold bindSpecial
  rw [show typeOf (.builtin "list.__getattribute__") = pure (.type "wrapper_descriptor") by kernel_rfl]
  rfl
theorem get_sub {name : Str} {v : Value} {expr : Bool} {Q : Value → Shared → Prop} (X : KK.In s.heap) (I : InstAt s.heap x ox c od) (hga : findIn KK (.ref c) "__getattribute__" = some (some (.builtin "list.__getattribute__"))) (hk : findIn KK (.ref c) "__getattr__" = some none)
    (hm : mroIn KK c (.type "list") = some true) (hf : findObj KK c od name = some (.value v)) (hh : handedIn v = true) (h : Q v { s with toks := s.toks + 1 }) : wpAny (model prog w) A (getAttr (.ref x) name expr) Q E s := by
  obtain ⟨hp, g, d, t, os⟩ := s
  have L0 := I.type (M := model prog w)
  have L1 := looks_findIn (M := model prog w) X hga
  unfold getAttr getAttrBy
  refine wpAny_bind (wpAny_mkText (wpAny_holding (wpAny_bind (L0.at (wpAny_bind (L1.at ?_))))))
  dsimp only
  rw [show (onTheHeap (.ref c) && (Value.builtin "list.__getattribute__" == Value.builtin "object.__getattribute__")) = false from by rw [show (Value.builtin "list.__getattribute__" == Value.builtin "object.__getattribute__") = false from by decide +kernel, Bool.and_false], if_neg (by decide)]
  unfold getAttrByItsOwn hookBefore
  rw [show onTheHeap (.ref c) = true from rfl, if_pos rfl]
  refine wpAny_bind ((looks_findIn (M := model prog w) X hk).at (wpAny_bind (wpAny_attempt (wpAny_holding ?_))))
  unfold callGetattribute
  rw [show (expr && onTheHeap (Value.builtin "list.__getattribute__")) = false from Bool.and_false _, if_neg (by decide)]
  unfold boundAndCalled
  rw [bind_lga]
  refine wpAny_bind (wpAny_pure ?_)
  refine call_sub (s := ⟨hp, g, d, t + 1, os⟩) (owner := "list") (n := "__getattribute__") (by decide +kernel) (.inl (by decide +kernel)) (by decide +kernel) X I hm am_entry_list_getattribute (args_lga _ _) ?_
  have L2 := looks_find (M := model prog w) X I hf
  refine wpAny_bind (wpAny_pure (wpAny_bind (wpAny_pure (wpAny_bind (L0.at (wpAny_bind (L2.at ?_)))))))
  refine wpAny_pure ⟨v, rfl, ?_⟩
  show wpAny _ _ (handedOut v) _ _ _
  rw [handedOut_of hh]; exact wpAny_pure h
noncomputable def startVal (c : Int) (val : Nat → Int) : Nat → Int
  | 0 => c
  | j + 1 => val j
theorem preSum_start (c : Int) (val : Nat → Int) : ∀ j, preSum (startVal c val) (j + 1) = c + preSum val j
  | 0 => by simp [preSum, startVal]
  | j + 1 => by
    show preSum (startVal c val) (j + 1) + startVal c val (j + 1) = _
    rw [preSum_start c val j]
    show _ + val j = c + (preSum val j + val j)
    omega
theorem walk_start {I : Addr} {fp wr : List Addr} {G : Array GenState → Array GenState → Prop} {n : Nat} {P : Nat → Value → Prop} {St : Nat → Shared → Prop} (Wk : WalksS prog w A I fp wr G n P St) :
    WalksS prog w A I fp wr G (n + 1) (fun j v => ∃ i, j = i + 1 ∧ P i v) (fun j s => ∃ i, j = i + 1 ∧ St i s) where
  sub := Wk.sub
  grefl := Wk.grefl
  gtrans := Wk.gtrans
  frame := fun i s h' tk ⟨j, e, st⟩ ht hk => ⟨j, e, Wk.frame j s h' tk st ht hk⟩
  item := fun i s Q E hi ⟨j, e, st⟩ hQ => by
    subst e
    exact Wk.item j s Q E (by omega) st fun v s' hP st' hm => hQ v s' ⟨j, rfl, hP⟩ ⟨j + 1, rfl, st'⟩ hm
  done := fun s Q E ⟨j, e, st⟩ hQ => by
    obtain rfl : n = j := by omega
    exact Wk.done s Q E st hQ
  self := fun i s Q E ⟨j, e, st⟩ hQ => Wk.self j s Q E st hQ
theorem args_sum2 (a b : Value) : argsOk "sum" ⟨[a, b], []⟩ := by unfold argsOk; kernel_rfl
theorem call_sum_start {x : Value} {c : Int} {t : Tok} {Q : Value → Shared → Prop} (hc : InLong c)
    (h : wpAny (model prog w) A.in1 (pyIter x) (fun it s₂ => ∃ I fp wr G n P St val, it = .ref I ∧ WalksS prog w A.in1 I fp wr G n P St ∧ St 0 s₂ ∧ (∀ b ∈ fp, b < s₂.heap.objs.size) ∧
      (∀ i v, P i v → ∃ t, v = .int (val i) t) ∧ (∀ j, j < n → InLong (val j) ∧ InLong (c + preSum val (j + 1))) ∧
      ∀ s' t', Moved wr G s₂ s' → Q (.int (c + preSum val n) t') s') E s) :
    wpAny (model prog w) A (call (.builtin "sum") [x, .int c t]) Q E s := by
  refine call_function_tree F.kind_sum F.plain_sum F.entry_sum (args_sum2 _ _) ?_
  unfold Builtin.«sum»
  simp only [List.length_cons, List.length_nil]
  rw [if_neg (by decide)]
  refine wpAny_bind (wpAny_of_eq (show Builtin.Builtins.bindParams "sum" ["start"] 0 ⟨[.int c t], []⟩ = pure [some (.int c t)] from rfl) ?_)
  refine wpAny_bind (wpAny_mono h (fun it s₂ h₂ => ?_) fun _ _ e => e)
  obtain ⟨I, fp, wr, G, n, P, St, val, rfl, W, hst, hfp, hval, hfit, hQ⟩ := h₂
  have hcc : (decide (-(2 ^ 63) ≤ c) && decide (c < 2 ^ 63)) = true := by
    simp only [Bool.and_eq_true, decide_eq_true_eq]
    exact hc
  dsimp only
  split
  · refine wpAny_bind (wpAny_rule (wpAny_bind (wpAny_mkInt ?_)))
    refine wpAny_bind (wpAny_pure ?_)
    simp only [List.forIn_cons, List.forIn_nil]
    refine wpAny_bind (wpAny_bind (wpAny_bind (wpAny_isInstance (T := "int") (b := false) (typeIs_int _ _ _) PySem.sub_int_str ?_)))
    simp only [Bool.false_eq_true, if_false]
    refine wpAny_pure (wpAny_bind (wpAny_bind (wpAny_isInstance (T := "int") (b := false) (typeIs_int _ _ _) PySem.sub_int_bytes ?_)))
    simp only [Bool.false_eq_true, if_false]
    refine wpAny_pure (wpAny_bind (wpAny_bind (wpAny_isInstance (T := "int") (b := false) (typeIs_int _ _ _) PySem.sub_int_bytearray ?_)))
    simp only [Bool.false_eq_true, if_false]
    refine wpAny_pure (wpAny_pure ?_)
    refine wpAny_bind (wpAny_newObj_type ?_)
    have hSf : s₂.heap.objs.size ∉ fp := fun hm => Nat.lt_irrefl _ (hfp _ hm)
    have W' := walk_start W
    have e1 : preSum (startVal c val) 1 = c := by rw [preSum_start]; simp [preSum]
    refine wpAny_pure ⟨plainId_quiet F.plain_sum_loop _, codeAny_sum_loopS W' (startVal c val) (fun i v ⟨j, e, hP⟩ => by subst e; exact hval j v hP) (fun j hj => ?_) s₂.heap.objs.size hSf n 1 _ s₂.toks 0 (by omega) (by omega)
      ⟨0, rfl, W.frame 0 s₂ _ _ hst (Nat.le_succ _) fun b _ o e => Heap.get?_push_of_some _ e⟩ (by rw [e1]; exact Heap.get?_push_size _ rfl) fun s' t' hm => ?_⟩
    · induction j using natC with
      | zero =>
        refine ⟨hc, ?_⟩
        rw [e1]; exact hc
      | succ j =>
        obtain ⟨a, b⟩ := hfit j (by omega)
        refine ⟨a, ?_⟩
        rw [preSum_start]; exact b
    · rw [preSum_start]
      exact hQ s' t' (hm.drop_new (Nat.le_succ _))
  · rename_i hneg
    exact absurd hcc hneg
end
end Mine
end
section
open PySem PySem.W PyProof.Rows PySem.Calls Builtin Builtin.Str
namespace Mine
noncomputable def strOf : PV → Option (List Nat)
  | .str a => some a
  | _ => none
noncomputable def pairOf : PV → Option (List Nat × List Nat)
  | .tup [x, y] => match strOf x with
    | some a => match strOf y with
      | some b => some (a, b)
      | none => none
    | none => none
  | _ => none
noncomputable def tpairs : List PV → Option (List (List Nat × List Nat))
  | [] => some []
  | v :: r => match pairOf v with
    | some p => match tpairs r with
      | some ps => some (p :: ps)
      | none => none
    | none => none
theorem strOf_eq {v : PV} {a : List Nat} (h : strOf v = some a) : v = .str a := by
  cases v <;> first | exact noneE h | exact congrArg PV.str (Option.some.inj h)
theorem pairOf_eq {v : PV} {p : List Nat × List Nat} (h : pairOf v = some p) : v = tupPV p := by
  unfold pairOf at h
  split at h
  · split at h
    · rename_i a ha
      split at h
      · rename_i b hb
        induction h using some1C
        rw [strOf_eq ha, strOf_eq hb]; rfl
      · exact noneE h
    · exact noneE h
  · exact noneE h
theorem tpairs_eq : ∀ (xs : List PV) (ps : List (List Nat × List Nat)), tpairs xs = some ps → xs = ps.map tupPV := by
  intro xs
  induction xs with
  | nil => intro ps e; induction e using some1C; rfl
  | cons v r ih =>
    intro ps e
    rw [tpairs] at e
    split at e
    · rename_i p hp
      split at e
      · rename_i qs hq
        induction e using some1C
        rw [List.map_cons, ← ih _ hq, pairOf_eq hp]
      · exact noneE e
    · exact noneE e
noncomputable def isTab (P : Addr) : PO → Bool
  | .tab Q => Q == P
  | _ => false
theorem tab_of {P : Addr} {ms : List PO} (h : ms.any (isTab P) = true) : ∃ lt : Nat, ms[lt]? = some (.tab P) := by
  obtain ⟨po, hm, hp⟩ := List.any_eq_true.mp h
  obtain ⟨i, hi⟩ := List.mem_iff_getElem?.mp hm
  unfold isTab at hp
  split at hp
  · rename_i q
    have : q = P := by simpa using hp
    exact ⟨i, this ▸ hi⟩
  · cases hp
noncomputable def totLen (ps : List (List Nat × List Nat)) : Nat := (ps.map fun p => p.1.length + p.2.length).sum
noncomputable def accParts (P : Addr) (v : PV) (σ : PS) : Option (Int × List (List Nat × List Nat)) := match v with
  | .ref l => match σ.mem[l]? with
    | some (.acc n xs) => match tpairs xs with
      | some ps => if (σ.mem.any (isTab P) && decide (0 ≤ n ∧ n ≤ 4096 ∧ ps.length ≤ 64 ∧ ∀ p ∈ ps, p.1.length ≤ 64 ∧ p.2.length ≤ 64)) = true then some (n, ps) else none
      | none => none
    | _ => none
  | _ => none
theorem accParts_some {P : Addr} {v : PV} {σ : PS} {n : Int} {ps : List (List Nat × List Nat)} (h : accParts P v σ = some (n, ps)) :
    ∃ l lt : Nat, v = .ref l ∧ σ.mem[l]? = some (.acc n (ps.map tupPV)) ∧ σ.mem[lt]? = some (.tab P) ∧ 0 ≤ n ∧ n ≤ 4096 ∧ ps.length ≤ 64 ∧ ∀ p ∈ ps, p.1.length ≤ 64 ∧ p.2.length ≤ 64 := by
  unfold accParts at h
  split at h
  · split at h
    · rename_i n' xs hx
      split at h
      · rename_i ps' hps
        split at h
        · rename_i hc
          induction h using someC
          rw [Bool.and_eq_true, decide_eq_true_eq] at hc
          obtain ⟨lt, hlt⟩ := tab_of hc.1
          rw [tpairs_eq _ _ hps] at hx
          exact ⟨_, lt, rfl, hx, hlt, hc.2⟩
        · exact noneE h
      · exact noneE h
    · exact noneE h
  · exact noneE h
section
variable {prog : Program} {w : World} {A : Around} {E : Value → Shared → Prop} {s : Shared}
theorem gn_loc {env : Env} {x : Str} {m : Str → Option Value} {v : Value} {p : Pos} {Q : Value → Shared → Prop} (hk : env.scope.kind = .function) (hx : env.scope.names.lookup x = some .local) (hn : s.heap.Ns env.locals m) (hm : m x = some v) (hd : (x == ("__debug__" : Str)) = false) (h : Q v s) :
    wpAny (model prog w) A (eval (.Name x p) env) Q E s := wpAny_Name (wpAny_loadName_local hk hx hn hm h) hd
end
section
variable {G : Gd} {A : Around} {E : Value → Shared → Prop} {s : Shared}
theorem gn_blt {env : Env} {x : Str} {v : Value} {p : Pos} {Q : Value → Shared → Prop} (g : GdOk G s.heap) (hk : env.scope.kind = .function) (hg : env.globals = mainGlobals) (hb : env.builtins = builtinsNs) (hx : env.kindOf x = some .globalImplicit)
    (e : nsIn G.K mainGlobals x = some none) (hv : bootBuiltins x = some v) (hn : x ≠ "__name__") (hd : (x == ("__debug__" : Str)) = false) (h : Q v s) : wpAny (model G.p G.w) A (eval (.Name x p) env) Q E s :=
  Name_function_global hk hx (loadGlobal_builtin (hg.symm ▸ g.g) (mg_none_of g.frag g.g e) (hb.symm ▸ g.b) ((g.bi x hn).trans hv) h) hd
theorem gn_len {env : Env} {x : Str} {m : Str → Option Value} {a : List Nat} {t : Tok} {p1 p2 p3 : Pos} {Q : Value → Shared → Prop} (g : GdOk G s.heap) (hk : env.scope.kind = .function) (hg : env.globals = mainGlobals) (hb : env.builtins = builtinsNs)
    (hl : env.kindOf "len" = some .globalImplicit) (e : nsIn G.K mainGlobals "len" = some none) (hx : env.scope.names.lookup x = some .local) (hd : (x == ("__debug__" : Str)) = false) (hn : s.heap.Ns env.locals m) (hm : m x = some (.str (mkS' a) t)) (hs : a.length ≤ 64)
    (h : ∀ u k, Q (.int a.length u) { s with toks := k }) : wpAny (model G.p G.w) A (eval (.Call (.Name "len" p1) [.Name x p2] [] p3) env) Q E s := by
  refine Call_Name rfl (gn_blt g hk hg hb hl e (v := .builtin "len") (by kernel_rfl) (by decide) (by decide) ?_)
  refine Calls.callWith_builtin rfl (evalArgs_plain (wpAny_items_cons (gn_loc hk hx hn hm hd (wpAny_items_nil ?_)) rfl))
  refine P.len_str (by rw [mkS'_len]; omega) ?_
  rw [mkS'_len]
  exact h _ _
end
end Mine
end
section
open PySem PySem.W PyProof.Rows PySem.Calls Builtin Builtin.Str
namespace Mine
section
variable {prog : Program} {w : World} {A : Around} {E : Value → Shared → Prop} {s : Shared}
theorem args2 {c : Value} {e1 e2 : Expr} {env : Env} {pos : Pos} {Q : Args → Shared → Prop} (h1 : starEach [e1, e2] env = (false, eval e1 env) :: starEach [e2] env) (h2 : starEach [e2] env = [(false, eval e2 env)])
    (h : wpAny (model prog w) A (eval e1 env) (fun x s₁ => wpAny (model prog w) A (eval e2 env) (fun y s₂ => Q ⟨[x, y], []⟩ s₂) E s₁) E s) : wpAny (model prog w) A (evalArgs c true (backTo pos (starEach [e1, e2] env)) []) Q E s := by
  have key : wpAny (model prog w) A (spliced (backTo pos (starEach [e1, e2] env))) (fun vs s' => Q ⟨vs, []⟩ s') E s :=
    wpAny_items_cons (wpAny_mono h (fun x s₁ h' => wpAny_items_cons (wpAny_mono h' (fun y s₂ h'' => wpAny_items_nil h'') fun _ _ e => e) (by rw [h2]; rfl)) fun _ _ e => e) (h1)
  rw [h1] at key ⊢
  exact evalArgs_plain key
end
structure AccK4 (G : Gd) : Prop extends AccK3 G where
  own : ∀ P n t u, findObj G.K G.acc (some (accD P n t u)) "_initial_size" = some (.value (.int n u))
section
variable {G : Gd} {A : Around} {E : Value → Shared → Prop} {s : Shared}
theorem elt_len {env : Env} {xa xb : Str} {m : Str → Option Value} {a b : List Nat} {ta tb : Tok} {p1 p2 p3 p4 p5 p6 p7 : Pos} (g : GdOk G s.heap) (hk : env.scope.kind = .function) (hg : env.globals = mainGlobals) (hb : env.builtins = builtinsNs)
    (hl : env.kindOf "len" = some .globalImplicit) (e : nsIn G.K mainGlobals "len" = some none) (hxa : env.scope.names.lookup xa = some .local) (hxb : env.scope.names.lookup xb = some .local) (hda : (xa == ("__debug__" : Str)) = false) (hdb : (xb == ("__debug__" : Str)) = false)
    (hn : s.heap.Ns env.locals m) (hma : m xa = some (.str (mkS' a) ta)) (hmb : m xb = some (.str (mkS' b) tb)) (ha : a.length ≤ 64) (hb' : b.length ≤ 64) :
    wpAny (model G.p G.w) A (eval (.BinOp (.Call (.Name "len" p1) [.Name xa p2] [] p3) .Add (.Call (.Name "len" p4) [.Name xb p5] [] p6) p7) env) (fun y s₃ => (∃ t, y = .int ((a.length + b.length : Nat) : Int) t) ∧ Keeps s s₃) E s := by
  refine wpAny_BinOp (gn_len g hk hg hb hl e hxa hda hn hma ha fun u k => gn_len (s := { s with toks := k }) g hk hg hb hl e hxb hdb hn hmb hb' fun u' k' => ?_)
  exact add_int ⟨⟨_, by rw [Int.natCast_add]⟩, s.heap, _, rfl, fun _ _ e => e⟩
end
noncomputable def lenAt (ps : List (List Nat × List Nat)) (j : Nat) : Int := match ps[j]? with
  | some p => ((p.1.length + p.2.length : Nat) : Int)
  | none => 0
theorem pre_len (ps : List (List Nat × List Nat)) : ∀ j, preSum (lenAt ps) j = (totLen (ps.take j) : Int)
  | 0 => by simp [preSum, totLen]
  | j + 1 => by
    show preSum (lenAt ps) j + lenAt ps j = _
    rw [pre_len ps j, List.take_add_one]
    unfold lenAt totLen
    cases h : ps[j]? with
    | none => simp
    | some p => simp
theorem totLen_le : ∀ {ps : List (List Nat × List Nat)}, (∀ p ∈ ps, p.1.length ≤ 64 ∧ p.2.length ≤ 64) → totLen ps ≤ 128 * ps.length
  | [], _ => by simp [totLen]
  | p :: ps, h => by
    have h1 := h p (.head _)
    have h2 := totLen_le fun q hq => h q (.tail _ hq)
    unfold totLen at h2 ⊢
    simp only [List.map_cons, List.sum_cons, List.length_cons]
    omega
section
variable {G : Gd} {C : Cx}
theorem moved_back {W : Wd} {σ : PS} {X : Led} {s₁ s' s'' : Shared} {wr : List Addr} {g lt : Nat} {P : Addr} (R : Rel C W σ X s₁) (ht : σ.mem[lt]? = some (.tab P)) (hk : ∀ b o, b ≠ P → s₁.heap.get? b = some o → s'.heap.get? b = some o)
    (hP : ∃ vs, TriplesOk vs ∧ s'.heap.get? P = some (tabO vs)) (hg : AllBare s'.gens) (ho : s'.os = s₁.os) (hwr : ∀ b ∈ wr, s₁.heap.objs.size ≤ b) (hm : Moved wr (GenOnlyQ g) s' s'') (htk : 0 < s''.toks) : Rel C W σ X s'' := by
  obtain ⟨vs₁, _, hP₁, _⟩ := R.tabAt ht
  obtain ⟨vs, tr, hPs⟩ := hP
  have notin : ∀ b o, s₁.heap.get? b = some o → b ∉ wr := fun b o e hb => Nat.lt_irrefl _ (Nat.lt_of_lt_of_le (Heap.lt_size e) (hwr b hb))
  exact R.grownP ht (fun b o hb e => hm.heap b o (notin b o e) (hk b o hb e)) ⟨vs, tr, hm.heap P _ (notin P _ hP₁) hPs⟩ (hg.movedS hm) (hm.os.trans ho) htk
theorem Ev.sumAcc (K : COk1 G C) (AK : AccK4 G) {c P : Addr} (CK : CodeK G c P) (hcode : C.fenv.code = .ref c) {sf xa xb : Str} {sc : Scope} {kt : Nat} {p0 p1 p2 p3 p4 p5 p6 p7 pa pb pt pi ps1 ps2 ap pos : Pos}
    (hnm : C.nm[0]? = some (sf, false)) (hsd : (sf == ("__debug__" : Str)) = false) (hsum : Ev G C (fv C) (.Name "sum" p0) (fun σ => some (.raw (.builtin "sum"), σ)))
    (hco : sc.isCoroutine = false) (hclos : closureFor sc C.fenv = pure []) (hcell : ∀ y ∈ sc.names, y.2 ≠ .cell) (h0 : sc.names.lookup (".0" : Str) = some NameKind.local)
    (hxa : sc.names.lookup xa = some .local) (hxb : sc.names.lookup xb = some .local) (hab : xa ≠ xb) (hkind : sc.kind = .function) (hl : sc.names.lookup ("len" : Str) = some NameKind.globalImplicit) (el : nsIn G.K mainGlobals "len" = some none) (hda : (xa == ("__debug__" : Str)) = false) (hdb : (xb == ("__debug__" : Str)) = false) :
    Ev G C (fv C) (.Call (.Name "sum" p0) [.GeneratorExp (.BinOp (.Call (.Name "len" p1) [.Name xa p2] [] p3) .Add (.Call (.Name "len" p4) [.Name xb p5] [] p6) p7) [⟨.Tuple [.Name xa pa, .Name xb pb] kt pt, .Name sf pi, [], 0⟩] sc ps1, .Attribute (.Name sf ps2) "_initial_size" ap] [] pos)
      (fun σ => fb (fvar 0 σ) fun v σ => match accParts P v σ with | some (n, ps) => some (.int (n + (totLen ps : Nat)), σ) | none => none) := by
  intro W σ X s r σ' Q E e R ok h
  refine fbE e fun v σ₁ e₁ e₂ => ?_
  unfold fvar at e₁
  split at e₁
  · rename_i v' hv
    induction e₁ using someC
    split at e₂
    · rename_i n ps hps
      induction e₂ using someC
      obtain ⟨l, lt, rfl, hx, ht, hn0, hn1, hpl, hpb⟩ := accParts_some hps
      refine Call_Name rfl (hsum W σ X s _ _ _ E rfl R trivial fun W₀ y s₀ l₀ R₀ ry => ?_)
      induction ry using VRel.rawC
      refine Calls.callWith_builtin rfl (args2 rfl rfl (wpAny_with_toks R₀.tk ?_))
      refine gen_acc K AK.toAccK3 CK hcode hco hclos hcell h0 hxa hxb hab hkind (fun _ => rfl) (fun i y => ∃ p, ps[i]? = some p ∧ ∃ t, y = .int ((p.1.length + p.2.length : Nat) : Int) t) (Ev.var K hnm hsd) (by unfold fvar; rw [hv]) R₀ hx ht
        (fun A' E' i p ta tb u m₂ env' hA g hsc hgl hbi hp hns hma hmb => ?_) fun W₁ s₁ a s' fp wr g St l₁ R₁ WS hst hT ha hfp hk hP hg hos hwr htk => ?_
      · subst hsc
        have hb := hpb p (List.mem_of_getElem? hp)
        exact wpAny_mono (elt_len g hkind hgl hbi hl el hxa hxb hda hdb hns hma hmb hb.1 hb.2) (fun y s₃ ⟨⟨t, q⟩, k⟩ => ⟨⟨p, hp, t, q⟩, k⟩) fun _ _ e => e
      · have R₂ := R₁.grownP ht hk hP hg hos htk
        rw [arm_eval_Attribute]
        refine wpAny_bind (m := eval (.Name sf ps2) C.fenv) (wpAny_Name (ld_var K.toCOk hnm R₂ hv fun y ry => ?_) hsd)
        induction ry using VRel.refC with
        | ref ad had =>
          refine accE K R₂ hx had fun vs ee dx t u ho rvs hm I => ?_
          refine wpAny_bind (wpAny_standAt (wpAny_bind (wpAny_holding (get_sub (K.gd.frag.keeps fun _ _ => R₂.keep) I AK.ga AK.gt AK.list (AK.own _ _ _ _) rfl ?_))))
          refine wpAny_bind (wpAny_letTemporaryGo (wpAny_pure ?_))
          have hst' : St 0 { s' with toks := s'.toks + 1 } := WS.frame 0 s' s'.heap _ hst (Nat.le_succ _) fun _ _ _ e => e
          have WS1 := WS.in4_1
          have inl : ∀ i : Int, 0 ≤ i → i ≤ 100000 → InLong i := fun i h1 h2 => ⟨by omega, by omega⟩
          have htot : ∀ j, totLen (ps.take j) ≤ 8192 := fun j => by
            have := totLen_le (ps := ps.take j) fun p hp => hpb p (List.mem_of_mem_take hp)
            have h2 : (ps.take j).length ≤ 64 := Nat.le_trans (List.length_take_le' ..) hpl
            omega
          refine wpAny_with_toks (n := 1) (Nat.succ_le_succ (Nat.zero_le _)) (call_sum_start (inl _ hn0 (by omega)) (WS1.self 0 _ _ _ hst' ⟨a, _, _, _, _, _, _, lenAt ps, rfl, WS1, hst', hfp, fun j v hv => ?_, fun j hj => ?_, fun s'' t' hm' htk' => ?_⟩))
          · obtain ⟨i, hi, p, hp, t, q⟩ := hv
            have : i = j := by
              obtain ⟨hlt, e⟩ := List.getElem?_eq_some_iff.mp hi
              simpa using e.symm
            subst this
            exact ⟨t, by rw [q]; unfold lenAt; rw [hp]⟩
          · constructor
            · unfold lenAt
              split
              · rename_i p hp
                have := hpb p (List.mem_of_getElem? hp)
                exact inl _ (by omega) (by omega)
              · exact inl _ (by omega) (by omega)
            · rw [pre_len]
              have := htot (j + 1)
              exact inl _ (by omega) (by omega)
          · rw [pre_len, List.take_length]
            have R₃ := moved_back R₁ ht hk hP hg hos hwr (⟨hm'.heap, hm'.gens, hm'.drawn, hm'.os, Nat.le_trans (Nat.le_succ _) hm'.toks⟩ : Moved wr (GenOnlyQ g) s' s'') htk'
            exact h W₁ _ _ (Wd.le_trans l₀ l₁) R₃ (.int _ t')
    · exact noneE e₂
  · exact noneE e₁
end
end Mine
end
section
open PySem PySem.W PyProof.Rows PySem.Calls Builtin Builtin.Str
namespace Mine
section
variable {G : Gd} {C : Cx}
end
end Mine
end
section
open PySem PySem.W PyProof.Rows PySem.Calls Builtin Builtin.Str
namespace Mine
section
variable {prog : Program} {w : World} {A : Around} {E : Value → Shared → Prop} {s : Shared} {KK : Frag} {x c f : Addr} {ox : Obj} {od : Option Obj}
theorem len_sub {Q : Value → Shared → Prop} (X : KK.In s.heap) (I : InstAt s.heap x ox c od) (hs : findIn KK (.ref c) "__len__" = some (some (.ref f))) (hf : typeIn KK (.ref f) = some (.type "function"))
    (h : wpAny (model prog w) A.in1 (call (.ref f) [.ref x]) (fun v s' => ∃ n t, v = .int n t ∧ 0 ≤ n ∧ n < 2 ^ 63 ∧ ∀ u k, s'.toks < k → Q (.int n u) { s' with toks := k }) E s) : wpAny (model prog w) A (call (.builtin "len") [.ref x]) Q E s := by
  refine call_function_entry kind_len plain_len entry_len (args_len1 _) ?_
  unfold Builtin.«len»
  refine wpAny_bind (m := oneArg "len" _) (wpAny_pure ?_)
  refine wpAny_bind (special_fn X I hs hf (wpAny_mono h (fun v s' h' => ?_) fun _ _ e => e))
  obtain ⟨n, t, rfl, h0, h1, hq⟩ := h'
  refine wpAny_bind (wpAny_holding (wpAny_pure ?_))
  refine wpAny_bind (wpAny_letGo ?_)
  show wpAny _ _ (if n < 0 then _ else _) _ _ _
  rw [if_neg (by omega)]
  show wpAny _ _ (if n ≥ 2 ^ 63 then _ else _) _ _ _
  rw [if_neg (by omega)]
  exact wpAny_bind (wpAny_mkInt (wpAny_pure ⟨_, rfl, hq _ _ (Nat.lt_succ_self _)⟩))
end
end Mine
end
section
open PySem PySem.W PyProof.Rows PySem.Calls Builtin Builtin.ObjectAttr
set_option maxHeartbeats 4000000
namespace Mine
theorem ln_kind : builtinKind "list.__new__" = some .builtinFn := by decide +kernel
theorem ln_split : splitId "list.__new__" = some ("list", "__new__") := by decide +kernel
theorem ln_args (a b : Value) : argsOk "list.__new__" ⟨[a, b], []⟩ := by unfold argsOk; kernel_rfl
noncomputable def makesL (K : Frag) (C : Addr) : Bool := match K.lookup C with
  | some ⟨_, _, .cls cd, sl⟩ => !cd.abstract && !cd.hasDel && (sl.toList[4]?).join == some (.builtin "list.__new__") && !cd.mro.isEmpty && cd.mro.contains (.ref C) && cd.mro.contains (.type "list") &&
      specialIn K (.ref C) "__call__" == some (some (.builtin "type.__call__")) && instIn K (.ref C) (.type "type") == some true
  | _ => false
structure MakesL (M : Model) (h : Heap) (C : Addr) : Prop where
  obj : ∃ oc od cd sl, h.get? C = some ⟨oc, od, .cls cd, sl⟩ ∧ cd.abstract = false ∧ cd.hasDel = false ∧ cd.mro.isEmpty = false
  made : Looks M h (Bind.madeBy (.ref C)) (some "list.__new__")
  base : Looks M h (Bind.staticBase (.ref C)) (.ref C)
  self : Looks M h (isSubtype (.ref C) (.ref C)) true
  top : Looks M h (isSubtype (.ref C) (.type "list")) true
  call : Looks M h (specialOf (.ref C) "__call__") (some (.builtin "type.__call__"))
  typ : Looks M h (isInstance (.ref C) (.type "type")) true
theorem makesL_of {K : Frag} {M : Model} {h : Heap} (X : K.In h) {C : Addr} (e : makesL K C = true) : MakesL M h C := by
  unfold makesL at e
  split at e
  · rename_i oc od cd sl ho
    simp only [Bool.and_eq_true, Bool.not_eq_true', beq_iff_eq] at e
    obtain ⟨⟨⟨⟨⟨⟨⟨e1, e2⟩, e3⟩, e4⟩, e5⟩, e6⟩, e7⟩, e8⟩ := e
    have hc : clsIn K C = some cd := by unfold clsIn; rw [ho]
    have hm : Looks M h (mroOf (.ref C)) cd.mro := (looks_clsIn X hc).andThen .now
    obtain ⟨c, l, hl⟩ : ∃ c l, cd.mro = c :: l := by cases q : cd.mro with | nil => rw [q] at e4; cases e4 | cons c l => exact ⟨c, l, rfl⟩
    have made : Looks M h (Bind.madeBy (.ref C)) (some "list.__new__") := by
      intro A Q E s k q
      unfold Bind.madeBy
      refine wpAny_bind (hm A _ E s k ?_)
      rw [hl, List.forIn_cons]
      refine wpAny_bind (wpAny_bind (wpAny_bind (wpAny_bind (wpAny_loadPart (k _ _ (X _ _ ho)) (wpAny_pure ?_)))))
      dsimp only
      rw [← Array.getElem?_toList, e3]
      exact wpAny_pure (wpAny_pure (wpAny_pure q))
    refine ⟨⟨oc, od, cd, sl, X _ _ ho, e1, e2, e4⟩, made, ?_, looks_mroIn X ?_, looks_mroIn X ?_, looks_specialIn X e7, looks_instIn X e8⟩
    · intro A Q E s k q
      unfold Bind.staticBase
      refine wpAny_bind (hm A _ E s k ?_)
      rw [hl, List.forIn_cons]
      exact wpAny_bind (wpAny_bind (wpAny_bind (made A _ E s k (wpAny_pure (wpAny_pure (wpAny_pure q))))))
    · unfold mroIn; rw [hc, Option.bind_some, if_neg (by rw [e4]; decide), e5]
    · unfold mroIn; rw [hc, Option.bind_some, if_neg (by rw [e4]; decide), e6]
  · cases e
noncomputable abbrev newAcc (C dx : Addr) : Obj := { cls := .ref C, dict := some dx, data := .seq #[] }
section
variable {prog : Program} {w : World} {A : Around} {K : Frag} {C : Addr} {R : Result → Shared → Prop} {h : Heap} {g : Array GenState} {d : Drawn} {t : Nat} {os : OsState}
theorem new_L {a : Value} (Y : MakesL (model prog w) h C) (hq : R (.ok (.ret (.ref (h.objs.size + 1)))) ⟨(h.push emptyDict).push (newAcc C h.objs.size), g, d, t, os⟩) :
    codeAny (model prog w) A (.call (.builtin "list.__new__") ⟨[.ref C, a], []⟩) R ⟨h, g, d, t, os⟩ := by
  obtain ⟨⟨oc, od, cd, sl, hC, e1, e2, e4⟩, made, base, self, top, call, typ⟩ := Y
  refine codeAny_call_builtin_code (plainId_quiet F.plain_list_new _) ?_
  have ha := ln_args (.ref C) a
  simp only [checkBuiltinCall, ln_kind, ln_split]
  have hi : Looks (model prog w) h (isType (.ref C)) true := (Looks.ld hC).andThen .now
  have hbody : codeAny (model prog w) A (.builtin "list.__new__" ⟨[.ref C, a], []⟩) R ⟨h, g, d, t, os⟩ := by
    refine codeAny_builtin_stack F.entry_list_new rfl fun p st => ?_
    rw [Around.under_plainId F.plain_list_new _]
    have hown := owner_list_new
    simp only [hown]
    refine wpAny_bind (hi.at ?_)
    rw [if_neg (by decide)]
    refine wpAny_bind (top.at ?_)
    rw [if_neg (by decide)]
    refine wpAny_bind (wpAny_pure ?_)
    rw [show typeHasDict (.ref C) = true from rfl, if_neg (by decide)]
    refine wpAny_bind (m := newDict) (wpAny_newObj_type ?_)
    refine wpAny_bind (m := newObj (.ref C) (.seq #[]) (some h.objs.size)) ?_
    show wpAny _ _ (newObjAsIs _ _ _) _ _ _
    unfold newObjAsIs classHasDel
    refine wpAny_bind (wpAny_alloc (wpAny_bind (wpAny_bind (wpAny_load (Heap.get?_push_of_some _ (Heap.get?_push_of_some _ hC)) (wpAny_pure ?_)))))
    rw [e2]
    refine wpAny_pure (wpAny_pure ?_)
    show R _ _
    rw [Heap.size_push]
    exact hq
  refine wpAny_bind (hi.at ?_)
  rw [if_neg (by decide)]
  refine wpAny_bind (top.at ?_)
  rw [if_neg (by decide)]
  refine wpAny_bind (base.at (wpAny_bind (made.at ?_)))
  dsimp only
  rw [if_neg (by simp)]
  cases hsig : Manifest.signature? "list.__new__" with
  | none => exact wpAny_pure hbody
  | some sig =>
    simp only [argsOk, hsig] at ha
    have h2 : Bind.checkArgs "list.__new__" sig ⟨[.ref C, a], []⟩ = pure () := ha
    show wpAny _ _ (Bind.checkArgs "list.__new__" sig ⟨[.ref C, a], []⟩) _ _ _
    rw [h2]; exact wpAny_pure hbody
end
end Mine
end
section
open PySem PySem.W PyProof.Rows PySem.Calls Builtin Builtin.ObjectAttr
set_option maxHeartbeats 4000000
namespace Mine
section
variable {prog : Program} {w : World} {A : Around} {E : Value → Shared → Prop} {s : Shared} {K : Frag} {C x dx : Addr} {ox od od' : Obj}
theorem refuse_list (self : Value) (C : Addr) : refuseLoop self "__setattr__" [.ref C, .type "list", .type "object"] = pure () := by
  rw [refuseLoop_ref]
  kernel_rfl
theorem set_sub {name : Str} {v : Value} {cd : ClassData} {es : List DictEntry} {n : Nat} {Q : Unit → Shared → Prop} (X : K.In s.heap) (I : InstAt s.heap x ox C (some od)) (hd : ox.dict = some dx) (hc : clsIn K C = some cd) (hmro : cd.mro = [.ref C, .type "list", .type "object"]) (hh : cd.hasDict = true)
    (hs : findIn K (.ref C) "__setattr__" = some (some (.builtin "object.__setattr__"))) (ht : findIn K (.ref C) name = some none) (hl : (lookIn name od).isSome = true)
    (e : Obj.putName name (PyData.keyHash w.params name) (.str name (s.toks + 1)) v od = od') (e' : od'.data = .dict es.toArray n) (hz : es.length ≤ 1000)
    (h : ∀ h', Heap.SameBut dx s.heap h' → h'.get? dx = some od' → Q () { s with heap := h', toks := s.toks + 2 }) : wpAny (model prog w) A (setAttr (.ref x) name v) Q E s := by
  refine set_plain X I hs ?_
  have SF := PySem.F.store_object
  have ne : cd.mro.isEmpty = false := by rw [hmro]; rfl
  have sub : Looks (model prog w) s.heap (isInstance (.ref x) (.type "object")) true := I.type.andThen (looks_mroIn X (by unfold mroIn; rw [hc, Option.bind_some, if_neg (by rw [ne]; decide), hmro]; simp))
  refine codeAny_call_builtin SF.slot.plain SF.entry (@check_slot (model prog w) _ _ { s with toks := s.toks + 1 } "object.__setattr__" "object" "__setattr__" (.ref x) [.str name s.toks, v] [] _ SF.kind SF.split sub (SF.args (.ref x) (.str name s.toks) v) ?_)
  have hm : Looks (model prog w) s.heap (mroOf (.ref C)) cd.mro := (looks_clsIn X hc).andThen .now
  rw [osa_eq, refuse_eq]
  refine wpAny_bind (wpAny_bind (I.type.here (s := { s with toks := s.toks + 1 }) (wpAny_bind (hm.here (s := { s with toks := s.toks + 1 }) ?_))))
  rw [hmro, refuse_list]
  refine wpAny_pure (wpAny_bind (I.type.here (s := { s with toks := s.toks + 1 }) (wpAny_bind ((looks_findIn X ht).here (s := { s with toks := s.toks + 1 }) (wpAny_bind (wpAny_pure ?_))))))
  obtain ⟨hx, hcl, hn, hD⟩ := I
  obtain ⟨oc, odi, oda, osl⟩ := ox
  dsimp only at hcl hd hD
  subst hcl hd
  refine wpAny_bind (wpAny_pure (wpAny_bind (wpAny_bind (wpAny_loadPart hx (wpAny_bind ((looks_clsIn X hc).here (s := { s with toks := s.toks + 1 }) ?_))))))
  rw [hh]
  refine wpAny_pure (a := some dx) (wpAny_bind (wpAny_pure (wpAny_bind ?_)))
  unfold nsSet
  refine wpAny_bind (wpAny_bind (wpAny_askSetting (wpAny_pure (wpAny_bind (wpAny_mkText (wpAny_bind (wpAny_loadPart hD ?_)))))))
  have hs' : Heap.SameBut dx s.heap (s.heap.update dx (Obj.putName name (PyData.keyHash w.params name) (.str name (s.toks + 1)) v)) := Heap.SameBut.update ..
  have hg' : (s.heap.update dx (Obj.putName name (PyData.keyHash w.params name) (.str name (s.toks + 1)) v)).get? dx = some od' := by
    rw [Heap.get?_update_self _ hD (by rw [e]; obtain ⟨_, _, dd, _⟩ := od'; cases e'; rfl), e]
  unfold lookIn at hl
  split at hl
  · rename_i es₀ n₀ q
    rw [q]
    dsimp only
    have c : (!es₀.any (·.key.isStr name) && es₀.any (·.refKey)) = false := by
      rw [← Array.any_toList, ← Array.any_toList]
      split at hl
      · rename_i en he
        rw [List.any_eq_true.mpr ⟨en, List.mem_of_find?_eq_some he, List.find?_some he⟩]; rfl
      · split at hl
        · cases hl
        · rename_i z; rw [Bool.not_eq_true] at z; rw [z, Bool.and_false]
    rw [aRefKeyMayBeTheName_at, c]
    refine wpAny_updatePart hD ?_
    refine wpAny_bind (wpAny_lookBehind hg' (by rw [e']; exact pastItsLine_dict (by rw [List.size_toArray, sizeLine_eq]; omega)) ?_)
    exact wpAny_pure (h _ hs' hg')
  · cases hl
end
end Mine
end
section
open PySem PySem.W PyProof.Rows PySem.Calls Builtin
set_option maxHeartbeats 4000000
namespace Mine
noncomputable def chkI (n : Str) (x : Addr) : Sem Unit := do
  if !(← isInstance (.ref x) (.type "list")) then
    rule "descr.get.wrong-instance"
    raiseError "TypeError" s!"descriptor '{n.toString}' for '{← typeName (.type "list")}' objects doesn't apply to a '{← typeNameOf (.ref x)}' object"
theorem wget_eq (x C : Addr) : Builtin.«wrapper_descriptor.__get__» ⟨[.builtin "list.__init__", .ref x, .ref C], []⟩ = (chkI "__init__" x >>= fun _ => newFields "method-wrapper" [.builtin "list.__init__", .ref x] >>= fun v => ret v) := by kernel_rfl
theorem chkI_ok {M : Model} {h : Heap} {n : Str} {x : Addr} (L : Looks M h (isInstance (.ref x) (.type "list")) true) : Looks M h (chkI n x) () := L.andThen (by
  rw [if_neg (by decide)]
  exact .now)
theorem li_type : typeOf (.builtin "list.__init__") = pure (.type "wrapper_descriptor") := by show builtinType _ = _; rw [builtinType_eq_fast]; kernel_rfl
theorem wd_slot : Slot "wrapper_descriptor" "__get__" "wrapper_descriptor.__get__" :=
  .of (owner := "wrapper_descriptor") (n := "__get__") (by rw [typeLookup_type, builtinLookup_eq_fast]; kernel_rfl) (by decide +kernel) (by decide +kernel) (by decide +kernel)
    (by first | exact .inl (by decide +kernel) | exact .inr (by decide +kernel)) (by rw [isSubtype_type]; kernel_rfl)
theorem wd_entry : entryFor table "wrapper_descriptor.__get__" = some Builtin.«wrapper_descriptor.__get__» := entryFor_of_tree (by kernel_rfl)
theorem wd_args (a b c : Value) : argsOk "wrapper_descriptor.__get__" ⟨[a, b, c], []⟩ := by unfold argsOk; kernel_rfl
section
variable {prog : Program} {w : World} {A : Around} {E : Value → Shared → Prop} {h : Heap} {g : Array GenState} {d : Drawn} {t : Nat} {os : OsState}
theorem super_ga {so D x C : Addr} {id gid T B : String} {Gb : Builtin} {chk : Sem Unit} {l₀ l : List Value} {K : Frag} {name : Str} {tk : Tok} {Q : PySem.Fin → Shared → Prop}
    (hso : h.get? so = some { cls := .type "super", dict := none, data := .fields #[.ref D, .ref x, .ref C], slots := #[] }) (hno : Looks (model prog w) h (opaqueClassAbove (.ref C)) none)
    (hC : Looks (model prog w) h (mroOf (.ref C)) l₀) (hl : (l₀.dropWhile (· != .ref D)).drop 1 = l) (X : K.In h)
    (hf : alongIn K name l = some (some (.builtin id))) (hty : typeOf (.builtin id) = pure (.type T)) (slotG : Slot T "__get__" gid) (entryG : entryFor table gid = some Gb) (argsG : argsOk gid ⟨[.builtin id, .ref x, .ref C], []⟩)
    (hG : Gb ⟨[.builtin id, .ref x, .ref C], []⟩ = (chk >>= fun _ => newFields B [.builtin id, .ref x] >>= fun v => ret v)) (hchk : Looks (model prog w) h chk ())
    (hxC : x ≠ C) (hn : (name == ("__class__" : Str)) = false)
    (hq : Q (.done (.ret (.ref h.objs.size))) ⟨h.push { cls := .type B, data := .fields #[.builtin id, .ref x] }, g, d, t, os⟩) :
    wpAny (model prog w) A (Builtin.«super.__getattribute__» ⟨[.ref so, .str name tk], []⟩) Q E ⟨h, g, d, t, os⟩ := by
  have hlk := slotG.lookup
  have hne : (Value.ref x == Value.ref C) = false := by simp [hxC]
  have hTf : (⟨h, g, d, t, os⟩ : Shared).TypeIs (.builtin id) T := hty
  have hdt : ({ cls := .type "super", dict := none, data := .fields #[.ref D, .ref x, .ref C], slots := #[] } : Obj).data = .fields #[.ref D, .ref x, .ref C] := rfl
  have f0 : (#[.ref D, .ref x, .ref C] : Array Value)[0]? = some (.ref D) := rfl
  have f1 : (#[.ref D, .ref x, .ref C] : Array Value)[1]? = some (.ref x) := rfl
  have f2 : (#[.ref D, .ref x, .ref C] : Array Value)[2]? = some (.ref C) := rfl
  have hcall : ∀ {Q' : Value → Shared → Prop} {E' : Value → Shared → Prop}, Q' (.ref h.objs.size) ⟨h.push { cls := .type B, data := .fields #[.builtin id, .ref x] }, g, d, t, os⟩ → wpAny (model prog w) A (call (.builtin gid) [.builtin id, .ref x, .ref C]) Q' E' ⟨h, g, d, t, os⟩ := by
    intro Q' E' hq'
    refine wpAny_call_entry slotG hTf entryG ?_ argsG
    rw [hG]
    exact wpAny_bind (hchk.at (wpAny_bind (wpAny_newObj_type (wpAny_pure ⟨_, rfl, hq'⟩))))
  unfold Builtin.«super.__getattribute__»
  repeat (first
    | (with_reducible refine wpAny_field hso hdt f0 ?_) | (with_reducible refine wpAny_field hso hdt f1 ?_) | (with_reducible refine wpAny_field hso hdt f2 ?_)
    | (with_reducible refine ks_wpAny_notOpaque hno ?_)
    | (with_reducible refine Looks.at hC ?_; rw [hl])
    | (refine ks_forIn_along X (fun _ _ => rfl) rfl ?_ hf)
    | (with_reducible refine wpAny_typeOf hTf ?_)
    | (with_reducible refine hcall ?_)
    | (simp only [hn, hne, Bool.or_false, Bool.false_eq_true, if_false])
    | wp_step
    | dsimp only)
  all_goals exact hq
end
section
variable {prog : Program} {w : World} {A : Around} {E : Value → Shared → Prop} {h : Heap} {g : Array GenState} {d : Drawn} {t : Nat} {os : OsState}
theorem super_method {so D x C : Addr} {id gid T B : String} {Gb : Builtin} {chk : Sem Unit} {l₀ l : List Value} {K : Frag} {name : Str} {pl : Sem Bool} {Q : Value × List Value → Shared → Prop}
    (hso : h.get? so = some { cls := .type "super", dict := none, data := .fields #[.ref D, .ref x, .ref C], slots := #[] }) (hno : Looks (model prog w) h (opaqueClassAbove (.ref C)) none)
    (hC : Looks (model prog w) h (mroOf (.ref C)) l₀) (hl : (l₀.dropWhile (· != .ref D)).drop 1 = l) (X : K.In h)
    (hf : alongIn K name l = some (some (.builtin id))) (hty : typeOf (.builtin id) = pure (.type T)) (slotG : Slot T "__get__" gid) (entryG : entryFor table gid = some Gb) (argsG : argsOk gid ⟨[.builtin id, .ref x, .ref C], []⟩)
    (hG : Gb ⟨[.builtin id, .ref x, .ref C], []⟩ = (chk >>= fun _ => newFields B [.builtin id, .ref x] >>= fun v => ret v)) (hchk : Looks (model prog w) h chk ())
    (hxC : x ≠ C) (hn : (name == ("__class__" : Str)) = false)
    (hq : Q (.ref h.objs.size, []) ⟨h.push { cls := .type B, data := .fields #[.builtin id, .ref x] }, g, d, t + 1, os⟩) :
    wpAny (model prog w) A (getMethod (.ref so) name pl) Q E ⟨h, g, d, t, os⟩ := by
  have hlk := F.ks_slot_super_ga.lookup
  have hT : ∀ t', (⟨h, g, d, t', os⟩ : Shared).TypeIs (.ref so) "super" := fun _ => ⟨_, hso, rfl⟩
  unfold getMethod
  refine wpAny_bind (wpAny_specialOf (hT _) hlk ?_)
  show wpAny _ _ (if (Manifest.canonical "super.__getattribute__" != "object.__getattribute__") = true then _ else _) _ _ _
  rw [if_pos F.ks_canon_super_ga]
  unfold getAttr getAttrBy
  refine wpAny_bind (wpAny_bind (wpAny_mkText (wpAny_holding (wpAny_bind (wpAny_typeOf (hT _) (wpAny_bind (wpAny_of_eq hlk ?_)))))))
  show wpAny _ _ (getAttrByItsOwn (.ref so) (.str name t) (.type "super") (.builtin "super.__getattribute__") true false) _ _ _
  unfold getAttrByItsOwn hookBefore callGetattribute boundAndCalled
  refine wpAny_bind (wpAny_of_eq (show (if onTheHeap (.type "super") then typeLookup (.type "super") "__getattr__" else pure none) = pure none from rfl) ?_)
  refine wpAny_bind (wpAny_attempt (wpAny_holding ?_))
  refine wpAny_bind (m := bindSpecial (.builtin "super.__getattribute__") (.ref so)) (wpAny_of_eq (F.ks_slot_super_ga.bind _) ?_)
  refine wpAny_call_entry F.ks_slot_super_ga (hT _) F.ks_entry_super_ga (super_ga (l₀ := l₀) hso hno hC hl X hf hty slotG entryG argsG hG hchk hxC hn ⟨_, rfl, ?_⟩) (F.ks_gaArgs_super _ _)
  exact wpAny_pure (wpAny_pure hq)
theorem call_bound {b : Addr} {id B : String} {x : Value} {Bi : Builtin} {rest : List Value} {s : Shared} {Q : Value → Shared → Prop} (hb : s.heap.get? b = some { cls := .type B, dict := none, data := .fields #[.builtin id, x], slots := #[] })
    (hB : (Value.type B == .type "method" || Value.type B == .type "builtin_function_or_method" || Value.type B == .type "method-wrapper") = true) (hB2 : (Value.type B != .type "method") = true) (hp : plainId id = true)
    (hchk : ∀ {Q' : Unit → Shared → Prop} {E' : Value → Shared → Prop} {A' : Around}, Q' () s → wpAny (model prog w) A' (checkBoundCall id ⟨x :: rest, []⟩) Q' E' s) (he : entryFor table id = some Bi)
    (h : wpAny (model prog w) A.in1 (Bi ⟨x :: rest, []⟩) (fun fin s' => ∃ v, fin = .done (.ret v) ∧ Q v s') E s) : wpAny (model prog w) A (call (.ref b) rest) Q E s := by
  refine wpAny_call (codeAny_of_tree ?_)
  show wpAny _ A.in1 (callAny (.ref b) _) _ _ _
  unfold callAny
  refine wpAny_bind (wpAny_load hb ?_)
  dsimp only
  rw [if_pos hB]
  show wpAny _ A.in1 (if (Value.type B != .type "method") = true then (checkBoundCall id ⟨x :: rest, []⟩ >>= fun _ => again (.builtin id ⟨x :: rest, []⟩)) else _) _ _ _
  rw [if_pos hB2]
  refine wpAny_bind (hchk (wpAny_pure ⟨plainId_quiet hp _, codeAny_builtin he ?_⟩))
  rw [Around.under_plainId hp _]
  exact wpAny_mono h (fun fin s' h' => by obtain ⟨v, rfl, hv⟩ := h'; exact hv) fun _ _ e => e
end
end Mine
end
section
open PySem PySem.W PyProof.Rows PySem.Calls Builtin
set_option maxHeartbeats 4000000
namespace Mine
theorem code_fnAt {G : Gd} {C : Cx} {d : FnD} (K : COk1 G C) (D : FnOk G d) (hlv : 0 < C.lv) {W : Wd} {σ : PS} {X : Led} {s : Shared} {vs : List PV} {xs : List Value} {Q : Value → Shared → Prop} {E : Value → Shared → Prop} (hlen : vs.length = d.pn.length) (R : Rel C W σ X s) (rs : VRels W vs xs)
    (hb : ∀ cs L g s₁, COk1 G (cxF C d L g) → Rel (cxF C d L g) W ⟨vs.map some ++ d.rn.map fun _ => none, σ.mem⟩ (cs ++ X) s₁ → ∀ E', _root_.PySem.wpAt (model G.p G.w) (cxF C d L g).A (.func d.body (d.env L)) (execs d.body (d.env L)) (fun fl s' => ∃ W' σ₁ X' v y, W.le W' ∧ Rel (cxF C d L g) W' σ₁ (cs ++ X') s' ∧ VRel W' v y ∧ (fl = .ret y ∨ (fl = .next ∧ y = .none)) ∧
      ∀ s'', Rel C W' ⟨σ.vars, σ₁.mem⟩ X' s'' → Q y s'') E' s₁) :
    codeAny (model G.p G.w) C.A (.call (.ref d.f) ⟨xs, []⟩) (fun r s' => match r with | .ok (.ret v) => Q v s' | .ok _ => False | .error e => E e s') s := by
  refine Rel.exE R fun m cs ms FF N nd sr mr mu => ?_
  obtain ⟨fo, hfo, hd, hcode⟩ := K.gd.fn d D.obj
  obtain ⟨FG, BG, st, lv⟩ := groundX (R := fun r s' => match r with | .ok (.ret v) => Q v s' | .ok _ => False | .error e => E e s') K.below FF N K.frames K.frame K.kind
  refine ks_codeAny_call_defAt (fd := d.fd) (body := d.body) (binds := d.pn.zip xs) (by have := K.room; omega) (FF.keep _ _ hfo) hd (K.gd.nolimit.keeps FF.keep) (hcode.keeps FF.keep) rfl
    (D.bind s xs (K.gd.frag.keeps FF.keep) (by rw [← rs.length]; exact hlen)) D.nocell (fun y hy => ?_) (fun h₁ hns hk₁ => ?_) D.co D.gen D.kind
  · have := (List.of_mem_zip (a := y.1) (b := y.2) hy).1
    exact D.kinds _ (List.mem_append_left _ this)
  · generalize hg : hideAll s.heap ((cs ++ (ms ++ (W.T ++ X))).map (·.1)) = g at FG BG st lv
    have F' : Fr g s.heap.objs.size h₁ (fun x => (d.pn.zip xs).reverse.lookup x) := ⟨hns, fun b o e => hk₁ b o (of_hideAll _ (hg ▸ e)), by rw [← hg]; exact Nat.le_of_eq (hideAll_size _ _)⟩
    have N' : News g s.heap.objs.size h₁ (cs ++ (ms ++ (W.T ++ X))) := fun p hp => ⟨hk₁ _ _ (N p hp).1, Nat.ne_of_lt (Heap.lt_size (N p hp).1), by rw [← hg]; exact hideAll_none _ (List.mem_map_of_mem hp)⟩
    have KF : COk1 G (cxF C d s.heap.objs.size g) := cxF_ok K D BG st hlv
    have hp : ([] ++ (ms ++ (W.T ++ (cs ++ X)))).Perm (cs ++ (ms ++ (W.T ++ X))) := by
      rw [List.nil_append]
      refine (List.perm_append_comm_assoc ms W.T (cs ++ X)).trans ?_
      refine (List.Perm.append_left _ (List.perm_append_comm_assoc ms cs X)).trans ?_
      refine (List.perm_append_comm_assoc W.T cs (ms ++ X)).trans ?_
      exact List.Perm.append_left _ (List.perm_append_comm_assoc W.T ms X)
    have RF : Rel (cxF C d s.heap.objs.size g) W ⟨vs.map some ++ d.rn.map fun _ => none, σ.mem⟩ (cs ++ X) { s with heap := h₁, toks := s.toks + (d.pn.zip xs).length } :=
      ⟨⟨_, [], ms, F', fun p hp' => N' p (hp.mem_iff.mp hp'), (hp.map _).nodup_iff.mpr nd, SRel.of hlen.symm rs fun x y hx => lookup_zip (List.Nodup.sublist (List.sublist_append_left _ _) D.nodup) hx, mr, mu⟩, R.bare, R.os, Nat.lt_of_lt_of_le R.tk (Nat.le_add_right _ _)⟩
    have back : ∀ W' σ₁ X' v y s', W.le W' → Rel (cxF C d s.heap.objs.size g) W' σ₁ (cs ++ X') s' → VRel W' v y → (∀ s'', Rel C W' ⟨σ.vars, σ₁.mem⟩ X' s'' → Q y s'') →
        LeaveK C.h₀ C.L m g (fun r s' => match r with | .ok (.ret v) => Q v s' | .ok _ => False | .error e => E e s') y s' := by
      intro W' σ₁ X' v y s' le R' ry hQ
      refine Rel.exE R' fun m' cs' ms' F₂ N₂ nd₂ sr₂ mr₂ mu₂ => ?_
      refine leaveK_ F₂ N₂ fun FC NC => ?_
      refine hQ s' ⟨⟨m, cs, ms', FC, ?_, ?_, sr.mono le, mr₂, mu₂⟩, R'.bare, R'.os, R'.tk⟩
      · intro p hp
        refine NC p ?_
        simp only [List.mem_append] at hp ⊢
        rcases hp with h | h | h | h
        · exact .inr (.inr (.inr (.inl h)))
        · exact .inr (.inl h)
        · exact .inr (.inr (.inl h))
        · exact .inr (.inr (.inr (.inr h)))
      · have nd₃ : ((ms' ++ (W'.T ++ (cs ++ X'))).map (·.1)).Nodup := by
          rw [List.map_append] at nd₂
          exact (List.nodup_append.mp nd₂).2.1
        refine (List.Perm.map _ ?_).nodup_iff.mp nd₃
        refine (List.perm_append_comm_assoc ms' W'.T (cs ++ X')).trans ?_
        refine (List.Perm.append_left _ (List.perm_append_comm_assoc ms' cs X')).trans ?_
        refine (List.perm_append_comm_assoc W'.T cs (ms' ++ X')).trans ?_
        exact List.Perm.append_left _ (List.perm_append_comm_assoc W'.T ms' X')
    refine ks_wpAt_mono (hb cs s.heap.objs.size g _ KF RF _) (fun fl s' h' => ?_) fun _ _ e => e
    obtain ⟨W', σ₁, X', v, y, le, R', ry, hfl, hQ⟩ := h'
    rcases hfl with rfl | ⟨rfl, rfl⟩
    · exact lv _ _ (back W' σ₁ X' v y s' le R' ry hQ)
    · exact lv _ _ (back W' σ₁ X' v .none s' le R' ry hQ)
theorem keepsP {M : Model} {q : Addr} {id B : String} {x : Value} (hB : (Value.type B == .type "builtin_function_or_method" || Value.type B == .type "method-wrapper") = true) (hB2 : (Value.type B != .type "method") = true) (h : Heap)
    (X : h.get? q = some { cls := .type B, dict := none, data := .fields #[.builtin id, x], slots := #[] }) : ∃ k, (k = Keeper.frame ∨ k = Keeper.machine ∨ k = Keeper.boundFrame) ∧ Looks M h (keeperOf (.ref q)) k := by
  refine ⟨.machine, .inr (.inl rfl), (Looks.ld (part := none) X).andThen ?_⟩
  dsimp only
  rw [if_pos hB2, if_pos hB]
  exact .now
theorem li_kind : builtinKind "list.__init__" = some .slot := by decide +kernel
theorem li_chk {prog : Program} {w : World} {A : Around} {E : Value → Shared → Prop} {s : Shared} {x : Value} {Q : Unit → Shared → Prop} (q : Q () s) : wpAny (model prog w) A (checkBoundCall "list.__init__" ⟨[x], []⟩) Q E s := by
  have ha : argsOk "list.__init__" ⟨[x], []⟩ := by unfold argsOk; kernel_rfl
  unfold checkBoundCall
  cases hsig : Manifest.signature? "list.__init__" with
  | none => exact wpAny_pure q
  | some sig =>
    simp only [argsOk, hsig] at ha
    rw [li_kind]
    dsimp only
    rw [if_pos (by decide)]
    have h2 : Bind.checkArgs "list.__init__" sig ⟨[x], []⟩ = pure () := ha
    rw [h2]; exact wpAny_pure q
theorem li_run {prog : Program} {w : World} {A : Around} {E : Value → Shared → Prop} {s : Shared} {x dx c : Addr} {Q : PySem.Fin → Shared → Prop} (hx : s.heap.get? x = some (newAcc c dx))
    (h : ∀ h' e, Heap.SameBut x s.heap h' → h'.get? x = some (accO c dx [] e) → Q (.done (.ret .none)) { s with heap := h' }) : wpAny (model prog w) A (Builtin.«list.__init__» ⟨[.ref x], []⟩) Q E s := by
  show wpAny _ A (do let old ← Builtin.List.listItems (.ref x); Builtin.List.listUpdate (.ref x) (fun _ => #[]); letGo old.toList.reverse; ret .none) _ _ s
  refine wpAny_bind (m := Builtin.List.listItems (.ref x)) ?_
  unfold Builtin.List.listItems
  refine wpAny_bind (wpAny_seqItems hx rfl (wpAny_pure ?_))
  refine wpAny_bind (m := updateSeq x (fun _ => #[])) (wpAny_updateSeq hx rfl ?_)
  refine wpAny_bind (wpAny_letGo (wpAny_pure ?_))
  obtain ⟨e', hms⟩ := mapSeq_acc (c := c) (dx := dx) (vs := []) (e := 0) (f := fun _ => #[])
  refine h _ e' (Heap.SameBut.update ..) ?_
  have e1 : newAcc c dx = accO c dx [] 0 := rfl
  rw [Heap.get?_update_self _ hx (by rw [e1, hms]; rfl), e1, hms]
theorem Cl.fn {G : Gd} {C : Cx} {d : FnD} (K : COk1 G C) (D : FnOk G d) (hlv : 0 < C.lv) {F : PS → Option (Fl × PS)} (hb : ∀ L g, COk1 G (cxF C d L g) → Xs G (cxF C d L g) d.body F) : Cl G C (.ref d.f) (fcall d F) := by
  intro W σ X s vs xs r σ' Q E e R rs h
  unfold fcall at e
  split at e
  · rename_i hlen
    refine wpAny_call (code_fnAt K D hlv hlen R rs fun cs L' g s₁ KF RF E' => wpAt_of_wpAny ?_)
    split at e
    · rename_i v σ₁ hF
      induction e using someC
      refine hb L' g KF W _ (cs ++ X) _ _ σ₁ _ _ hF RF fun W' fl s' le R' fr => ?_
      cases fr with
      | ret _ y ry => exact ⟨W', σ₁, X, _, y, le, R', ry, .inl rfl, fun s'' R'' => h W' y s'' le R'' ry⟩
    · rename_i σ₁ hF
      induction e using someC
      refine hb L' g KF W _ (cs ++ X) _ _ σ₁ _ _ hF RF fun W' fl s' le R' fr => ?_
      cases fr with
      | next => exact ⟨W', σ₁, X, .none, .none, le, R', .none, .inr ⟨rfl, rfl⟩, fun s'' R'' => h W' .none s'' le R'' .none⟩
    · exact noneE e
  · exact noneE e
end Mine
end
section
open PySem PySem.W PyProof.Rows PySem.Calls Builtin
set_option maxHeartbeats 4000000
set_option genInjectivity false
set_option genSizeOfSpec false
namespace Mine
noncomputable def initBody (p1 p2 p3 p4 p5 p6 p7 p8 p9 : Pos) : List Stmt := [.Assign [.Attribute (.Name "self" p1) "_initial_size" p2] (.Name "initial_size" p3) p4, .Expr (.Call (.Attribute (.Call (.Name "super" p5) [] [] p6) "__init__" p7) [] [] p8) p9]
noncomputable def MForm (o : Expr) (name : Str) (apos pos : Pos) : Prop := ∃ pl : Sem Bool, ∀ env, eval (.Call (.Attribute o name apos) [] [] pos) env = (do
      let ov ← attributeBase o name env (eval o env)
      standAt apos.atName
      let (f, first) ← holding [ov] (getMethod ov name pl)
      callWith pos f first (backTo pos (starEach [] env)) [])
structure InitK (G : Gd) (d : FnD) (cc cda : Addr) : Prop where
  ok : FnOk G d
  body : ∃ p1 p2 p3 p4 p5 p6 p7 p8 p9, d.body = initBody p1 p2 p3 p4 p5 p6 p7 p8 p9 ∧ MForm (.Call (.Name "super" p5) [] [] p6) "__init__" p7 p8
  pn : d.pn = [("self" : Str), ("initial_size" : Str)]
  rn : d.rn = []
  cl : d.cl = [(("__class__" : Str), cc)]
  cell : ∃ cl cld csl, G.K.lookup cc = some ⟨cl, cld, .cell (some (.ref G.acc)), csl⟩
  cdv : d.cdv = .ref cda
  code : ∃ o vs file tf, G.K.lookup cda = some o ∧ o.data = .fields vs ∧ vs[2]? = some (.str file tf) ∧ (G.p.main.file == file) = true
  par : ∃ ar, (d.params.posonlyargs ++ d.params.args).head? = some ar ∧ ar.arg = "self"
  n1 : d.scope.names.lookup ("super" : Str) = some .globalImplicit
  n2 : d.scope.names.lookup ("__class__" : Str) = some .free
  top : (G.p.main.scope.names.lookup ("super" : Str)).isSome = false
  sup : nsIn G.K mainGlobals "super" = some none
  cls : ∃ cd, clsIn G.K G.acc = some cd ∧ cd.mro = [.ref G.acc, .type "list", .type "object"] ∧ cd.hasDict = true
  seta : findIn G.K (.ref G.acc) "__setattr__" = some (some (.builtin "object.__setattr__"))
  own : findIn G.K (.ref G.acc) "_initial_size" = some none
  along : alongIn G.K "__init__" [.type "list", .type "object"] = some (some (.builtin "list.__init__"))
  opq : nsIn G.K cStatics "thirdparty.any" = some none
theorem perm_two {α : Type} (cs : List α) (a b : α) (X : List α) : (cs ++ a :: b :: X).Perm (b :: a :: (cs ++ X)) :=
  (List.perm_middle.trans (List.Perm.cons a List.perm_middle)).trans (List.Perm.swap b a _)
theorem init_run {G : Gd} {C : Cx} {d : FnD} {cc cda : Addr} (K : COk1 G C) (AK : AccK G) (IK : InitK G d cc cda) (hlv : 0 < C.lv) {W : Wd} {σ : PS} {X : Led} {s : Shared} {x dx : Addr} {n : Int} {t : Tok} {R : Result → Shared → Prop}
    (Rl : Rel C W σ ((x, newAcc G.acc dx) :: (dx, emptyDict) :: X) s)
    (hR : ∀ s' t' u' e, Rel C W σ ((x, accO G.acc dx [] e) :: (dx, accD G.w.params n t' u') :: X) s' → R (.ok (.ret (.ref x))) s') :
    codeAny (model G.p G.w) C.A (.call (.ref d.f) ⟨[.ref x, .int n t], []⟩) (InitBack x R) s := by
  obtain ⟨p1, p2, p3, p4, p5, p6, p7, p8, p9, hbody, pl, hform⟩ := IK.body
  refine codeAny_mono (code_fnAt (Q := fun v s' => v = .none ∧ R (.ok (.ret (.ref x))) s') (E := fun e s' => R (.error e) s') K IK.ok hlv (vs := [.raw (.ref x), .int n]) (by rw [IK.pn]; rfl) Rl (.cons (.raw _) (.cons (.int n t) .nil)) fun cs L g s₁ KF R₁ E' => ?_) fun r s' h => ?_
  · rw [IK.rn] at R₁
    have hnm : (cxF C d L g).nm = [(("self" : Str), false), (("initial_size" : Str), false)] := by
      show d.nm = _
      unfold FnD.nm
      rw [IK.pn, IK.rn]; rfl
    have X₁ : G.K.In s₁.heap := KF.gd.frag.keeps fun _ _ => R₁.keep
    have R₂ := R₁.perm (perm_two cs (x, newAcc G.acc dx) (dx, emptyDict) X)
    have I₁ : InstAt s₁.heap x (newAcc G.acc dx) G.acc (some emptyDict) := ⟨R₂.getX (.tail _ (.head _)), rfl, rfl, R₂.getX (.head _)⟩
    obtain ⟨cd, hc, hmro, hhd⟩ := IK.cls
    have hint : interactive (d.env L) = false := by
      unfold interactive
      rw [show (d.env L).scope.kind = .function from KF.kind]; rfl
    rw [hbody]
    refine ks_wpAt_execs_cons (ks_wpAt_Assign_Attr (wpAt_of_wpAny (wpAny_Name (ld_var (i := 1) KF.toCOk (by rw [hnm]; rfl) R₂ rfl fun y ry => wpAny_Name (ld_var (i := 0) KF.toCOk (by rw [hnm]; rfl) R₂ rfl fun z rz => ?_) (by decide)) (by decide))))
    induction ry using VRel.intC with
    | int t₁ => induction rz using VRel.rawC with
      | raw =>
        refine set_sub X₁ I₁ rfl hc hmro hhd IK.seta IK.own rfl (od' := accD G.w.params n (s₁.toks + 1) t₁) rfl (es := [⟨PyData.keyHash G.w.params (Str.ofString "_initial_size"), .str (Str.ofString "_initial_size") (s₁.toks + 1), .int n t₁⟩]) rfl (by simp) fun h' hs hg => ?_
        have R₃ := (R₂.setX hs hg).toks (s₁.toks + 2)
        generalize hs₂ : ({ s₁ with heap := h', toks := s₁.toks + 2 } : Shared) = s₂ at R₃ ⊢
        have X₂ : G.K.In s₂.heap := KF.gd.frag.keeps fun _ _ => R₃.keep
        obtain ⟨hp, gg, dr, tk, os⟩ := s₂
        obtain ⟨fo, hfo, hfd, _⟩ := KF.gd.fn d IK.ok.obj
        obtain ⟨ar, har, harn⟩ := IK.par
        obtain ⟨oc, vs, file, tf, hoc, hvs, hv2, hfile⟩ := IK.code
        obtain ⟨ccl, cld, csl, hcell⟩ := IK.cell
        obtain ⟨oD, hD1, hD2⟩ : ∃ oD, hp.get? G.acc = some oD ∧ oD.data = .cls cd := by
          unfold clsIn at hc
          split at hc
          · rename_i c d' cd' sl ho
            induction hc using some1C
            exact ⟨_, X₂ _ _ ho, rfl⟩
          · exact noneE hc
        refine ks_wpAt_execs_cons (ks_wpAt_Expr_any (ks_wpAt_MethodCall (ks_wpAt_super_base (env := d.env L) IK.n1 IK.n2 (by decide) rfl (R₃.keep hfo) hfd har IK.cdv (X₂ _ _ hoc) hvs hv2 hfile IK.top ?_) (pl := pl) (hform _)) (hi := hint))
        refine ks_loadName_global KF.kind IK.n1 (loadGlobal_builtin (env := d.env L) (KF.gd.g.keeps fun _ _ => R₃.keep) (mg_none_of KF.gd.frag KF.gd.g IK.sup) (KF.gd.b.keeps fun _ _ => R₃.keep) ((KF.gd.bi _ (by decide)).trans (show bootBuiltins "super" = some (.type "super") by kernel_rfl)) ⟨rfl, ?_⟩)
        refine wpAny_loadName_free KF.kind IK.n2 (show d.cl.lookup _ = _ by rw [IK.cl]; rfl) ⟨_, X₂ _ _ hcell, rfl⟩ ?_
        rw [harn]
        refine ld_var (i := 0) KF.toCOk (by rw [hnm]; rfl) R₃ rfl fun z rz => ?_
        induction rz using VRel.rawC with
        | raw =>
          refine ks_wpAny_isType_cls hD1 hD2 ⟨rfl, ?_⟩
          have hsub : mroIn G.K G.acc (.ref G.acc) = some true := by unfold mroIn; rw [hc, Option.bind_some, hmro]; simp
          have hx₃ : hp.get? x = some (newAcc G.acc dx) := R₃.getX (.tail _ (.head _))
          refine ks_wpAny_call_super hD1 hD2 hx₃ rfl (fun c e => by cases e) (looks_mroIn X₂ hsub) fun h₄ hso k₄ => ?_
          have R₄ := R₃.grown k₄
          have X₄ : G.K.In h₄ := KF.gd.frag.keeps fun _ _ => R₄.keep
          have hxC : x ≠ G.acc := fun q => by rw [q, hD1] at hx₃; cases hx₃; cases hD2
          refine super_method (l₀ := cd.mro) (l := [.type "list", .type "object"]) hso (looks_opaque X₄ IK.opq) ((looks_clsIn X₄ hc).andThen .now) (by rw [hmro]; simp) X₄ IK.along li_type wd_slot wd_entry (wd_args _ _ _) (wget_eq x G.acc) (chkI_ok ?_) hxC (by decide) ?_
          · exact (show Looks (model G.p G.w) h₄ (typeOf (.ref x)) (.ref G.acc) from (Looks.ld (R₄.getX (.tail _ (.head _)))).andThen .now).andThen (looks_mroIn X₄ AK.list)
          · have R₅ := (R₄.allocX (o := { cls := .type "method-wrapper", data := .fields #[.builtin "list.__init__", .ref x] }) rfl).toks (tk + 1)
            dsimp only at R₅ ⊢
            generalize h₄.objs.size = q at R₅ ⊢
            generalize hs₅ : ({ heap := h₄.push { cls := .type "method-wrapper", data := .fields #[.builtin "list.__init__", .ref x] }, gens := gg, drawn := dr, toks := tk + 1, os := os } : Shared) = s₅ at R₅ ⊢
            have hq : s₅.heap.get? q = some { cls := .type "method-wrapper", dict := none, data := .fields #[.builtin "list.__init__", .ref x], slots := #[] } := R₅.getX (.head _)
            refine callWith_of (P := fun h => h.get? q = some { cls := .type "method-wrapper", dict := none, data := .fields #[.builtin "list.__init__", .ref x], slots := #[] }) rfl (keepsP (by decide) (by decide)) (evalArgs_nil3 ⟨hq, ?_⟩)
            refine call_bound hq (by decide) (by decide) F.slot_list_init.plain li_chk F.entry_list_init (li_run (c := G.acc) (dx := dx) (R₅.getX (.tail _ (.tail _ (.head _)))) fun h₆ e₆ hs₆ hg₆ => ⟨.none, rfl, ?_⟩)
            have R₆ := (R₅.dropX.perm (List.Perm.swap _ _ _)).setX hs₆ hg₆
            refine wpAt_of_wpAny (wpAny_execs_nil ⟨W, _, (x, accO G.acc dx [] e₆) :: (dx, accD G.w.params n (s₁.toks + 1) t₁) :: X, .none, .none, Wd.le_refl _, R₆.perm ?_, .none, .inr ⟨rfl, rfl⟩, fun s'' R'' => ⟨rfl, hR s'' _ _ _ R''⟩⟩)
            exact (List.Perm.swap _ _ _).trans (perm_two cs _ _ X).symm
  · rcases r with e | (v | _ | _ | _) <;> first | exact h | exact h.elim
end Mine
end
section
open PySem PySem.W PyProof.Rows PySem.Calls Builtin
set_option maxHeartbeats 4000000
namespace Mine
section
variable {prog : Program} {w : World} {A : Around} {K : Frag} {C fI : Addr} {R : Result → Shared → Prop} {h : Heap} {g : Array GenState} {d : Drawn} {t : Nat} {os : OsState}
theorem make_L {a : Value} (X : K.In h) (Y : MakesL (model prog w) h C) (hf : findIn K (.ref C) "__init__" = some (some (.ref fI))) (ht : typeIn K (.ref fI) = some (.type "function"))
    (hq : codeAny (model prog w) (A.under (.builtin "type.__call__" ⟨[.ref C, a], []⟩)) (.call (.ref fI) ⟨[.ref (h.objs.size + 1), a], []⟩) (InitBack (h.objs.size + 1) R) ⟨(h.push emptyDict).push (newAcc C h.objs.size), g, d, t, os⟩) :
    codeAny (model prog w) A (.call (.ref C) ⟨[a], []⟩) R ⟨h, g, d, t, os⟩ := by
  have Y' := Y
  have hi := looks_findIn (M := model prog w) X hf
  have hb := fun self => bind_fn (M := model prog w) X self ht
  obtain ⟨⟨oc, od, cd, sl, hC, e1, e2, e4⟩, made, base, self, top, call, typ⟩ := Y
  refine codeAny_of_tree ?_
  show wpAny _ _ (callAny (.ref C) _) _ _ _
  refine nd_load hC ?_
  show wpAny _ _ (callAny.viaDunder (.ref C) _) _ _ _
  unfold callAny.viaDunder
  refine wpAny_bind (call.at ?_)
  dsimp only
  rw [tc_bind]
  refine wpAny_bind (wpAny_pure (wpAny_bind (wpAny_pure ?_)))
  refine wpAny_pure (a := PySem.Fin.again (.call (.builtin "type.__call__") ⟨[.ref C, a], []⟩)) (And.intro rfl ?_)
  refine codeAny_call_builtin_at (Code.quiet_builtin _ (by decide +kernel)) entry_typeCall (check_slot tc_kind tc_split typ (tc_args _ _ _) ?_)
  unfold Builtin.«type.__call__»
  have hm : Looks (model prog w) h (mroOf (.ref C)) cd.mro := ((Looks.ld (part := none) hC).andThen .now).andThen .now
  repeat (first | simp only [e4, Bool.false_eq_true, if_false] | with_reducible refine wpAny_call ?_ | lk)
  refine new_L Y' ?_
  have k : ∀ b o, h.get? b = some o → ((h.push emptyDict).push (newAcc C h.objs.size)).get? b = some o := fun b o e => Heap.get?_push_of_some _ (Heap.get?_push_of_some _ e)
  have hx : ((h.push emptyDict).push (newAcc C h.objs.size)).get? (h.objs.size + 1) = some (newAcc C h.objs.size) := by heap_get
  have t1 : Looks (model prog w) ((h.push emptyDict).push (newAcc C h.objs.size)) (typeOf (.ref (h.objs.size + 1))) (.ref C) := (Looks.ld hx).andThen .now
  have s1 := self.keeps k
  have i1 := hi.keeps k
  have b1 := (hb (.ref (h.objs.size + 1))).keeps k
  unfold isInstance callSpecial? specialOf
  repeat (first | with_reducible refine wpAny_call ?_ | lk)
  refine codeAny_mono hq fun r s' z => ?_
  rcases r with e | (v | _ | _ | _) <;> first | exact z | exact z.elim | skip
  obtain ⟨rfl, z⟩ := z
  exact wpAny_pure (wpAny_pure z)
end
noncomputable def subC (C : Cx) (A' : Around) : Cx := { C with A := A', lv := C.lv - 2 }
theorem COk1.sub {G : Gd} {C : Cx} {A' : Around} (K : COk1 G C) (hlv : 2 ≤ C.lv) (hd : A'.depth ≤ C.A.depth + 2) (hf : A'.frames = C.A.frames) (hh : A'.handled = C.A.handled) (hu : A'.units ≤ C.A.units + 6) : COk1 G (subC C A') where
  below := K.below
  frames := hf.trans K.frames
  frame := K.frame
  kind := K.kind
  handled := hh.trans K.handled
  nm := K.nm
  globals := K.globals
  builtins := K.builtins
  locals := K.locals
  gd := K.gd
  cells := K.cells
  room := by
    have := K.room
    show A'.depth + (C.lv - 2) < _
    omega
  units := by
    have := K.units
    show A'.units + 3 * (C.lv - 2) + 8 < _
    omega
  acp := K.acp
  acC := K.acC
  acP := K.acP
  acw := K.acw
  inj := K.inj
theorem Rel.sub {C : Cx} {A' : Around} {W : Wd} {σ : PS} {X : Led} {s : Shared} (R : Rel C W σ X s) : Rel (subC C A') W σ X s := ⟨R.ex, R.bare, R.os, R.tk⟩
theorem Rel.unsub {C : Cx} {A' : Around} {W : Wd} {σ : PS} {X : Led} {s : Shared} (R : Rel (subC C A') W σ X s) : Rel C W σ X s := ⟨R.ex, R.bare, R.os, R.tk⟩
theorem Rel.toT {C : Cx} {W : Wd} {σ : PS} {X : Led} {s : Shared} {p : Addr × Obj} (R : Rel C W σ (p :: X) s) : Rel C ⟨W.mu, p :: W.T⟩ σ X s := by
  refine Rel.exE R fun m cs ms F N nd sr mr mu => ?_
  have le : W.le ⟨W.mu, p :: W.T⟩ := ⟨⟨[], by simp⟩, fun _ h => .tail _ h⟩
  have hp : (cs ++ (ms ++ ((p :: W.T) ++ X))).Perm (cs ++ (ms ++ (W.T ++ p :: X))) := List.Perm.append_left _ (List.Perm.append_left _ (by rw [List.cons_append]; exact List.perm_middle.symm))
  exact ⟨⟨m, cs, ms, F, fun q hq => N q (hp.mem_iff.mp hq), (hp.map _).nodup_iff.mpr nd, sr.mono le, mr.mono le, mu⟩, R.bare, R.os, R.tk⟩
noncomputable def cNew : List PV → PS → Option (PV × PS)
  | [.int n], σ => fnew (.acc n []) σ
  | _, _ => none
theorem tc_under (A : Around) (C : Addr) (a : Value) : (A.under (.builtin "type.__call__" ⟨[.ref C, a], []⟩)).depth ≤ A.depth + 2 ∧ (A.under (.builtin "type.__call__" ⟨[.ref C, a], []⟩)).frames = A.frames ∧ (A.under (.builtin "type.__call__" ⟨[.ref C, a], []⟩)).handled = A.handled ∧
    (A.under (.builtin "type.__call__" ⟨[.ref C, a], []⟩)).units ≤ A.units + 6 := by
  refine ⟨?_, ?_, rfl, ?_⟩
  · have : (Code.builtin "type.__call__" ⟨[.ref C, a], []⟩).weight = 1 := by rfl
    show A.depth + Code.weight _ ≤ _
    omega
  · have : (Code.builtin "type.__call__" ⟨[.ref C, a], []⟩).envs = [] := by rfl
    unfold Around.under
    rw [this]; rfl
  · have : (Code.builtin "type.__call__" ⟨[.ref C, a], []⟩).cUnits = 1 := by rfl
    show A.units + Code.cUnits _ ≤ _
    omega
end Mine
end
section
open PySem PySem.W PyProof.Rows PySem.Calls Builtin
set_option maxHeartbeats 4000000
set_option genInjectivity false
set_option genSizeOfSpec false
namespace Mine
structure NewK (G : Gd) (d : FnD) (cc cda : Addr) : Prop extends InitK G d cc cda where
  makes : makesL G.K G.acc = true
  init : findIn G.K (.ref G.acc) "__init__" = some (some (.ref d.f))
  fty : typeIn G.K (.ref d.f) = some (.type "function")
  keep : keepIn G.K (.ref G.acc) = true
section
variable {G : Gd} {C : Cx} {V : Vw}
theorem Ev.newAcc (K : COk1 G C) (VV : VG V) (AK : AccK G) {d : FnD} {cc cda : Addr} (NK : NewK G d cc cda) (hlv : 3 ≤ C.lv) {x : Str} {p pos : Pos} {es : List Expr} {f : PS → Option (List PV × PS)} (hx : V.env.kindOf x = some .globalImplicit)
    (e : nsIn G.K mainGlobals x = some (some (.ref G.acc))) (hdb : (x == ("__debug__" : Str)) = false) (H : Evs G C V es f) : Ev G C V (.Call (.Name x p) es [] pos) (fun σ => fbf f σ fun vs σ => cNew vs σ) := by
  intro W σ X s r σ' Q E e' R ok h
  refine fbE e' fun vs σ₁ e₁ e₂ => ?_
  refine Call_Name rfl ((Ev.glo K VV hx e (fun _ => .raw _) hdb) W σ X s _ _ _ E rfl R ok fun W₁ y s₁ l₁ R₁ ry => ?_)
  induction ry using VRel.rawC
  refine callWith_of (P := G.K.In) (by rw [H.plain]; rfl) (keeps_K NK.keep) (H.args _ e₁ R₁ (V.mono l₁ ok) fun W₂ xs s₂ l₂ R₂ rs => ⟨K.gd.frag.keeps fun _ _ => R₂.keep, ?_⟩)
  unfold cNew at e₂
  split at e₂
  · rename_i n
    induction rs using VRels.consC with | cons r1 rs => induction rs using VRels.nilC with | nil => induction r1 using VRel.intC with | int t =>
    have R₃ := (R₂.allocX (o := emptyDict) rfl).allocX (o := Mine.newAcc G.acc s₂.heap.objs.size) rfl
    have X₂ : G.K.In s₂.heap := K.gd.frag.keeps fun _ _ => R₂.keep
    have hlen := R₂.len
    refine wpAny_call ?_
    obtain ⟨hp, gg, dr, tk, os⟩ := s₂
    obtain ⟨u1, u2, u3, u4⟩ := tc_under C.A G.acc (.int n t)
    have K' : COk1 G (subC C (C.A.under (.builtin "type.__call__" ⟨[.ref G.acc, .int n t], []⟩))) := K.sub (by omega) u1 u2 u3 u4
    refine make_L X₂ (makesL_of X₂ NK.makes) NK.init NK.fty ?_
    dsimp only at R₃
    rw [Heap.size_push] at R₃
    refine init_run K' AK NK.toInitK (by show 0 < C.lv - 2; omega) R₃.sub fun s' t' u' e₃ R₄ => ?_
    have R₅ := ((R₄.unsub.perm (List.Perm.swap _ _ _)).toT).promote (po := .acc n []) (by
      rw [← K.acC, ← K.acP]
      exact .acc n [] [] e₃ _ t' u' .nil (.head _))
    cases e₂
    refine h _ _ _ (Wd.le_trans l₁ (Wd.le_trans l₂ ⟨⟨_, rfl⟩, fun _ h => .tail _ h⟩)) R₅ (.ref _ _ ?_)
    show (W₂.mu ++ [_])[_]? = _
    rw [← hlen]; simp
  · exact noneE e₂
end
end Mine
end
section
open PySem PySem.W PyProof.Rows PySem.Calls Builtin
set_option maxHeartbeats 4000000
namespace Mine
noncomputable def cLenA (g : List PV → PS → Option (PV × PS)) (vs : List PV) (σ : PS) : Option (PV × PS) := match vs with
  | [.ref l] => if isAcc (.ref l) σ = true then (match g [.ref l] σ with
      | some (.int n, σ') => if 0 ≤ n ∧ n < 2 ^ 63 then some (.int n, σ') else none
      | _ => none) else cLen [.ref l] σ
  | vs => cLen vs σ
section
variable {G : Gd} {C : Cx}
theorem isAcc_some {l : Nat} {σ : PS} (h : isAcc (.ref l) σ = true) : ∃ n xs, σ.mem[l]? = some (.acc n xs) := by
  unfold isAcc at h
  dsimp only at h
  split at h
  · exact ⟨_, _, by assumption⟩
  · cases h
theorem Cl.lenA (K : COk1 G C) {f : Addr} {g : List PV → PS → Option (PV × PS)} (hf : findIn G.K (.ref G.acc) "__len__" = some (some (.ref f))) (ht : typeIn G.K (.ref f) = some (.type "function")) (hc : Cl G (subC C C.A.in1) (.ref f) g) : Cl G C (.builtin "len") (cLenA g) := by
  intro W σ X s vs xs r σ' Q E e R rs h
  unfold cLenA at e
  split at e
  · rename_i l
    split at e
    · rename_i ha
      obtain ⟨n, ys, hx⟩ := isAcc_some ha
      induction rs using VRels.consC with | cons r1 rs => induction rs using VRels.nilC with | nil => induction r1 using VRel.refC with | ref ad had =>
      refine accE K R hx had fun us ee dx t u ho rv hm I => ?_
      split at e
      · rename_i n' σ₁ hg
        split at e
        · rename_i hn
          induction e using someC
          refine len_sub (K.gd.frag.keeps fun _ _ => R.keep) I hf ht (hc W σ X s [.ref l] [.ref ad] _ _ _ E hg R.sub (.cons (.ref l ad had) .nil) fun W' y s' le R' ry => ?_)
          induction ry using VRel.intC with
          | int t' => exact ⟨_, t', rfl, hn.1, hn.2, fun u k hk => h W' _ _ le (R'.unsub.toks k (Nat.lt_of_le_of_lt (Nat.zero_le _) hk)) (.int _ _)⟩
        · exact noneE e
      · exact noneE e
    · exact Cl.len W σ X s _ xs r σ' Q E e R rs h
  · exact Cl.len W σ X s _ xs r σ' Q E e R rs h
end
end Mine
end
section
open PySem PySem.W PyProof.Rows PySem.Calls Builtin Builtin.Str
namespace Mine
inductive DL : List (Option Expr) → List Expr → List (List Nat × Int) → Prop
  | nil : DL [] [] []
  | cons {x : Str} {k k' : Nat} {p p' : Pos} {i : Int} {ks : List (Option Expr)} {vs : List Expr} {es : List (List Nat × Int)} (l : List Nat) : x = mkS' l → DL ks vs es → DL (some (.Constant (.str x) k p) :: ks) (.Constant (.int i) k' p' :: vs) ((l, i) :: es)
noncomputable def dlD (es : List (List Nat × Int)) (d : List (List Nat × PV)) : List (List Nat × PV) := es.foldl (fun d kv => dstore d kv.1 (.int kv.2)) d
noncomputable def dlP (env : Env) (pos : Pos) : List (Option Expr) → List Expr → List (Sem Value × Sem Value)
  | some k :: ks, v :: vs => (eval k env, do let x ← eval v env; standAt pos; pure x) :: dlP env pos ks vs
  | _, _ => []
theorem DL.shape {ks : List (Option Expr)} {vs : List Expr} {es : List (List Nat × Int)} (D : DL ks vs es) (env : Env) (pos : Pos) : (evalEachOpt ks env).zip ((evalEach vs env).map fun v => do let x ← v; standAt pos; pure x) = (dlP env pos ks vs).map fun p => (some p.1, p.2) := by
  induction D with
  | nil => rfl
  | cons _ hx _ ih =>
    exact congrArg (List.cons _) ih
theorem DL.len {ks : List (Option Expr)} {vs : List Expr} {es : List (List Nat × Int)} (D : DL ks vs es) (env : Env) (pos : Pos) : (dlP env pos ks vs).length = es.length := by
  induction D with
  | nil => rfl
  | cons _ hx _ ih => show _ + 1 = _ + 1; rw [ih]
inductive DLR : List (List Nat × Int) → List (Str × Value) → Prop
  | nil : DLR [] []
  | cons {l : List Nat} {i : Int} {t : Tok} {es : List (List Nat × Int)} {ds : List (Str × Value)} : DLR es ds → DLR ((l, i) :: es) ((mkS' l, .int i t) :: ds)
theorem DLR.merged {W : Wd} {es : List (List Nat × Int)} {ds : List (Str × Value)} (r : DLR es ds) : ∀ {d : List (List Nat × PV)} {d' : List (Str × Value)}, DRel W d d' → DRel W (dlD es d) (merged d' ds) := by
  induction r with
  | nil => intro d d' h; exact h
  | cons _ ih => intro d d' h; exact ih (h.store (.int _ _))
theorem dl_run {p : Program} {w : World} {A : Around} {E : Value → Shared → Prop} {env : Env} {pos : Pos} {ks : List (Option Expr)} {vs : List Expr} {es : List (List Nat × Int)} (D : DL ks vs es) : ∀ {s : Shared} {Q : List (Value × Value) → Shared → Prop}, 0 < s.toks →
    (∀ tk l kvs, 0 < tk → Carries (strKind p w) l kvs → DLR es kvs → Q l { s with toks := tk }) → wpAny (model p w) A (evalPairs (dlP env pos ks vs)) Q E s := by
  induction D with
  | nil => intro s Q ht h; exact evalPairs_nil (h s.toks [] [] ht trivial .nil)
  | @cons x k k' p p' i ks vs es l hx _ ih =>
    intro s Q ht h
    subst hx
    refine evalPairs_cons (wpAny_Constant_str (wpAny_bind (wpAny_Constant_int (wpAny_bind (wpAny_standAt (wpAny_pure (ih (Nat.succ_pos _) fun tk l' kvs htk hc hr => ?_)))))))
    exact h tk _ ((mkS' l, .int i _) :: kvs) htk ⟨isStr_mk _ _, rfl, hc⟩ (.cons hr)
section
variable {G : Gd} {C : Cx} {V : Vw}
theorem Ev.dictS (K : COk1 G C) {ks : List (Option Expr)} {vs : List Expr} {es : List (List Nat × Int)} {pos : Pos} (D : DL ks vs es) (h0 : es.isEmpty = false) (hlen : decide (es.length ≤ 15) = true) : Ev G C V (.Dict ks vs pos) (fun σ => fnew (.dict (dlD es [])) σ) := by
  intro W σ X s r σ' Q E e R ok h
  have hne : dlP V.env pos ks vs ≠ [] := fun q => by
    have := D.len V.env pos
    rw [q] at this
    induction es using listC with
    | nil => cases h0
    | cons _ _ => cases this
  refine wpAny_Dict_pairs (knd := strKind G.p G.w) (D.shape V.env pos) hne (by rw [D.len]; exact of_decide_eq_true hlen) ?_
  have ho : ORel C.ac W (.dict []) s.heap.objs.size { cls := .type "dict", data := .dict #[] } := .dict [] [] _ .nil ⟨#[], 0, ⟨rfl, rfl, rfl⟩, rfl, fun e he => by simp at he, .nil, by simp⟩
  have R₁ := R.alloc ho
  refine dl_run D R.tk fun tk l kvs htk hc hr => ?_
  have R₂ := R₁.toks tk htk
  refine ⟨kvs, hc, ⟨_, #[], 0, Heap.get?_push_size _ rfl, ⟨rfl, rfl, rfl⟩, rfl, fun e he => by simp at he, .nil, by simp⟩, fun h' hd hs => ?_⟩
  obtain ⟨o', es₂, ep₂, ho₂, e1, e2, e3, e4, e5⟩ := hd
  have hmu : (W.mu ++ [s.heap.objs.size])[σ.mem.length]? = some s.heap.objs.size := by rw [← R.len]; simp
  have R₃ := R₂.setM (l := σ.mem.length) (po := .dict []) (a := s.heap.objs.size) (o' := o') (by simp) hmu hs ho₂ (.dict _ _ _ (hr.merged .nil) ⟨es₂, ep₂, e1, e2, by rw [K.acp, K.acw]; exact e3, by rw [K.acp, K.acw]; exact e4, e5⟩)
  have R₄ := R₃.toks (tk + l.length) (Nat.lt_of_lt_of_le htk (Nat.le_add_right _ _))
  induction e using someC
  refine h ⟨W.mu ++ [s.heap.objs.size], W.T⟩ _ _ ⟨⟨_, rfl⟩, fun _ h => h⟩ ?_ (.ref _ _ hmu)
  have e9 : (σ.mem ++ [PO.dict []]).set σ.mem.length (.dict (dlD es [])) = σ.mem ++ [.dict (dlD es [])] := by simp
  dsimp only at R₄
  rw [e9] at R₄
  exact R₄
noncomputable def oInD : PV → PV → PS → Option (PV × PS)
  | .str k, .ref l, σ => match σ.mem[l]? with
    | some (.dict es) => some (.bool (es.lookup k).isSome, σ)
    | _ => none
  | _, _, _ => none
theorem DRel.none {W : Wd} {es : List (List Nat × PV)} {ds : List (Str × Value)} {key : List Nat} (r : DRel W es ds) (e : es.lookup key = none) : valueAt ds (mkS' key) = none := by
  induction r with
  | nil => rfl
  | @cons k v' x es ds rv _ ih =>
    rw [List.lookup_cons] at e
    by_cases hk : key = k
    · subst hk
      rw [show (key == key) = true by simp] at e
      cases e
    · rw [show (key == k) = false by simpa using hk] at e
      have := ih e
      have hne : ¬ mkS' k = mkS' key := fun q => hk (mkS'_inj q).symm
      simpa [valueAt, List.find?_cons, hne] using this
theorem DRel.isSome {W : Wd} {es : List (List Nat × PV)} {ds : List (Str × Value)} {key : List Nat} (r : DRel W es ds) : (valueAt ds (mkS' key)).isSome = (es.lookup key).isSome := by
  cases q : es.lookup key with
  | none => rw [r.none q]; rfl
  | some v => obtain ⟨z, hz, _⟩ := r.find q; rw [hz]; rfl
theorem Rel.notK {W : Wd} {σ : PS} {X : Led} {s : Shared} (R : Rel C W σ X s) (K : COk1 G C) {b : Addr} (hs : (G.K.lookup b).isSome = true) {l : Nat} {po : PO} {ad : Addr} (hx : σ.mem[l]? = some po) (ha : W.mu[l]? = some ad) : (ad == b) = false := by
  obtain ⟨o, ho⟩ := Option.isSome_iff_exists.mp hs
  have h0 := K.gd.frag b o ho
  refine Rel.exE R fun m cs ms F N nd sr mr mu => ?_
  have hm : ad ∈ ms.map (·.1) := by rw [mu]; exact List.mem_of_getElem? ha
  obtain ⟨p, hp, rfl⟩ := List.mem_map.mp hm
  have := (N p (by simp [hp])).2.2
  rw [beq_eq_false_iff_ne]
  intro q
  rw [q, h0] at this
  cases this
theorem Op2.inD (K : COk1 G C) (hs : (G.K.lookup sysModules).isSome = true) : Op2 G C (compareOp .In) oInD := by
  intro W σ X s a b x y r σ' Q E e R ra rb h
  unfold oInD at e
  split at e
  · split at e
    · rename_i k l _ es hx
      induction e using someC
      induction ra using VRel.strC with
      | str t => induction rb using VRel.refC with
        | ref ad ha =>
          refine R.getME hx ha fun o ho ro => ?_
          induction ro using ORel.dictC with
          | dict ds rd dd =>
            obtain ⟨es', ep, d1, d2, d3, d4, d5⟩ := dd
            rw [K.acp, K.acw] at d3 d4
            have hD : s.heap.DictOf (strKind G.p G.w) ad ds := ⟨o, es', ep, ho, d1, d2, d3, d4, d5⟩
            have lo : (ad == sysModules) = false := R.notK K hs hx ha
            refine wpAny_in_of (knd := strKind G.p G.w) (isStr_mk _ _) lo hD.mapOf ?_
            have e1 : (valueAt ds (mkS' k)).isSome = (es.lookup k).isSome := by
              exact rd.isSome
            have := h W (.bool (valueAt ds (mkS' k)).isSome) _ (Wd.le_refl _) (R.toks (s.toks + 1)) (by rw [e1]; exact .bool _)
            exact this
    · exact noneE e
  · exact noneE e
end
end Mine
end
section
open PySem PySem.W PyProof.Rows PySem.Calls Builtin Builtin.Str
namespace Mine
noncomputable def cMax : List PV → PS → Option (PV × PS)
  | [.int a, .int b], σ => some (.int (if b > a then b else a), σ)
  | _, _ => none
noncomputable def cJoinB : List PV → PS → Option (PV × PS)
  | [.str x, .str y], σ => if JoinOk (mkS' x) (signs (mkS' y)) = true then some (.str (Txt.join (mkS' x) (signs (mkS' y))).cps.toList, σ) else none
  | vs, σ => cJoin vs σ
noncomputable def oFdivB : PV → PV → PS → Option (PV × PS)
  | .int a, .int b, σ => if b ≠ 0 ∧ b.natAbs.log2 < 9000 then some (.int (a.fdiv b), σ) else none
  | _, _, _ => none
noncomputable def mReplC (v a b : PV) (z : Str) (σ : PS) : Option (PV × PS) := match a, b with
  | .str y, .int k => if idxOk k = true then (seqIndex? k y.length).bind fun j => y[j]?.bind fun c => mReplS v (mkS' [c]) z σ else none
  | _, _ => none
section
variable {G : Gd} {C : Cx} {V : Vw}
theorem Cl.max (K : COk1 G C) : Cl G C (.builtin "max") cMax := by
  intro W σ X s vs xs r σ' Q E e R rs h
  unfold cMax at e
  split at e
  · rename_i _ a b
    induction e using someC
    induction rs using VRels.consC with | cons r1 rs => induction rs using VRels.consC with | cons r2 rs => induction rs using VRels.nilC with | nil => induction r1 using VRel.intC with | int t => induction r2 using VRel.intC with | int u =>
      refine wpAny_with_toks R.tk (max_two_ints K.handled fun h' tk hk ht => ?_)
      have R' := (R.grown hk).toks tk ht
      by_cases hab : b > a
      · rw [if_pos hab] at h ⊢; exact h W _ _ (Wd.le_refl _) R' (.int _ _)
      · rw [if_neg hab] at h ⊢; exact h W _ _ (Wd.le_refl _) R' (.int _ _)
  · exact noneE e
theorem Cl.joinB (K : COk1 G C) : Cl G C (.builtin "str.join") cJoinB := by
  intro W σ X s vs xs r σ' Q E e R rs h
  unfold cJoinB at e
  split at e
  · rename_i _ x y
    split at e
    · rename_i hj
      induction e using someC
      induction rs using VRels.consC with | cons r1 rs => induction rs using VRels.consC with | cons r2 rs => induction rs using VRels.nilC with | nil => induction r1 using VRel.strC with | str t => induction r2 using VRel.strC with | str u =>
        refine wpAny_with_toks R.tk (SC.joinStr K.handled hj fun h' k t' hk ht => ?_)
        have := h W _ _ (Wd.le_refl _) ((R.grown hk).toks k ht) (.str (Txt.join (mkS' x) (signs (mkS' y))).cps.toList t')
        rw [mk_of] at this
        exact this
    · exact noneE e
  · exact Cl.join W σ X s _ xs r σ' Q E e R rs h
theorem Op2.fdivB : Op2 G C (binaryOp .FloorDiv) oFdivB := by
  intro W σ X s a b x y r σ' Q E e R ra rb h
  unfold oFdivB at e
  split at e
  · split at e
    · rename_i hb
      induction ra using VRel.intC; induction rb using VRel.intC; induction e using someC
      exact floordiv_int hb.1 (h W _ _ (Wd.le_refl _) (R.toks _) (.int _ _)) (hp := .inl (PyProof.noPylong_of_log2 hb.2))
    · exact noneE e
  · exact noneE e
theorem sub_str {value slice : Expr} {p : Pos} {f g : PS → Option (PV × PS)} (hv : Ev G C V value f) (hi : Ev G C V slice g) (hsl : ∀ o i, subscripted slice false o i = operate [o, i] (getItem o i))
    {W : Wd} {σ σ₁ σ₂ : PS} {X : Led} {s : Shared} {y : List Nat} {k : Int} {c j : Nat} {Q : Value → Shared → Prop} {E : Value → Shared → Prop} (e₁ : f σ = some (.str y, σ₁)) (e₂ : g σ₁ = some (.int k, σ₂)) (hk : idxOk k = true) (hj : seqIndex? k y.length = some j) (hc : y[j]? = some c) (R : Rel C W σ X s) (ok : V.ok W X)
    (h : ∀ W' u s', W.le W' → Rel C W' σ₂ X s' → 0 < u → u < s'.toks → Q (.str (mkS' [c]) u) s') : wpAny (model G.p G.w) C.A (eval (.Subscript value slice p) V.env) Q E s := by
  rw [eval_Subscript]
  refine wpAny_bind (hv W σ X s _ σ₁ _ E e₁ R ok fun W₁ o s₁ l₁ R₁ r₁ => wpAny_bind (wpAny_holding (hi W₁ σ₁ X s₁ _ σ₂ _ E e₂ R₁ (V.mono l₁ ok) fun W₂ i s₂ l₂ R₂ r₂ => wpAny_bind (wpAny_standAt ?_))))
  induction r₁ using VRel.strC with
  | str t => induction r₂ using VRel.intC with
    | int u =>
      have hT : s₂.TypeIs (.str (mkS' y) t) "str" := typeIs_str _ _ _
      refine wpAny_bind ?_
      rw [getitemInPython_of_ne hT.not_modules]
      refine wpAny_bind (wpAny_specialOf hT F.slot_str_getitem.lookup ?_)
      have hk := idxOk_le hk
      refine wpAny_pure (wpAny_bind ?_)
      rw [hsl]
      refine wpAny_operating (P.getItem_str (c := c) (by simp; omega) ?_ ?_)
      · rw [mkS'_len, hj]
        simpa [mkS'] using hc
      · exact wpAny_bind (wpAny_letTemporaryGo (wpAny_pure (h W₂ s₂.toks _ (Wd.le_trans l₁ l₂) (R₂.toks _) R₂.tk (Nat.lt_succ_self _))))
theorem Ev.replS {o vx ix : Expr} {z : Str} {k' : Nat} {ps p' ap pos : Pos} {fo f1 f2 : PS → Option (PV × PS)} {f : PS → Option (List PV × PS)} (ho : Ev G C V o fo) (hv : Ev G C V vx f1) (hi : Ev G C V ix f2) (H : Evs G C V [.Subscript vx ix ps, .Constant (.str z) k' p'] f)
    (hsl : ∀ o i, subscripted ix false o i = operate [o, i] (getItem o i) := by intro _ _; rfl)
    (hbase : attributeBase o (Str.ofString "replace") V.env (eval o V.env) = eval o V.env := by rfl) (hline : (ap.endLine == pos.line) = true := by rfl) :
    Ev G C V (.Call (.Attribute o (Str.ofString "replace") ap) [.Subscript vx ix ps, .Constant (.str z) k' p'] [] pos) (fun σ => fbf fo σ fun v σ => fbf f1 σ fun a σ => fbf f2 σ fun b σ => mReplC v a b z σ) := by
  intro W σ X s r σ' Q E q R ok h
  refine fbE q fun v σ₁ e₁ q1 => fbE q1 fun a σ₂ e₂ q2 => fbE q2 fun b σ₃ e₃ q3 => ?_
  clear q q1 q2
  refine call_meth hbase (H.alln _) rfl hline (ho W σ X s v σ₁ _ E e₁ R ok fun W₁ zv s₁ l₁ R₁ rz pl => ?_)
  unfold mReplC at q3
  split at q3
  · rename_i y k
    split at q3
    · rename_i hk
      obtain ⟨j, hj, q4⟩ := Option.bind_eq_some_iff.mp q3
      obtain ⟨c, hc, q5⟩ := Option.bind_eq_some_iff.mp q4
      clear q3 q4
      unfold mReplS at q5
      split at q5
      · rename_i x
        split at q5
        · rename_i hcc
          induction q5 using someC
          induction rz using VRel.strC with
          | str t =>
            refine getMethod_builtin (T := "str") (typeIs_str _ _ _) F.plainAttrs_str F.slot_str_replace F.type_str_replace (fun a e => nomatch e) ?_
            refine Calls.callWith_builtin (H.plain _) ?_
            have he : starEach [.Subscript vx ix ps, .Constant (.str z) k' p'] V.env = (false, eval (.Subscript vx ix ps) V.env) :: starEach [.Constant (.str z) k' p'] V.env := rfl
            rw [he]
            refine evalArgs_plain ?_
            refine wpAny_items_cons (e := .Subscript vx ix ps) (rest := [.Constant (.str z) k' p']) (sub_str hv hi hsl e₂ e₃ hk hj hc R₁ (V.mono l₁ ok) fun W₂ u s₂ l₂ R₂ hu hlt => ?_)
            refine wpAny_items_cons (e := .Constant (.str z) k' p') (rest := []) (wpAny_Constant_str (wpAny_items_nil ?_))
            refine wpAny_with_toks (n := 1) (Nat.le_trans R₂.tk (by show s₂.toks ≤ s₂.toks + 1; omega)) (SC.replaceW (Nat.ne_of_gt hu) (Nat.ne_of_gt R₂.tk) (Nat.ne_of_lt hlt) hcc.2.2 (by rw [mkS'_len]; omega) hcc.2.1 fun t' kk hkk => ?_)
            have := h W₂ _ _ (Wd.le_trans l₁ l₂) (R₂.toks kk hkk) (.str (Txt.replace (mkS' x) (mkS' [c]) z).cps.toList t')
            rw [mk_of] at this
            exact this
        · exact noneE q5
      · exact noneE q5
    · exact noneE q3
  · exact noneE q3
end
end Mine
end
section
open PySem PySem.W PyProof.Rows PySem.Calls
namespace Mine
noncomputable def fwhileC (ds : List Nat) (n0 : Nat) (t : PS → Option (Bool × PS)) (b : PS → Option (Fl × PS)) : Nat → PS → Option (Fl × PS)
  | 0, _ => none
  | n + 1, σ => fb (t σ) fun c σ₁ => match c with
    | true => fb (b σ₁) fun r σ₂ => match r with
      | .next => if (σ₂.mem.take n0).all (belowO n0) = true then fwhileC ds n0 t b n (dropS ds (cutS n0 σ₂)) else none
      | .ret v => some (.ret v, σ₂)
      | _ => none
    | false => some (.next, σ₁)
theorem X1.whileC {G : Gd} {C : Cx} {t : Expr} {b : List Stmt} {p : Pos} {ft : PS → Option (Bool × PS)} {f : PS → Option (Fl × PS)} (ds : List Nat) (n : Nat) (ht : Ts G C (fv C) t ft) (hb : Xs G C b f) : X1 G C (.While t b [] p) (fun σ => fwhileC ds σ.mem.length ft f n σ) := by
  intro W σ X s r σ' Q E e R h
  have hlen := R.len
  refine wpAny_While (codeAny_whileLoop (fun k s' => ∃ W' σ₁, W.le W' ∧ Rel C W' σ₁ X s' ∧ fwhileC ds σ.mem.length ft f k σ₁ = some (r, σ')) ?_ n ⟨W, σ, Wd.le_refl _, R, e⟩)
  rintro k s' ⟨W', σ₁, le, R', e'⟩
  induction k using natC with
  | zero => exact noneE e'
  | succ k =>
    refine fbE e' fun c σ₂ e₁ e₂ => ?_
    refine ht W' σ₁ X s' c σ₂ _ _ e₁ R' trivial fun W₂ s₂ l₂ R₂ => ?_
    induction c using boolC with
    | true =>
      refine fbE e₂ fun fl σ₃ e₃ e₄ => ?_
      refine hb W₂ σ₂ X s₂ fl σ₃ _ _ e₃ R₂ fun W₃ v s₃ l₃ R₃ fr => ?_
      have le₃ := Wd.le_trans le (Wd.le_trans l₂ l₃)
      cases fr with
      | next =>
        simp only at e₄
        split at e₄
        · rename_i hall
          rw [List.all_eq_true] at hall
          obtain ⟨⟨ex, hex⟩, hT⟩ := le₃
          refine ⟨k, Nat.lt_succ_self _, cutW σ.mem.length W₃, dropS ds (cutS σ.mem.length σ₃), ⟨⟨[], ?_⟩, hT⟩, (R₃.cut hall).drop ds, e₄⟩
          show W₃.mu.take _ = _
          rw [hex, ← hlen, List.take_left, List.append_nil]
        · exact noneE e₄
      | cont => exact noneE e₄
      | brk => exact noneE e₄
      | ret v x rv => induction e₄ using someC; exact h W₃ _ s₃ le₃ R₃ (.ret v x rv)
    | false =>
      induction e₂ using someC
      exact wpAny_execs_nil (h W₂ _ s₂ (Wd.le_trans le l₂) R₂ .next)
end Mine
end
section
open PySem PySem.W PyProof.Rows PySem.Calls Builtin
set_option maxHeartbeats 4000000
namespace Mine
structure SupK (G : Gd) (d : FnD) (cc cda : Addr) : Prop where
  ok : FnOk G d
  pn : d.pn = [("self" : Str)]
  rn : d.rn = []
  cl : d.cl = [(("__class__" : Str), cc)]
  cell : ∃ cl cld csl, G.K.lookup cc = some ⟨cl, cld, .cell (some (.ref G.acc)), csl⟩
  cdv : d.cdv = .ref cda
  code : ∃ o vs file tf, G.K.lookup cda = some o ∧ o.data = .fields vs ∧ vs[2]? = some (.str file tf) ∧ (G.p.main.file == file) = true
  par : ∃ ar, (d.params.posonlyargs ++ d.params.args).head? = some ar ∧ ar.arg = "self"
  n1 : d.scope.names.lookup ("super" : Str) = some .globalImplicit
  n2 : d.scope.names.lookup ("__class__" : Str) = some .free
  top : (G.p.main.scope.names.lookup ("super" : Str)).isSome = false
  sup : nsIn G.K mainGlobals "super" = some none
  cls : ∃ cd, clsIn G.K G.acc = some cd ∧ cd.mro = [.ref G.acc, .type "list", .type "object"]
  opq : nsIn G.K cStatics "thirdparty.any" = some none
structure SupB (G : Gd) (name : Str) (id gid T B : String) (Gb Bi : Builtin) : Prop where
  hat : (name == ("__class__" : Str)) = false
  along : alongIn G.K name [.type "list", .type "object"] = some (some (.builtin id))
  hty : typeOf (.builtin id) = pure (.type T)
  slotG : Slot T "__get__" gid
  entryG : entryFor table gid = some Gb
  argsG : ∀ a b : Value, argsOk gid ⟨[.builtin id, a, b], []⟩
  hG : ∀ x C : Addr, Gb ⟨[.builtin id, .ref x, .ref C], []⟩ = (chkI name x >>= fun _ => newFields B [.builtin id, .ref x] >>= fun v => ret v)
  hB1 : (Value.type B == .type "builtin_function_or_method" || Value.type B == .type "method-wrapper") = true
  hB : (Value.type B == .type "method" || Value.type B == .type "builtin_function_or_method" || Value.type B == .type "method-wrapper") = true
  hB2 : (Value.type B != .type "method") = true
  hp : plainId id = true
  he : entryFor table id = some Bi
theorem super_run {G : Gd} {C : Cx} {d : FnD} {cc cda : Addr} (SK : SupK G d cc cda) (AK : AccK G) {L : Addr} {g : Heap} (KF : COk1 G (cxF C d L g)) {name : Str} {id gid T B : String} {Gb Bi : Builtin} (SB : SupB G name id gid T B Gb Bi) {W : Wd} {σ : PS} {X : Led} {s : Shared} {l : Nat} {n : Int} {xs : List PV} {ad : Addr}
    (R : Rel (cxF C d L g) W σ X s) (hv : σ.vars[0]? = some (some (.ref l))) (hm : σ.mem[l]? = some (.acc n xs)) (hmu : W.mu[l]? = some ad) {p5 p6 p7 p8 : Pos} (hform : MForm (.Call (.Name "super" p5) [] [] p6) name p7 p8) {Q : Value → Shared → Prop} {E : Value → Shared → Prop}
    (hchk : ∀ {s' : Shared} {Q' : Unit → Shared → Prop} {E' : Value → Shared → Prop} {A' : Around}, Rel (cxF C d L g) W σ X s' → Q' () s' → wpAny (model G.p G.w) A' (checkBoundCall id ⟨[.ref ad], []⟩) Q' E' s')
    (hrun : ∀ s', Rel (cxF C d L g) W σ X s' → wpAny (model G.p G.w) (cxF C d L g).A.in1 (Bi ⟨[.ref ad], []⟩) (fun fin s'' => ∃ v, fin = .done (.ret v) ∧ Q v s'') E s') :
    _root_.PySem.wpAt (model G.p G.w) (cxF C d L g).A (.func d.body (d.env L)) (eval (.Call (.Attribute (.Call (.Name "super" p5) [] [] p6) name p7) [] [] p8) (d.env L)) Q E s := by
  obtain ⟨pl, hform⟩ := hform
  have hnm : (cxF C d L g).nm = [(("self" : Str), false)] := by
    show d.nm = _
    unfold FnD.nm
    rw [SK.pn, SK.rn]; rfl
  obtain ⟨cd, hc, hmro⟩ := SK.cls
  have X₂ : G.K.In s.heap := KF.gd.frag.keeps fun _ _ => R.keep
  refine accE KF R hm hmu fun vs e₀ dx t₀ u₀ hx rvs hdx I => ?_
  obtain ⟨hp, gg, dr, tk, os⟩ := s
  obtain ⟨fo, hfo, hfd, _⟩ := KF.gd.fn d SK.ok.obj
  obtain ⟨ar, har, harn⟩ := SK.par
  obtain ⟨oc, vs', file, tf, hoc, hvs, hv2, hfile⟩ := SK.code
  obtain ⟨ccl, cld, csl, hcell⟩ := SK.cell
  obtain ⟨oD, hD1, hD2⟩ : ∃ oD, hp.get? G.acc = some oD ∧ oD.data = .cls cd := by
    unfold clsIn at hc
    split at hc
    · rename_i c d' cd' sl ho
      cases hc
      exact ⟨_, X₂ _ _ ho, rfl⟩
    · cases hc
  refine ks_wpAt_MethodCall (pl := pl) (ks_wpAt_super_base (env := d.env L) SK.n1 SK.n2 SB.hat rfl (R.keep hfo) hfd har SK.cdv (X₂ _ _ hoc) hvs hv2 hfile SK.top ?_) (hform _)
  refine ks_loadName_global KF.kind SK.n1 (loadGlobal_builtin (env := d.env L) (KF.gd.g.keeps fun _ _ => R.keep) (mg_none_of KF.gd.frag KF.gd.g SK.sup) (KF.gd.b.keeps fun _ _ => R.keep) ((KF.gd.bi _ (by decide)).trans (show bootBuiltins "super" = some (.type "super") by kernel_rfl)) ⟨rfl, ?_⟩)
  refine wpAny_loadName_free KF.kind SK.n2 (show d.cl.lookup _ = _ by rw [SK.cl]; rfl) ⟨_, X₂ _ _ hcell, rfl⟩ ?_
  rw [harn]
  refine ld_var (i := 0) KF.toCOk (by rw [hnm]; rfl) R hv fun z rz => ?_
  induction rz using VRel.refC with
  | ref ad' hmu' =>
    have : ad' = ad := Option.some.inj (hmu'.symm.trans hmu)
    subst this
    refine ks_wpAny_isType_cls hD1 hD2 ⟨rfl, ?_⟩
    have hsub : mroIn G.K G.acc (.ref G.acc) = some true := by unfold mroIn; rw [hc, Option.bind_some, hmro]; simp
    refine ks_wpAny_call_super hD1 hD2 hx rfl (fun c e => by cases e) (looks_mroIn X₂ hsub) fun h₄ hso k₄ => ?_
    have R₄ := R.grown k₄
    have X₄ : G.K.In h₄ := KF.gd.frag.keeps fun _ _ => R₄.keep
    have hx₄ := k₄ _ _ hx
    have hxC : ad' ≠ G.acc := fun q => by rw [q, hD1] at hx; cases hx; cases hD2
    refine super_method (l₀ := cd.mro) (l := [.type "list", .type "object"]) hso (looks_opaque X₄ SK.opq) ((looks_clsIn X₄ hc).andThen .now) (by rw [hmro]; simp) X₄ SB.along SB.hty SB.slotG SB.entryG (SB.argsG _ _) (SB.hG ad' G.acc) (chkI_ok ?_) hxC SB.hat ?_
    · exact (show Looks (model G.p G.w) h₄ (typeOf (.ref ad')) (.ref G.acc) from (Looks.ld hx₄).andThen .now).andThen (looks_mroIn X₄ AK.list)
    · have R₅ := (R₄.allocX (o := { cls := .type B, data := .fields #[.builtin id, .ref ad'] }) rfl).toks (tk + 1)
      dsimp only at R₅ ⊢
      generalize h₄.objs.size = q at R₅ ⊢
      generalize hs₅ : ({ heap := h₄.push { cls := .type B, data := .fields #[.builtin id, .ref ad'] }, gens := gg, drawn := dr, toks := tk + 1, os := os } : Shared) = s₅ at R₅ ⊢
      have hq : s₅.heap.get? q = some { cls := .type B, dict := none, data := .fields #[.builtin id, .ref ad'], slots := #[] } := R₅.getX (.head _)
      refine callWith_of (P := fun h => h.get? q = some { cls := .type B, dict := none, data := .fields #[.builtin id, .ref ad'], slots := #[] }) rfl (keepsP SB.hB1 SB.hB2) (evalArgs_nil3 ⟨hq, ?_⟩)
      exact call_bound hq SB.hB SB.hB2 SB.hp (fun {Q' E' A'} q' => hchk R₅.dropX q') SB.he (hrun s₅ R₅.dropX)
end Mine
end
section
open PySem PySem.W PyProof.Rows PySem.Calls Builtin
set_option maxHeartbeats 4000000
namespace Mine
theorem ll_type : typeOf (.builtin "list.__len__") = pure (.type "wrapper_descriptor") := by show builtinType _ = _; rw [builtinType_eq_fast]; kernel_rfl
theorem lp_type : typeOf (.builtin "list.pop") = pure (.type "method_descriptor") := by show builtinType _ = _; rw [builtinType_eq_fast]; kernel_rfl
theorem md_slot : Slot "method_descriptor" "__get__" "method_descriptor.__get__" :=
  .of (owner := "method_descriptor") (n := "__get__") (by rw [typeLookup_type, builtinLookup_eq_fast]; kernel_rfl) (by decide +kernel) (by decide +kernel) (by decide +kernel)
    (by first | exact .inl (by decide +kernel) | exact .inr (by decide +kernel)) (by rw [isSubtype_type]; kernel_rfl)
theorem md_entry : entryFor table "method_descriptor.__get__" = some Builtin.«method_descriptor.__get__» := entryFor_of_tree (by kernel_rfl)
theorem md_args (a b c : Value) : argsOk "method_descriptor.__get__" ⟨[a, b, c], []⟩ := by unfold argsOk; kernel_rfl
theorem ll_get (x C : Addr) : Builtin.«wrapper_descriptor.__get__» ⟨[.builtin "list.__len__", .ref x, .ref C], []⟩ = (chkI "__len__" x >>= fun _ => newFields "method-wrapper" [.builtin "list.__len__", .ref x] >>= fun v => ret v) := by kernel_rfl
theorem lp_get (x C : Addr) : Builtin.«method_descriptor.__get__» ⟨[.builtin "list.pop", .ref x, .ref C], []⟩ = (chkI "pop" x >>= fun _ => newFields "builtin_function_or_method" [.builtin "list.pop", .ref x] >>= fun v => ret v) := by kernel_rfl
theorem sbLen {G : Gd} (h : alongIn G.K "__len__" [.type "list", .type "object"] = some (some (.builtin "list.__len__"))) : SupB G "__len__" "list.__len__" "wrapper_descriptor.__get__" "wrapper_descriptor" "method-wrapper" Builtin.«wrapper_descriptor.__get__» Builtin.«list.__len__» where
  hat := by decide
  along := h
  hty := ll_type
  slotG := wd_slot
  entryG := wd_entry
  argsG := fun _ _ => wd_args _ _ _
  hG := ll_get
  hB1 := by decide
  hB := by decide
  hB2 := by decide
  hp := by decide +kernel
  he := F.entry_list_len
theorem sbPop {G : Gd} (h : alongIn G.K "pop" [.type "list", .type "object"] = some (some (.builtin "list.pop"))) : SupB G "pop" "list.pop" "method_descriptor.__get__" "method_descriptor" "builtin_function_or_method" Builtin.«method_descriptor.__get__» Builtin.«list.pop» where
  hat := by decide
  along := h
  hty := lp_type
  slotG := md_slot
  entryG := md_entry
  argsG := fun _ _ => md_args _ _ _
  hG := lp_get
  hB1 := by decide
  hB := by decide
  hB2 := by decide
  hp := by decide +kernel
  he := F.entry_list_pop
theorem ll_kind : builtinKind "list.__len__" = some .slot := by decide +kernel
theorem ll_chk {prog : Program} {w : World} {A : Around} {E : Value → Shared → Prop} {s : Shared} {x : Value} {Q : Unit → Shared → Prop} (q : Q () s) : wpAny (model prog w) A (checkBoundCall "list.__len__" ⟨[x], []⟩) Q E s := by
  have ha : argsOk "list.__len__" ⟨[x], []⟩ := by unfold argsOk; kernel_rfl
  unfold checkBoundCall
  cases hsig : Manifest.signature? "list.__len__" with
  | none => exact wpAny_pure q
  | some sig =>
    simp only [argsOk, hsig] at ha
    rw [ll_kind]
    dsimp only
    rw [if_pos (by decide)]
    have h2 : Bind.checkArgs "list.__len__" sig ⟨[x], []⟩ = pure () := ha
    rw [h2]; exact wpAny_pure q
theorem lp_kind : builtinKind "list.pop" = some .method := by decide +kernel
theorem isInst_no {prog : Program} {w : World} {A : Around} {E : Value → Shared → Prop} {s : Shared} {KK : Frag} {x c : Addr} {ox : Obj} {od : Option Obj} {U : String} {Q : Bool → Shared → Prop} (X : KK.In s.heap) (I : InstAt s.heap x ox c od) (hm : mroIn KK c (.type U) = some false) (hQ : Q false s) : wpAny (model prog w) A (isInstance (.ref x) (.type U)) Q E s := by
  simp only [isInstance]
  exact wpAny_bind (I.type.here ((looks_mroIn X hm).here hQ))
theorem lp_chk {prog : Program} {w : World} {A : Around} {E : Value → Shared → Prop} {s : Shared} {K : Frag} {x c : Addr} {ox : Obj} {od : Option Obj} {cd : ClassData} {Q : Unit → Shared → Prop} (X : K.In s.heap) (I : InstAt s.heap x ox c od) (hd : ∀ c, ox.data ≠ .cls c) (hm : mroIn K c (.type "module") = some false)
    (hc : clsIn K c = some cd) (ht : typeIn K (.ref c) = some (.type "type"))
    (hchk : (match Manifest.signature? "list.pop" with | some sig => Bind.checkArgs "list.pop" { sig with full := s!"{cd.qualname.toString}.{Bind.lastOf "list.pop"}" } ⟨[.ref x], []⟩ | none => pure ()) = pure ()) (q : Q () s) : wpAny (model prog w) A (checkBoundCall "list.pop" ⟨[.ref x], []⟩) Q E s := by
  unfold checkBoundCall
  cases hsig : Manifest.signature? "list.pop" with
  | none => exact wpAny_pure q
  | some sig =>
    rw [hsig] at hchk
    dsimp only at hchk
    rw [lp_kind]
    dsimp only
    rw [if_neg (by decide)]
    refine wpAny_bind (isInst_no X I hm ?_)
    rw [if_neg (by decide +kernel)]
    obtain ⟨hp, gg, dr, tk, os⟩ := s
    refine wpAny_bind (m := isType (.ref x)) (ks_wpAny_isType_inst I.at_ hd ?_)
    rw [if_neg (by decide)]
    refine wpAny_bind (I.type.here ?_)
    dsimp only
    refine wpAny_bind ((looks_clsIn X hc).here ?_)
    refine wpAny_bind ((looks_typeIn X ht).here ?_)
    rw [if_pos (by decide)]
    rw [hchk]
    exact wpAny_pure q
end Mine
end
section
open PySem PySem.W PyProof.Rows PySem.Calls Builtin
set_option maxHeartbeats 4000000
namespace Mine
theorem ll_run {prog : Program} {w : World} {A : Around} {E : Value → Shared → Prop} {s : Shared} {x dx c : Addr} {vs : List Value} {e : Nat} {Q : PySem.Fin → Shared → Prop} (hx : s.heap.get? x = some (accO c dx vs e))
    (h : Q (.done (.ret (.int (vs.length : Nat) s.toks))) { s with toks := s.toks + 1 }) : wpAny (model prog w) A (Builtin.«list.__len__» ⟨[.ref x], []⟩) Q E s := by
  show wpAny _ A (do retInt (← seqSize x)) _ _ s
  unfold seqSize
  refine wpAny_bind (wpAny_bind (wpAny_loadPart hx ?_))
  refine wpAny_pure ?_
  rw [List.size_toArray]
  exact wpAny_bind (wpAny_mkInt (wpAny_pure h))
theorem lp_run {prog : Program} {w : World} {A : Around} {E : Value → Shared → Prop} {s : Shared} {x dx c : Addr} {vs : List Value} {e : Nat} {y : Value} {Q : PySem.Fin → Shared → Prop} (hx : s.heap.get? x = some (accO c dx vs e)) (hy : vs.getLast? = some y) (hl : vs.length ≤ 4096)
    (h : ∀ h' e', Heap.SameBut x s.heap h' → h'.get? x = some (accO c dx vs.dropLast e') → Q (.done (.ret y)) { s with heap := h' }) : wpAny (model prog w) A (Builtin.«list.pop» ⟨[.ref x], []⟩) Q E s := by
  have hpos : 0 < vs.length := by
    cases vs with
    | nil => cases hy
    | cons _ _ => simp
  have hne : vs.toArray.isEmpty = false := by
    cases vs with
    | nil => cases hy
    | cons _ _ => rfl
  have hk : seqIndex? (-1) vs.toArray.size = some (vs.length - 1) := by
    rw [List.size_toArray, seqIndex_neg (by omega) (by omega)]; congr 1; omega
  have hg : vs.toArray[vs.length - 1]? = some y := by
    rw [List.getElem?_toArray, ← hy, List.getLast?_eq_getElem?]
  show wpAny _ A (do
    let xs ← Builtin.List.listItems (.ref x)
    if xs.isEmpty then rule "list.pop.empty"; raiseError "IndexError" "pop from empty list"
    match (seqIndex? (-1) xs.size).bind fun k => xs[k]?.map (k, ·) with
    | some (k, y) => Builtin.List.listUpdate (.ref x) (·.eraseIdxIfInBounds k); ret y
    | none => rule "list.pop.out-of-range"; raiseError "IndexError" "pop index out of range") _ _ s
  refine wpAny_bind (m := Builtin.List.listItems (.ref x)) ?_
  unfold Builtin.List.listItems
  refine wpAny_bind (wpAny_seqItems hx rfl (wpAny_pure ?_))
  simp only [hne, hk, hg, Bool.false_eq_true, if_false, Option.bind_some, Option.map_some, pure_bind]
  obtain ⟨e', hms⟩ := mapSeq_acc (c := c) (dx := dx) (vs := vs) (e := e) (f := (·.eraseIdxIfInBounds (vs.length - 1)))
  have herase : (vs.toArray.eraseIdxIfInBounds (vs.length - 1)).toList = vs.dropLast := by
    rw [Array.eraseIdxIfInBounds, dif_pos (by rw [List.size_toArray]; omega)]
    simp [List.eraseIdx_eq_take_drop_succ, List.dropLast_eq_take]
    omega
  have hsz : vs.toArray.size ≤ sizeLine := by rw [List.size_toArray]; exact Nat.le_trans hl size4096
  refine wpAny_bind (m := updateSeq x (·.eraseIdxIfInBounds (vs.length - 1))) (wpAny_updateSeq hx rfl (hz := hsz) (_hz' := ?_) (wpAny_pure (h _ e' (Heap.SameBut.update ..) ?_)))
  · rw [Heap.get?_update_self _ hx (by rw [hms]; rfl), hms, herase]
  · have : (vs.toArray.eraseIdxIfInBounds (vs.length - 1)).size = vs.dropLast.length := by rw [← herase]; rfl
    rw [this, List.length_dropLast]
    have := size4096
    omega
noncomputable def cPc : List PV → PS → Option (PV × PS)
  | [.ref l], σ => match σ.mem[l]? with
    | some (.acc _ xs) => if xs.length ≤ 4096 then some (.int (xs.length : Nat), σ) else none
    | _ => none
  | _, _ => none
noncomputable def cPop : List PV → PS → Option (PV × PS)
  | [.ref l], σ => match σ.mem[l]? with
    | some (.acc n xs) => if xs.length ≤ 4096 then match xs.getLast? with
        | some v => some (v, ⟨σ.vars, σ.mem.set l (.acc n xs.dropLast)⟩)
        | none => some (.tup [.str [], .str []], σ)
      else none
    | _ => none
  | _, _ => none
theorem VRels.last {W : Wd} {vs : List PV} {xs : List Value} (r : VRels W vs xs) {v : PV} (e : vs.getLast? = some v) : ∃ x, xs.getLast? = some x ∧ VRel W v x := by
  rw [List.getLast?_eq_getElem?] at e
  obtain ⟨x, h1, h2⟩ := r.get e
  refine ⟨x, ?_, h2⟩
  rw [List.getLast?_eq_getElem?, ← r.length]; exact h1
theorem VRels.dropLast {W : Wd} {vs : List PV} {xs : List Value} (r : VRels W vs xs) : VRels W vs.dropLast xs.dropLast := by
  rw [List.dropLast_eq_take, List.dropLast_eq_take, ← r.length]
  exact r.take
section
variable {G : Gd} {C : Cx}
theorem Cl.partCount {d : FnD} {cc cda : Addr} (K : COk1 G C) (AK : AccK G) (SK : SupK G d cc cda) (hlv : 0 < C.lv) {p5 p6 p7 p8 p9 : Pos} (hbody : d.body = [.Return (some (.Call (.Attribute (.Call (.Name "super" p5) [] [] p6) "__len__" p7) [] [] p8)) p9]) (hform : MForm (.Call (.Name "super" p5) [] [] p6) "__len__" p7 p8)
    (hal : alongIn G.K "__len__" [.type "list", .type "object"] = some (some (.builtin "list.__len__"))) : Cl G C (.ref d.f) cPc := by
  intro W σ X s vs xs r σ' Q E e R rs h
  unfold cPc at e
  split at e
  · rename_i _ l
    split at e
    · rename_i n ps hm
      split at e
      · rename_i hl
        induction e using someC
        induction rs using VRels.consC with | cons r1 rs => induction rs using VRels.nilC with | nil => induction r1 using VRel.refC with | ref ad ha =>
          refine wpAny_call (code_fnAt (Q := Q) (E := E) K SK.ok hlv (vs := [.ref l]) (by rw [SK.pn]; rfl) R (.cons (.ref l ad ha) .nil) fun cs L g s₁ KF R₁ E' => ?_)
          rw [SK.rn] at R₁
          rw [hbody]
          refine ks_wpAt_execs_cons (ks_wpAt_Return_some ?_)
          have := super_run (Q := fun v s' => ∃ W' σ₁ X' v' y, W.le W' ∧ Rel (cxF C d L g) W' σ₁ (cs ++ X') s' ∧ VRel W' v' y ∧ (Flow.ret v = .ret y ∨ (Flow.ret v = .next ∧ y = .none)) ∧ ∀ s'', Rel C W' ⟨σ.vars, σ₁.mem⟩ X' s'' → Q y s'') (E := E') SK AK KF (sbLen hal) (p5 := p5) (p6 := p6) (p7 := p7) (p8 := p8) R₁ rfl hm ha hform (fun {s' Q' E'' A'} R' q => ll_chk q) (fun s' R' => ?_)
          · rw [hbody] at this; exact this
          · refine accE KF R' hm ha fun vs e₀ dx t₀ u₀ hx rvs hdx I => ?_
            refine ll_run hx ⟨_, rfl, W, _, X, .int (ps.length : Nat), _, Wd.le_refl _, R'.toks _, ?_, .inl rfl, fun s'' R'' => h W _ s'' (Wd.le_refl _) R'' ?_⟩
            · rw [rvs.length]; exact .int _ _
            · rw [rvs.length]; exact .int _ _
      · exact noneE e
    · exact noneE e
  · exact noneE e
noncomputable def PcTest (f : PS → Option (Bool × PS)) : Prop := ∀ l n xs σ, σ.vars[0]? = some (some (.ref l)) → σ.mem[l]? = some (.acc n xs) → xs.length ≤ 4096 → f σ = some (xs.length == 0, σ)
theorem Cl.pop {d : FnD} {cc cda : Addr} (K : COk1 G C) (AK : AccK G) (SK : SupK G d cc cda) (hlv : 0 < C.lv) {t : Expr} {p5 p6 p7 p8 p9 q1 q2 q3 q4 q5 : Pos} {k1 k2 k3 : Nat} {x1 x2 : Str} {rt : Expr}
    (hbody : d.body = [.If t [.Return (some rt) q4] [] q5, .Return (some (.Call (.Attribute (.Call (.Name "super" p5) [] [] p6) "pop" p7) [] [] p8)) p9]) (hform : MForm (.Call (.Name "super" p5) [] [] p6) "pop" p7 p8)
    (hrt : rt = .Tuple [.Constant (.str x1) k1 q1, .Constant (.str x2) k2 q2] k3 q3) (hx1 : x1 = mkS' []) (hx2 : x2 = mkS' [])
    (hal : alongIn G.K "pop" [.type "list", .type "object"] = some (some (.builtin "list.pop"))) (hmod : mroIn G.K G.acc (.type "module") = some false) (hty : typeIn G.K (.ref G.acc) = some (.type "type"))
    (hchk : ∀ cd, clsIn G.K G.acc = some cd → ∀ x : Addr, (match Manifest.signature? "list.pop" with | some sig => Bind.checkArgs "list.pop" { sig with full := s!"{cd.qualname.toString}.{Bind.lastOf "list.pop"}" } ⟨[.ref x], []⟩ | none => pure ()) = pure ())
    {ft : PS → Option (Bool × PS)} (hft : PcTest ft) (ht : ∀ L g, COk1 G (cxF C d L g) → Ts G (cxF C d L g) (fv (cxF C d L g)) t ft) : Cl G C (.ref d.f) cPop := by
  intro W σ X s vs xs r σ' Q E e R rs h
  unfold cPop at e
  split at e
  · rename_i _ l
    split at e
    · rename_i n ps hm
      split at e
      · rename_i hl
        induction rs using VRels.consC with | cons r1 rs => induction rs using VRels.nilC with | nil => induction r1 using VRel.refC with | ref ad ha =>
          refine wpAny_call (code_fnAt (Q := Q) (E := E) K SK.ok hlv (vs := [.ref l]) (by rw [SK.pn]; rfl) R (.cons (.ref l ad ha) .nil) fun cs L g s₁ KF R₁ E' => ?_)
          rw [SK.rn] at R₁
          have hte := hft l n ps ⟨[.ref l].map some ++ ([] : List Str).map fun _ => none, σ.mem⟩ rfl hm hl
          rw [hbody]
          refine ks_wpAt_execs_cons (ks_wpAt_If (wpAt_of_wpAny (ht L g KF W _ (cs ++ X) s₁ _ _ _ E' hte R₁ trivial fun W₁ s₂ l₁ R₂ => ?_)))
          split at e
          · rename_i v hv
            induction e using someC
            have hne : (ps.length == 0) = false := by
              cases ps with
              | nil => cases hv
              | cons _ _ => rfl
            rw [hne, if_neg Bool.false_ne_true]
            refine wpAt_of_wpAny (wpAny_execs_nil ?_)
            dsimp only
            refine ks_wpAt_execs_cons (ks_wpAt_Return_some ?_)
            have ha₁ := mu_mono l₁ ha
            have := super_run (Q := fun v' s' => ∃ W' σ₁ X' v'' y, W.le W' ∧ Rel (cxF C d L g) W' σ₁ (cs ++ X') s' ∧ VRel W' v'' y ∧ (Flow.ret v' = .ret y ∨ (Flow.ret v' = .next ∧ y = .none)) ∧ ∀ s'', Rel C W' ⟨σ.vars, σ₁.mem⟩ X' s'' → Q y s'') (E := E') SK AK KF (sbPop hal) (p5 := p5) (p6 := p6) (p7 := p7) (p8 := p8) R₂ rfl hm ha₁ hform (fun {s' Q' E'' A'} R' q => ?_) (fun s' R' => ?_)
            · rw [hbody] at this; exact this
            · refine accE KF R' hm ha₁ fun vs e₀ dx t₀ u₀ hx rvs hdx I => ?_
              obtain ⟨cd, hc, _⟩ := SK.cls
              exact lp_chk (KF.gd.frag.keeps fun _ _ => R'.keep) I (fun c e => by cases e) hmod hc hty (hchk cd hc ad) q
            · refine accE KF R' hm ha₁ fun vs e₀ dx t₀ u₀ hx rvs hdx I => ?_
              obtain ⟨y, hy, ry⟩ := rvs.last hv
              refine lp_run hx hy (by rw [← rvs.length]; exact hl) fun h' e' hs hg => ⟨_, rfl, W₁, _, X, _, y, l₁, R'.setM (po' := .acc n ps.dropLast) hm ha₁ hs hg ?_, ry, .inl rfl, fun s'' R'' => h W₁ y s'' l₁ R'' ry⟩
              rw [show G.acc = (cxF C d L g).ac.C from KF.acC.symm]
              exact .acc n _ _ e' dx t₀ u₀ rvs.dropLast (KF.acP ▸ hdx)
          · rename_i hv
            induction e using someC
            have hnil : ps = [] := List.getLast?_eq_none_iff.mp hv
            subst hnil
            rw [show (([] : List PV).length == 0) = true from rfl, if_pos rfl]
            subst hrt
            have ev : Ev G (cxF C d L g) (fv (cxF C d L g)) (.Tuple [.Constant (.str x1) k1 q1, .Constant (.str x2) k2 q2] k3 q3) _ := Ev.tup (.cons (Ev.str [] hx1) (.cons (Ev.str [] hx2) .nil rfl) rfl)
            refine ks_wpAt_execs_cons (ks_wpAt_Return_some (wpAt_of_wpAny (ev W₁ _ (cs ++ X) s₂ (.tup [.str [], .str []]) ⟨[.ref l].map some ++ ([] : List Str).map fun _ => none, σ.mem⟩ _ E' rfl R₂ trivial fun W₂ z s₃ l₂ R₃ rz => ?_)))
            exact ⟨W₂, _, X, _, z, Wd.le_trans l₁ l₂, R₃, rz, .inl rfl, fun s'' R'' => h W₂ z s'' (Wd.le_trans l₁ l₂) R'' rz⟩
      · exact noneE e
    · exact noneE e
  · exact noneE e
end
end Mine
end
section
open PySem PySem.W PyProof.Rows PySem.Calls
namespace Mine
structure FnOkC (G : Gd) (d : FnD) (x : Str) : Prop where
  obj : d ∈ G.fns
  pn : d.pn = [x]
  rn : d.rn = []
  cl : d.cl = []
  kx : d.scope.names.lookup x = some .cell
  cells : ∀ n, cellsFrom n d.scope.names [] = [(x, n)]
  co : d.scope.isCoroutine = false
  gen : d.scope.isGenerator = false
  kind : d.scope.kind = .function
  bind : ∀ s v, G.K.In s.heap → BindsTo s d.fd ⟨[v], []⟩ [(x, v)]
@[reducible] noncomputable def cxC (C : Cx) (d : FnD) (x : Str) (L : Addr) (g : Heap) : Cx :=
  { A := C.A.deeper (envOfC d.qual d.scope L d.f d.cdv), A₀ := C.A, base := C.base, outer := C.fenv :: C.outer, h₀ := g, L := L, fenv := envOfC d.qual d.scope L d.f d.cdv, nm := [(x, true)], ac := C.ac, os := C.os, lv := C.lv - 1 }
theorem cxC_ok {G : Gd} {C : Cx} {d : FnD} {x : Str} (K : COk1 G C) (D : FnOkC G d x) {L : Addr} {g : Heap} (B : Below C.A C.base (C.fenv :: C.outer) g) (st : C.h₀.StaysIn g) (hlv : 0 < C.lv) : COk1 G (cxC C d x L g) where
  below := B
  frames := Around.frames_deeper K.frames
  frame := rfl
  kind := D.kind
  handled := K.handled
  nm := by
    show ([(x, true)].map (·.1)).Nodup
    simp
  globals := rfl
  builtins := rfl
  locals := rfl
  gd := K.gd.keeps st
  cells := by
    intro y b hm
    have hm' : (y, b) ∈ [(x, true)] := hm
    simp only [List.mem_cons, Prod.mk.injEq, List.not_mem_nil, or_false] at hm'
    obtain ⟨rfl, rfl⟩ := hm'
    exact D.kx
  room := by
    have := K.room
    show C.A.depth + 1 + (C.lv - 1) < _
    omega
  inj := by
    intro y z c h1 h2
    have e : (cxC C d x L g).fenv.cells = [(x, L + 1)] := D.cells _
    rw [e] at h1 h2
    have key : ∀ u, List.lookup u [(x, L + 1)] = some c → u = x := fun u h => by
      rw [List.lookup_cons] at h
      split at h
      · rename_i q; simpa using q
      · cases h
    rw [key _ h1, key _ h2]
  acp := K.acp
  acC := K.acC
  acP := K.acP
  acw := K.acw
  units := by
    have := K.units
    show C.A.units + 3 + 3 * (C.lv - 1) + 8 < _
    omega
theorem relC {G : Gd} {C : Cx} {d : FnD} {x : Str} (D : FnOkC G d x) {W : Wd} {σ : PS} {X : Led} {s : Shared} {v : PV} {y : Value} {m : Str → Option Value} {cs ms : Led} {g h₁ : Heap} {tk : Nat} {o : Obj} (R : Rel C W σ X s) (N : News C.h₀ C.L s.heap (cs ++ (ms ++ (W.T ++ X)))) (nd : ((cs ++ (ms ++ (W.T ++ X))).map (·.1)).Nodup)
    (mr : MRel C.ac W σ.mem ms) (mu : ms.map (·.1) = W.mu) (hg : hideAll s.heap ((cs ++ (ms ++ (W.T ++ X))).map (·.1)) = g) (F' : Fr g s.heap.objs.size h₁ m) (NC : News g s.heap.objs.size h₁ [(s.heap.objs.size + 1, o)]) (hk₁ : s.heap.StaysIn h₁) (ho : o.data = .cell (some y)) (r1 : VRel W v y) (ht : 0 < tk) :
    Rel (cxC C d x s.heap.objs.size g) W ⟨[some v], σ.mem⟩ (cs ++ X) { s with heap := h₁, toks := tk } := by
  have hLs : ∀ p ∈ cs ++ (ms ++ (W.T ++ X)), p.1 < s.heap.objs.size := fun p hp => Heap.lt_size (N p hp).1
  have hpm : (ms ++ (W.T ++ (cs ++ X))).Perm (cs ++ (ms ++ (W.T ++ X))) := by
    refine (List.perm_append_comm_assoc ms W.T (cs ++ X)).trans ?_
    refine (List.Perm.append_left _ (List.perm_append_comm_assoc ms cs X)).trans ?_
    refine (List.perm_append_comm_assoc W.T cs (ms ++ X)).trans ?_
    exact List.Perm.append_left _ (List.perm_append_comm_assoc W.T ms X)
  refine ⟨⟨m, [(s.heap.objs.size + 1, o)], ms, F', fun p hp => ?_, ?_, ?_, mr, mu⟩, R.bare, R.os, ht⟩
  · rcases List.mem_append.mp hp with hp' | hp'
    · exact NC p hp'
    · have hp' := hpm.mem_iff.mp hp'
      exact ⟨hk₁ _ _ (N p hp').1, Nat.ne_of_lt (hLs p hp'), by rw [← hg]; exact hideAll_none _ (List.mem_map_of_mem hp')⟩
  · rw [List.cons_append, List.nil_append, List.map_cons, List.nodup_cons]
    refine ⟨fun hm => ?_, (hpm.map _).nodup_iff.mpr nd⟩
    obtain ⟨p, hp, hpe⟩ := List.mem_map.mp hm
    have := hLs p (hpm.mem_iff.mp hp)
    rw [hpe] at this
    exact absurd this (Nat.not_lt.mpr (Nat.le_succ _))
  · refine .cel (c := s.heap.objs.size + 1) (o := o) (ov := some y) ?_ (.head _) ho (fun pv e => by induction e using some1C; exact ⟨y, rfl, r1⟩) .nil
    show (cellsFrom (s.heap.objs.size + 1) d.scope.names []).lookup x = _
    rw [D.cells]; simp
theorem backC {C : Cx} {d : FnD} {x : Str} {W W' : Wd} {σ σ₁ : PS} {X : Led} {s' : Shared} {m : Str → Option Value} {cs : Led} {g : Heap} {L : Nat} {Q : Value → Shared → Prop} {E : Value → Shared → Prop} {y : Value} (sr : SRel W C.fenv.cells m cs C.nm σ.vars) (le : W.le W') (R' : Rel (cxC C d x L g) W' σ₁ (cs ++ X) s') (hQ : ∀ s'', Rel C W' ⟨σ.vars, σ₁.mem⟩ X s'' → Q y s'') :
    LeaveK C.h₀ C.L m g (fun r s' => match r with | .ok (.ret v) => Q v s' | .ok _ => False | .error e => E e s') y s' := by
  refine Rel.exE R' fun m' cs' ms' F₂ N₂ nd₂ sr₂ mr₂ mu₂ => ?_
  refine leaveK_ F₂ N₂ fun FC NC => ?_
  refine hQ s' ⟨⟨m, cs, ms', FC, ?_, ?_, sr.mono le, mr₂, mu₂⟩, R'.bare, R'.os, R'.tk⟩
  · intro p hp
    refine NC p ?_
    simp only [List.mem_append] at hp ⊢
    rcases hp with h | h | h | h
    · exact .inr (.inr (.inr (.inl h)))
    · exact .inr (.inl h)
    · exact .inr (.inr (.inl h))
    · exact .inr (.inr (.inr (.inr h)))
  · have nd₃ : ((ms' ++ (W'.T ++ (cs ++ X))).map (·.1)).Nodup := by
      rw [List.map_append] at nd₂
      exact (List.nodup_append.mp nd₂).2.1
    refine (List.Perm.map _ ?_).nodup_iff.mp nd₃
    refine (List.perm_append_comm_assoc ms' W'.T (cs ++ X)).trans ?_
    refine (List.Perm.append_left _ (List.perm_append_comm_assoc ms' cs X)).trans ?_
    refine (List.perm_append_comm_assoc W'.T cs (ms' ++ X)).trans ?_
    exact List.Perm.append_left _ (List.perm_append_comm_assoc W'.T ms' X)
theorem cell_one {d : FnD} {G : Gd} {x : Str} (D : FnOkC G d x) (L : Nat) {y : Value} (o : Obj) (h2 : o.data = .cell (bindC (envOfC d.qual d.scope L d.f d.cdv).kindOf [(x, y)] (fun _ => none) x)) : o.data = .cell (some y) := by
  have hkx : (envOfC d.qual d.scope L d.f d.cdv).kindOf x = some .cell := D.kx
  refine h2.trans ?_
  simp [bindC, hkx]
theorem code_fnC {G : Gd} {C : Cx} {d : FnD} {x : Str} (K : COk1 G C) (D : FnOkC G d x) (hlv : 0 < C.lv) {W : Wd} {σ : PS} {X : Led} {s : Shared} {v : PV} {y : Value} {Q : Value → Shared → Prop} {E : Value → Shared → Prop} (R : Rel C W σ X s) (r1 : VRel W v y)
    (hb : ∀ cs L g s₁, COk1 G (cxC C d x L g) → Rel (cxC C d x L g) W ⟨[some v], σ.mem⟩ (cs ++ X) s₁ → ∀ E', wpAny (model G.p G.w) (cxC C d x L g).A (execs d.body (cxC C d x L g).fenv) (fun fl s' => ∃ W' σ₁ y, W.le W' ∧ Rel (cxC C d x L g) W' σ₁ (cs ++ X) s' ∧ (fl = .ret y ∨ (fl = .next ∧ y = .none)) ∧
      ∀ s'', Rel C W' ⟨σ.vars, σ₁.mem⟩ X s'' → Q y s'') E' s₁) :
    codeAny (model G.p G.w) C.A (.call (.ref d.f) ⟨[y], []⟩) (fun r s' => match r with | .ok (.ret v) => Q v s' | .ok _ => False | .error e => E e s') s := by
  refine Rel.exE R fun m cs ms FF N nd sr mr mu => ?_
  obtain ⟨fo, hfo, hd, hcode⟩ := K.gd.fn d D.obj
  have hd' : fo.data = .func (fnX d.name d.qual d.params d.body d.scope [] d.dV d.kV d.doc d.pm d.an d.cdv d.ct) := by
    rw [hd]; unfold FnD.fd; rw [D.cl]
  have hb0 : BindsTo s (fnX d.name d.qual d.params d.body d.scope [] d.dV d.kV d.doc d.pm d.an d.cdv d.ct) ⟨[y], []⟩ [(x, y)] := by
    have := D.bind s y (K.gd.frag.keeps FF.keep)
    unfold FnD.fd at this
    rw [D.cl] at this; exact this
  obtain ⟨FG, BG, st, lv⟩ := groundX (R := fun r s' => match r with | .ok (.ret v) => Q v s' | .ok _ => False | .error e => E e s') K.below FF N K.frames K.frame K.kind
  refine codeAny_call_function (by have := K.room; omega) (FF.keep _ _ hfo) hd' D.co D.gen rfl (hcode.keeps FF.keep) (hb0 _ _ _ _ ?_)
  refine wpAny_with_toks (n := 1) R.tk (wpAny_newFunctionEnv_cells D.kind (fun z hz => ?_) fun env' he s' x₁ ht => ?_)
  · simp only [List.mem_cons, List.not_mem_nil, or_false] at hz
    subst hz
    exact .inr ⟨D.kx, by rw [D.cells]; simp⟩
  · subst he
    refine ⟨(K.gd.nolimit.keeps FF.keep).keeps x₁.toInCall.keep, codeAny_func ?_⟩
    obtain ⟨h₁, tk, rfl, _⟩ := x₁.done
    have hk₁ := x₁.toInCall.keep
    have hnd : ((cellsFrom (s.heap.objs.size + 1) d.scope.names []).map (·.1)).Nodup := by rw [D.cells]; simp
    obtain ⟨cells, NC, Y⟩ := _root_.PyProof.Rows.Cl.news (h₀ := s.heap) (L := s.heap.objs.size) (Nat.le_refl _) fun n c hm => ⟨x₁.cell n c (lookup_of_mem_nodup hnd hm), x₁.above n c hm⟩
    generalize hg : hideAll s.heap ((cs ++ (ms ++ (W.T ++ X))).map (·.1)) = g at FG BG st lv
    have F' : Fr g s.heap.objs.size h₁ _ := ⟨x₁.toInCall.ns, fun b o e => hk₁ b o (of_hideAll _ (hg ▸ e)), by rw [← hg]; exact Nat.le_of_eq (hideAll_size _ _)⟩
    rw [D.cells] at Y
    obtain ⟨o, rfl, h2⟩ := Y.one
    have NC' : News g s.heap.objs.size h₁ [(s.heap.objs.size + 1, o)] := fun p hp' => by
      obtain ⟨a1, a2, a3⟩ := NC p hp'
      refine ⟨a1, a2, ?_⟩
      cases q : g.get? p.1 with
      | none => rfl
      | some o => have := of_hideAll _ (hg ▸ q); rw [a3] at this; cases this
    have RF := relC (d := d) (x := x) D R N nd mr mu hg F' NC' hk₁ (cell_one D s.heap.objs.size o h2) r1 ht
    refine wpAny_mono (hb cs _ g _ (cxC_ok K D BG st hlv) RF _) (fun fl s' h' => ?_) fun _ _ e => e
    obtain ⟨W', σ₁, y', le, R', hfl, hQ⟩ := h'
    rcases hfl with rfl | ⟨rfl, rfl⟩
    · exact lv _ _ (backC sr le R' hQ)
    · exact lv _ _ (backC sr le R' hQ)
theorem Cl.fnC {G : Gd} {C : Cx} {d : FnD} {x : Str} (K : COk1 G C) (D : FnOkC G d x) (hlv : 0 < C.lv) {F : PS → Option (Fl × PS)} (hb : ∀ L g, COk1 G (cxC C d x L g) → Xs G (cxC C d x L g) d.body F) : Cl G C (.ref d.f) (fcall d F) := by
  intro W σ X s vs xs r σ' Q E e R rs h
  unfold fcall at e
  split at e
  · rename_i hlen
    rw [D.pn] at hlen
    rw [D.rn] at e
    induction vs using listC with
    | nil => cases hlen
    | cons v vs => induction vs using listC with
      | cons _ _ => cases hlen
      | nil => induction rs using VRels.consC with | cons r1 rs => induction rs using VRels.nilC with | nil =>
        refine wpAny_call (code_fnC K D hlv R r1 fun cs L g s₁ KF RF E' => ?_)
        split at e
        · rename_i v' σ₁ hF
          induction e using someC
          refine hb L g KF W _ (cs ++ X) _ _ σ₁ _ _ hF RF fun W' fl s' le R' fr => ?_
          cases fr with
          | ret _ y ry => exact ⟨W', σ₁, y, le, R', .inl rfl, fun s'' R'' => h W' y s'' le R'' ry⟩
        · rename_i σ₁ hF
          induction e using someC
          refine hb L g KF W _ (cs ++ X) _ _ σ₁ _ _ hF RF fun W' fl s' le R' fr => ?_
          cases fr with
          | next => exact ⟨W', σ₁, .none, le, R', .inr ⟨rfl, rfl⟩, fun s'' R'' => h W' .none s'' le R'' .none⟩
        · exact noneE e
  · exact noneE e
end Mine
end
section
open PySem PySem.W PyProof.Rows
set_option genInjectivity false
set_option genSizeOfSpec false
namespace Mine
structure Mc where
  tb : String → Option Builtin
  p : Program
  w : World
  n₀ : Nat
  ann : Option Value
  b : Nat
noncomputable def Mc.go (M : Mc) (k : Nat) (s : Shared) (t : Thread) : Option (Shared × Thread) := segGo M.tb M.p M.w M.n₀ M.ann M.b k s t
theorem Mc.go_add {M : Mc} : ∀ {k l : Nat} {s s₁ : Shared} {t t₁ : Thread} {r : Option (Shared × Thread)}, M.go k s t = some (s₁, t₁) → M.go l s₁ t₁ = r → M.go (k + l) s t = r
  | 0, l, s, s₁, t, t₁, r, h, h' => by
    have : s = s₁ ∧ t = t₁ := by simpa [Mc.go, segGo] using h
    obtain ⟨rfl, rfl⟩ := this
    rw [Nat.zero_add]; exact h'
  | k + 1, l, s, s₁, t, t₁, r, h, h' => by
    rw [show k + 1 + l = (k + l) + 1 by omega]
    unfold Mc.go segGo at h ⊢
    cases he : endAt M.b t with
    | some f => rw [he] at h; cases h
    | none =>
      rw [he] at h
      dsimp only at h ⊢
      cases hk : stepOk M.n₀ M.ann t with
      | false => rw [hk] at h; cases h
      | true =>
        rw [hk] at h
        dsimp only at h ⊢
        cases hs : step (denote M.tb) M.p M.w s t with
        | halt o s₂ => rw [hs] at h; cases h
        | go s₂ t₂ =>
          rw [hs] at h
          exact Mc.go_add (M := M) h h'
theorem Mc.go_one {M : Mc} {s s' : Shared} {t t' : Thread} (h1 : endAt M.b t = none) (h2 : stepOk M.n₀ M.ann t = true) (h3 : step (denote M.tb) M.p M.w s t = .go s' t') : M.go 1 s t = some (s', t') := by
  unfold Mc.go segGo; rw [h1]; dsimp only; rw [h2]; dsimp only; rw [h3]; rfl
noncomputable def Goes (M : Mc) {α : Type} (k : Nat) (m : Sem α) (s : Shared) (q : Pos) (a : α) (s' : Shared) (q' : Pos) : Prop :=
  ∀ (K : α → Sem Fin) (H : Value → Sem Fin) (gd : Bool → Bool) (lv : List Value → List Value) (c : Code) (st : List Frame), M.b ≤ st.length →
    M.go k s ⟨m.wrap K H gd lv, c, q, st⟩ = some (s', ⟨K a, c, q', st⟩)
noncomputable def okA (M : Mc) (a : Addr) : Bool := Nat.ble M.n₀ a || a == mainNs || a == cStatics || M.ann == some (.ref a)
section
variable {M : Mc} {α β : Type} {s s₁ s' : Shared} {q q₁ q' : Pos} {k l : Nat}
theorem g_leaf {a : α} : Goes M 0 (pure a) s q a s q := fun _ _ _ _ _ _ _ => rfl
theorem g_bind {m : Sem α} {f : α → Sem β} {a : α} {b : β} (h : Goes M k m s q a s₁ q₁) (h' : Goes M l (f a) s₁ q₁ b s' q') : Goes M (k + l) (m >>= f) s q b s' q' := by
  intro K H gd lv c st hb
  rw [Sem.bind_eq_wrap', Sem.wrap_wrap]
  exact Mc.go_add (h _ _ _ _ c st hb) (h' K H gd lv c st hb)
theorem g_of_eq {m m' : Sem α} {a : α} (e : m = m') (h : Goes M k m' s q a s' q') : Goes M k m s q a s' q' := e ▸ h
theorem g_onRaise {m : Sem α} {f : Value → Sem Unit} {a : α} (h : Goes M k m s q a s' q') : Goes M k (m.onRaise f) s q a s' q' := by
  intro K H gd lv c st hb
  rw [Sem.onRaise_eq_wrap, Sem.wrap_wrap]
  exact h _ _ _ _ c st hb
theorem g_keep {vs : List Value} {m : Sem α} {a : α} (h : Goes M k m s q a s' q') : Goes M k (m.keep vs) s q a s' q' := by
  intro K H gd lv c st hb
  rw [Sem.keep_eq_wrap, Sem.wrap_wrap]
  exact h _ _ _ _ c st hb
theorem g_holding {vs : List Value} {m : Sem α} {a : α} (h : Goes M k m s q a s' q') : Goes M k (holding vs m) s q a s' q' := by
  unfold PySem.holding; split
  · exact h
  · exact g_keep h
theorem stack_ne {c : Code} {q : Pos} {st : List Frame} {F : Frame} {cur : Sem Fin} (hb : M.b ≤ st.length) : endAt M.b ⟨cur, c, q, F :: st⟩ = none := by
  have : ((F :: st).length == M.b) = false := by
    rw [List.length_cons, beq_eq_false_iff_ne]; omega
  simp only [endAt, this]
theorem g_rule {t : String} : Goes M 1 (PySem.rule t) s q () s q := fun K H gd lv c st _ => Mc.go_one (by simp [endAt, PySem.rule, Sem.wrap]) (by rfl) (by rfl)
theorem g_standAt {p : Pos} : Goes M 1 (PySem.standAt p) s q () s p := fun K H gd lv c st _ => Mc.go_one (by simp [endAt, PySem.standAt, Sem.wrap]) (by rfl) (by rfl)
theorem g_point : Goes M 1 PySem.point s q () s q := fun K H gd lv c st _ => Mc.go_one (by simp [endAt, PySem.point, Sem.wrap]) (by rfl) (by rfl)
theorem g_ask : Goes M 1 PySem.ask s q ⟨M.p, M.w.params⟩ s q := fun K H gd lv c st _ => Mc.go_one (by simp [endAt, PySem.ask, Sem.wrap]) (by rfl) (by rfl)
theorem g_fresh : Goes M 1 PySem.fresh s q s.toks { s with toks := s.toks + 1 } q := fun K H gd lv c st _ => Mc.go_one (by simp [endAt, PySem.fresh, Sem.wrap]) (by rfl) (by rfl)
theorem g_alloc {o : Obj} : Goes M 1 (PySem.alloc o) s q s.heap.objs.size { s with heap := s.heap.push o } q := fun K H gd lv c st _ => Mc.go_one (by simp [endAt, PySem.alloc, Sem.wrap]) (by rfl) (by rfl)
theorem g_loadPart {a : Addr} {pt : Option Value} {o : Obj} (h : s.heap.get? a = some o) : Goes M 1 (PySem.loadPart a pt) s q o s q := fun K H gd lv c st _ =>
  Mc.go_one (by simp [endAt, PySem.loadPart, Sem.wrap]) (by rfl) (by
    show step (denote M.tb) M.p M.w s ⟨.load a pt fun x => (Sem.pure x).wrap K H gd lv, c, q, st⟩ = _
    obtain ⟨heap, gens, drawn, toks, os⟩ := s
    simp only [step]; rw [show heap.get? a = some o from h]; rfl)
theorem g_updatePart {a : Addr} {pt : Option Value} {f : Obj → Obj} {o : Obj} (h : s.heap.get? a = some o) (ok : okA M a = true) : Goes M 1 (PySem.updatePart a pt f) s q () { s with heap := s.heap.update a f } q := fun K H gd lv c st _ =>
  Mc.go_one (by simp [endAt, PySem.updatePart, Sem.wrap]) (by
      show stepOk M.n₀ M.ann ⟨.update a pt f fun x => (Sem.pure x).wrap K H gd lv, c, q, st⟩ = true
      unfold stepOk
      rw [Bool.and_eq_true]
      exact ⟨rfl, ok⟩) (by
    show step (denote M.tb) M.p M.w s ⟨.update a pt f fun x => (Sem.pure x).wrap K H gd lv, c, q, st⟩ = _
    obtain ⟨heap, gens, drawn, toks, os⟩ := s
    simp only [step]; rw [show heap.get? a = some o from h]; rfl)
noncomputable def GoesC (M : Mc) (k : Nat) (c : Code) (s : Shared) (q : Pos) (f : Flow) (s' : Shared) : Prop :=
  ∀ (K : Result → Sem Fin) h g l cd p kept st, M.b ≤ st.length → ∃ c' q' kept', M.go k s ⟨denote M.tb c, c, q, .ret K h g l cd p kept :: st⟩ = some (s', ⟨.pure (.done f), c', q', .ret K h g l cd p kept' :: st⟩)
theorem wrap_self (m : Sem α) : m.wrap .pure .raise id id = m := by
  induction m <;> simp only [Sem.wrap, id, *]
theorem gc_done {c : Code} {f : Flow} (h : Goes M k (denote M.tb c) s q (.done f) s' q') : GoesC M k c s q f s' := by
  intro K hd g l cd p kept st hb
  have := h .pure .raise id id c (.ret K hd g l cd p kept :: st) (Nat.le_succ_of_le hb)
  rw [wrap_self] at this
  exact ⟨_, _, _, this⟩
theorem gc_again {c c' : Code} {f : Flow} (h : Goes M k (denote M.tb c) s q (.again c') s₁ q₁) (h' : GoesC M l c' s₁ q₁ f s') (hc : ∀ (K : Result → Sem Fin) hd g ll cd p kept st, stepOk M.n₀ M.ann ⟨.pure (.again c'), c, q₁, .ret K hd g ll cd p kept :: st⟩ = true) : GoesC M (k + (1 + l)) c s q f s' := by
  intro K hd g ll cd p kept st hb
  have e := h .pure .raise id id c (.ret K hd g ll cd p kept :: st) (Nat.le_succ_of_le hb)
  rw [wrap_self] at e
  obtain ⟨c₂, q₂, kp, e'⟩ := h' K hd g ll cd p (keptBy c c' ll kept) st hb
  refine ⟨c₂, q₂, kp, Mc.go_add e (Mc.go_add (Mc.go_one (stack_ne hb) (hc ..) ?_) e')⟩
  obtain ⟨heap, gens, drawn, toks, os⟩ := s₁
  exact step_again
noncomputable def keptNew (c code : Code) (l : List Value) : List Value := match c, code with
  | .builtin _ a, _ => unmarked a.refs
  | .call f a, .builtin .. | .call f a, .call .. => unmarked (if l.contains borrowed then a.refs else f :: a.refs)
  | _, _ => []
theorem g_run {c : Code} {f : Flow} (h : GoesC M k c s q f s') : Goes M (1 + (k + 1)) (PySem.run c) s q f s' q := by
  intro K H gd lv cd st hb
  obtain ⟨c', q', kp, e⟩ := h (fun r => ((match r with | .ok f => .pure f | .error e => .raise e : Sem Flow)).wrap K H gd lv) none (gd false) (lv []) cd q
    (keptNew c cd (lv [])) st hb
  refine Mc.go_add (Mc.go_one ?_ ?_ ?_) (Mc.go_add e (Mc.go_one (stack_ne hb) (by rfl) ?_))
  · simp [endAt, PySem.run, Sem.wrap]
  · rfl
  · rfl
  · rfl
end
end Mine
end
section
open PySem PySem.W PyProof.Rows
namespace Mine
theorem chk_hash (k : Int) (t : Tok) : checkBuiltinCall "int.__hash__" ⟨[.int k t], []⟩ = pure () := by kernel_rfl
theorem ca_hash (k : Int) (t : Tok) : callAny (.builtin "int.__hash__") ⟨[.int k t], []⟩ = pure (.again (.builtin "int.__hash__" ⟨[.int k t], []⟩)) := by
  show (checkBuiltinCall "int.__hash__" ⟨[.int k t], []⟩ >>= fun _ => again _) = _
  rw [chk_hash]; rfl
theorem bd_hash (k : Int) (t : Tok) : Builtin.«int.__hash__» ⟨[.int k t], []⟩ = (do ret (← mkInt (rawHash k))) := by rfl
theorem sp_hash (k : Int) (t : Tok) : specialOf (.int k t) "__hash__" = pure (some (.builtin "int.__hash__")) := by
  show (typeOf (.int k t) >>= fun x => typeLookup x "__hash__") = _
  show (pure (Value.type "int") >>= fun x => typeLookup x "__hash__") = _
  exact slot_int_hash.lookup
section
variable {M : Mc} {α β : Type} {s s₁ s' : Shared} {q q₁ q' : Pos} {k l : Nat}
theorem g_cast {m : Sem α} {a : α} (h : Goes M k m s q a s' q') (e : k = l) : Goes M l m s q a s' q' := e ▸ h
theorem g_gMkInt {i : Int} : Goes M 1 (mkInt i) s q (.int i s.toks) { s with toks := s.toks + 1 } q := g_cast (g_bind g_fresh g_leaf) rfl
theorem g_call_hash {i : Int} {t : Tok} (hM : M.tb = table) : Goes M 4 (PySem.call (.builtin "int.__hash__") [.int i t]) s q (.int (rawHash i) s.toks) { s with toks := s.toks + 1 } q := by
  refine g_cast (g_bind (g_run (f := .ret (.int (rawHash i) s.toks)) (k := 2) (s' := { s with toks := s.toks + 1 }) ?_) (g_leaf (a := Value.int (rawHash i) s.toks))) rfl
  refine gc_again (k := 0) (l := 1) (c' := .builtin "int.__hash__" ⟨[.int i t], []⟩) (q₁ := q) (g_of_eq (m' := pure (.again (.builtin "int.__hash__" ⟨[.int i t], []⟩))) ?_ g_leaf) ?_ ?_
  · exact ca_hash i t
  · refine gc_done (g_of_eq (m' := (do ret (← mkInt (rawHash i)))) ?_ (g_cast (g_bind g_gMkInt g_leaf) rfl))
    show (match entryFor M.tb "int.__hash__" with | some b => b _ | none => _) = _
    rw [hM, entry_int_hash]
    exact bd_hash i t
  · intros; kernel_rfl
theorem g_pyHash_int {i : Int} {t : Tok} (hM : M.tb = table) : Goes M 5 (pyHash (.int i t)) s q (hashInt i) { s with toks := s.toks + 1 } q := by
  have hr := rawHash_range i
  refine g_of_eq (m' := pyHashByItsType (.int i t)) rfl ?_
  unfold pyHashByItsType
  refine g_cast (g_bind (k := 0) (a := ()) (g_of_eq (m' := pure ()) (by rw [cRoomFor, if_neg (by exact Bool.false_ne_true)]) g_leaf) ?_) (Nat.zero_add 5)
  refine g_cast (g_bind (k := 0) (g_of_eq (sp_hash i t) g_leaf) ?_) (Nat.zero_add 5)
  rw [if_neg (by rw [beq_builtin_none]; exact Bool.false_ne_true)]
  refine g_cast (g_bind (k := 0) (g_of_eq (sp_hash i t) g_leaf) ?_) (Nat.zero_add 5)
  show Goes M 5 (callSpecialIfBoundUnlessNone? (.int i t) "__hash__" _ >>= _) s q _ _ q
  refine g_cast (g_bind (k := 5) (l := 0) (a := some (.int (rawHash i) s.toks)) (s₁ := { s with toks := s.toks + 1 }) (q₁ := q) ?_ ?_) rfl
  · unfold callSpecialIfBoundUnlessNone?
    refine g_holding (g_cast (g_bind (k := 1) (l := 4) (a := some (.builtin "int.__hash__", [.int i t])) (s₁ := s) (q₁ := q) ?_ ?_) rfl)
    · unfold bindSpecialIfBound?
      refine g_cast (g_bind (k := 0) (g_of_eq (sp_hash i t) g_leaf) ?_) (Nat.zero_add 1)
      dsimp only
      refine g_cast (g_bind (k := 1) (l := 0) g_ask ?_) rfl
      rw [show bindSpecial (.builtin "int.__hash__") (.int i t) = pure (.builtin "int.__hash__", [.int i t]) from slot_int_hash.bind _]
      split
      · exact g_leaf
      · exact g_leaf
    · dsimp only
      rw [if_neg (by rw [builtin_beq_none]; exact Bool.false_ne_true)]
      exact g_cast (g_bind (g_call_hash hM) g_leaf) rfl
  · show Goes M 0 (if (decide (-(2 : Int) ^ 63 ≤ rawHash i) && decide (rawHash i < 2 ^ 63)) = true then _ else _) _ _ _ _ _
    rw [if_pos (by rw [decide_eq_true hr.1, decide_eq_true hr.2]; rfl)]
    exact g_leaf
end
end Mine
end
section
open PySem PySem.W PyProof.Rows
namespace Mine
noncomputable def dO (es : List DictEntry) (n : Nat) : Obj := { cls := .type "dict", data := .dict es.toArray n }
theorem dO_live (es : List DictEntry) (n : Nat) : (dO es n).isFreed = false := rfl
theorem dO_add (es : List DictEntry) (n : Nat) (e : DictEntry) : Obj.mapDictKeys (fun x => x.push e) (dO es n) = dO (es ++ [e]) (n + 1) := by
  simp [dO, Obj.mapDictKeys]
theorem upd_to {h : Heap} {a : Addr} {o : Obj} {f : Obj → Obj} (g : h.get? a = some o) : h.update a f = h.update a (fun _ => f o) := by
  obtain ⟨e, _⟩ := Heap.get?_some_iff.mp g
  obtain ⟨objs, life⟩ := h
  show Heap.mk _ _ = Heap.mk _ _
  congr 1
  apply Array.ext_getElem?
  intro i
  rw [Array.getElem?_modify, Array.getElem?_modify]
  by_cases q : a = i
  · subst q; simp only [if_true]; rw [show objs[a]? = some o from e]; rfl
  · simp only [if_neg q]
theorem upd_upd {h : Heap} {a : Addr} {o o' : Obj} : (h.update a (fun _ => o)).update a (fun _ => o') = h.update a (fun _ => o') := by
  obtain ⟨objs, life⟩ := h
  show Heap.mk _ _ = Heap.mk _ _
  congr 1
  apply Array.ext_getElem?
  intro i
  rw [Array.getElem?_modify, Array.getElem?_modify, Array.getElem?_modify]
  by_cases q : a = i
  · subst q; simp only [if_true]; cases objs[a]? <;> rfl
  · simp only [if_neg q]
theorem upd_push {h : Heap} {o o' : Obj} : (h.push o).update h.objs.size (fun _ => o') = h.push o' := by
  obtain ⟨objs, life⟩ := h
  show Heap.mk _ _ = Heap.mk _ _
  congr 1
  apply Array.ext_getElem?
  intro i
  rw [Array.getElem?_modify]
  simp only [Array.getElem?_push]
  by_cases q : objs.size = i
  · subst q; simp
  · simp [q, Ne.symm q]
section
variable {M : Mc} {α β : Type} {s s₁ s' : Shared} {q q₁ q' : Pos} {k l : Nat}
theorem places_nil {es : List DictEntry} {h : Int} (hn : ∀ e ∈ es, e.hash ≠ h) : placesWithHash es.toArray.size (fun i => es.toArray[i]?.map (·.hash)) h = [] := by
  unfold placesWithHash
  rw [List.filter_eq_nil_iff]
  intro i _
  show ¬(Option.map (fun x : DictEntry => x.hash) es.toArray[i]? == some h) = true
  rw [List.getElem?_toArray]
  cases e : es[i]? with
  | none => simp
  | some x => simpa using hn x (List.mem_of_getElem? e)
theorem g_find_none {d : Addr} {i : Int} {t : Tok} {h : Int} {es : List DictEntry} {n : Nat} (hd : s.heap.get? d = some (dO es n)) (hn : ∀ e ∈ es, e.hash ≠ h) : Goes M 1 (dictFind d (.int i t) h) s q none s q := by
  unfold dictFind
  refine g_holding (g_cast (g_bind (k := 1) (l := 0) (a := es.toArray) (s₁ := s) (q₁ := q) ?_ ?_) rfl)
  · unfold dictEntries
    exact g_cast (g_bind (g_loadPart hd) g_leaf) rfl
  · dsimp only
    rw [places_nil hn]
    exact g_leaf
theorem g_addKey {d : Addr} {e : DictEntry} {es : List DictEntry} {n : Nat} {pt : Option Value} (hd : s.heap.get? d = some (dO es n)) (ok : okA M d = true) (hs : es.length ≤ 1000000) :
    Goes M 3 (updateDictKeys d (fun x => x.push e) pt) s q () { s with heap := s.heap.update d (fun _ => dO (es ++ [e]) (n + 1)) } q := by
  unfold updateDictKeys
  refine g_cast (g_bind (k := 1) (l := 2) (g_loadPart hd) ?_) rfl
  show Goes M 2 (updatePart d pt _ >>= fun _ => lookBehind d pt) _ _ _ _ _
  refine g_cast (g_bind (k := 1) (l := 1) (g_updatePart hd ok) ?_) rfl
  rw [upd_to hd, dO_add]
  unfold lookBehind
  refine g_cast (g_bind (k := 1) (l := 0) (g_loadPart (Heap.get?_update_self (o := dO es n) (fun _ => dO (es ++ [e]) (n + 1)) hd (dO_live _ _))) ?_) rfl
  have : (dO (es ++ [e]) (n + 1)).data.pastItsLine = none := by
    show (if (es ++ [e]).toArray.size > sizeLine + 1 then _ else _) = _
    rw [if_neg]
    rw [List.size_toArray, List.length_append, List.length_singleton, sizeLine_eq]; omega
  rw [this]
  exact g_leaf
theorem g_put {d : Addr} {i : Int} {t : Tok} {h : Int} {v : Value} {es : List DictEntry} {n : Nat} (hd : s.heap.get? d = some (dO es n)) (ok : okA M d = true) (hs : es.length ≤ 1000000) (hn : ∀ e ∈ es, e.hash ≠ h) :
    Goes M 4 (dictPut d h (.int i t) v) s q () { s with heap := s.heap.update d (fun _ => dO (es ++ [⟨h, .int i t, v⟩]) (n + 1)) } q := by
  unfold dictPut
  exact g_cast (g_bind (k := 1) (l := 3) (g_find_none hd hn) (g_addKey hd ok hs)) rfl
theorem g_dset {d : Addr} {i : Int} {t : Tok} {v : Value} {es : List DictEntry} {n : Nat} (hM : M.tb = table) (hd : s.heap.get? d = some (dO es n)) (ok : okA M d = true) (hs : es.length ≤ 1000000) (hn : ∀ e ∈ es, e.hash ≠ hashInt i) :
    Goes M 10 (dictSet d (.int i t) v) s q () { s with heap := s.heap.update d (fun _ => dO (es ++ [⟨hashInt i, .int i t, v⟩]) (n + 1)), toks := s.toks + 1 } q := by
  unfold dictSet
  refine g_holding (g_cast (g_bind (k := 5) (l := 5) (g_pyHash_int hM) ?_) rfl)
  unfold dictSetHashed
  refine g_holding (g_cast (g_bind (k := 1) (l := 4) (g_find_none hd hn) ?_) rfl)
  exact g_cast (g_bind (k := 1) (l := 3) g_rule (g_addKey (s := { s with toks := s.toks + 1 }) hd ok hs)) rfl
noncomputable def mkE : Nat → List (Int × Str) → List DictEntry
  | _, [] => []
  | T, (k, v) :: r => ⟨hashInt k, .int k T, .str v (T + 1)⟩ :: mkE (T + 3) r
theorem mkE_length : ∀ (T : Nat) (l : List (Int × Str)), (mkE T l).length = l.length
  | _, [] => rfl
  | T, (k, v) :: r => by simp [mkE, mkE_length (T + 3) r]
theorem mkE_hash : ∀ (T : Nat) (l : List (Int × Str)), (mkE T l).map (·.hash) = l.map fun x => hashInt x.1
  | _, [] => rfl
  | T, (k, v) :: r => by simp [mkE, mkE_hash (T + 3) r]
noncomputable def valT (pos : Pos) (v : Str) : Sem Value := do let x ← mkText v; standAt pos; pure x
noncomputable def keyT (k : Int) : Sem Value := mkInt k
theorem g_valT {pos : Pos} {v : Str} : Goes M 2 (valT pos v) s q (.str v s.toks) { s with toks := s.toks + 1 } pos :=
  g_cast (g_bind (k := 1) (l := 1) (g_cast (g_bind (k := 1) (l := 0) g_fresh g_leaf) rfl) (g_cast (g_bind (k := 1) (l := 0) g_standAt g_leaf) rfl)) rfl
noncomputable def longBody (d : Addr) : Sem Value × Sem Value → PUnit → Sem (ForInStep PUnit) := fun x _ => match x with
  | (k, v) => do
    let kv ← k
    let vv ← PySem.holding [kv] v
    PySem.holding [kv, vv] (dictSet d kv vv)
    pure (ForInStep.yield PUnit.unit)
theorem g_longLoop {pos : Pos} (hM : M.tb = table) {d : Addr} (ok : okA M d = true) : ∀ (l : List (Int × Str)) (s : Shared) (es : List DictEntry) (n : Nat), s.heap.get? d = some (dO es n) → es.length + l.length ≤ 1000000 →
    (es.map (·.hash) ++ l.map fun x => hashInt x.1).Nodup →
    Goes M (13 * l.length) (forIn (l.map fun x => (keyT x.1, Mine.valT pos x.2)) PUnit.unit (longBody d)) s pos PUnit.unit
      { s with heap := s.heap.update d (fun _ => dO (es ++ mkE s.toks l) (n + l.length)), toks := s.toks + 3 * l.length } pos
  | [], s, es, n, hd, _, _ => by
    have e : s.heap.update d (fun _ => dO (es ++ mkE s.toks []) (n + ([] : List (Int × Str)).length)) = s.heap := by
      obtain ⟨e, _⟩ := Heap.get?_some_iff.mp hd
      generalize s.heap = h at e
      obtain ⟨objs, life⟩ := h
      show Heap.mk _ _ = Heap.mk _ _
      congr 1
      apply Array.ext_getElem?
      intro i
      rw [Array.getElem?_modify]
      by_cases q : d = i
      · subst q; simp only [if_true]; rw [show objs[d]? = _ from e]; simp [mkE]
      · simp only [if_neg q]
    rw [e]
    exact g_leaf
  | (k, v) :: r, s, es, n, hd, hs, hn => by
    have hk : ∀ e ∈ es, e.hash ≠ hashInt k := fun e he q => by
      rw [List.nodup_append] at hn
      exact hn.2.2 _ (List.mem_map_of_mem he) _ (List.mem_cons_self ..) q
    simp only [List.length_cons] at hs
    have ih := g_longLoop (pos := pos) hM ok r { s with heap := s.heap.update d (fun _ => dO (es ++ [⟨hashInt k, .int k s.toks, .str v (s.toks + 1)⟩]) (n + 1)), toks := s.toks + 3 }
      (es ++ [⟨hashInt k, .int k s.toks, .str v (s.toks + 1)⟩]) (n + 1) (Heap.get?_update_self (o := dO es n) _ hd (dO_live _ _)) (by simp only [List.length_append, List.length_singleton]; omega)
      (by simpa [List.append_assoc] using hn)
    rw [List.map_cons, List.forIn_cons]
    refine g_cast (g_bind (k := 13) (l := 13 * r.length) (a := ForInStep.yield PUnit.unit) (q₁ := pos) (s₁ := { s with heap := s.heap.update d (fun _ => dO (es ++ [⟨hashInt k, .int k s.toks, .str v (s.toks + 1)⟩]) (n + 1)), toks := s.toks + 3 }) ?_ ?_) (by simp only [List.length_cons]; omega)
    · refine g_cast (g_bind (k := 1) (l := 12) g_gMkInt ?_) rfl
      refine g_cast (g_bind (k := 2) (l := 10) (g_holding g_valT) ?_) rfl
      refine g_cast (g_bind (k := 10) (l := 0) (g_holding (g_dset (s := { s with toks := s.toks + 1 + 1 }) hM hd ok (by omega) hk)) g_leaf) rfl
    · dsimp only at ih ⊢
      rw [upd_upd] at ih
      have e1 : es ++ [⟨hashInt k, .int k s.toks, .str v (s.toks + 1)⟩] ++ mkE (s.toks + 3) r = es ++ mkE s.toks ((k, v) :: r) := by simp [mkE]
      have e2 : n + 1 + r.length = n + ((k, v) :: r).length := by simp only [List.length_cons]; omega
      have e3 : s.toks + 3 + 3 * r.length = s.toks + 3 * ((k, v) :: r).length := by simp only [List.length_cons]; omega
      rw [e1, e2, e3] at ih
      exact ih
theorem g_subLong {pos : Pos} (hM : M.tb = table) {l : List (Int × Str)} (hl : 15 < l.length) (hs : l.length ≤ 1000000) (hn : (l.map fun x => hashInt x.1).Nodup) (ok : okA M s.heap.objs.size = true) :
    Goes M (2 + 13 * l.length) (subDict (l.map fun x => (keyT x.1, Mine.valT pos x.2))) s pos s.heap.objs.size { s with heap := s.heap.push (dO (mkE s.toks l) l.length), toks := s.toks + 3 * l.length } pos := by
  unfold subDict
  refine g_cast (g_bind (k := 1) (l := 1 + 13 * l.length) g_alloc ?_) (by omega)
  refine g_cast (g_bind (k := 1 + 13 * l.length) (l := 0) (a := ()) (g_holding ?_) g_leaf) (by omega)
  rw [if_neg (by rw [List.length_map]; omega)]
  refine g_cast (g_bind (k := 1) (l := 13 * l.length) g_rule ?_) rfl
  have lp := g_longLoop (M := M) (pos := pos) hM (d := s.heap.objs.size) ok l { s with heap := s.heap.push (dO [] 0) } [] 0 (Heap.get?_push_size _ (dO_live _ _)) (by simpa using hs) (by simpa using hn)
  dsimp only at lp
  rw [upd_push] at lp
  simp only [List.nil_append, Nat.zero_add] at lp
  exact g_cast (g_bind (k := 13 * l.length) (l := 0) lp g_leaf) (by omega)
end
end Mine
end
section
open PySem PySem.W PyProof.Rows
namespace Mine
theorem upd_same {h : Heap} {d : Addr} {o : Obj} (hd : h.get? d = some o) : h.update d (fun _ => o) = h := by
  obtain ⟨e, _⟩ := Heap.get?_some_iff.mp hd
  obtain ⟨objs, life⟩ := h
  show Heap.mk _ _ = Heap.mk _ _
  congr 1
  apply Array.ext_getElem?
  intro i
  rw [Array.getElem?_modify]
  by_cases q : d = i
  · subst q; simp only [if_true]; rw [show objs[d]? = _ from e]; rfl
  · simp only [if_neg q]
section
variable {M : Mc} {α β : Type} {s s₁ s' : Shared} {q q₁ q' : Pos} {k l : Nat}
theorem g_forFrom {f : Nat → PUnit → Sem (ForInStep PUnit)} {c : Nat} (S : Nat → Shared) : ∀ (m i : Nat), (∀ j, i ≤ j → j < i + m → Goes M c (f j PUnit.unit) (S j) q (.yield PUnit.unit) (S (j + 1)) q) →
    Goes M (c * m) (forIn (List.range' i m) PUnit.unit f) (S i) q PUnit.unit (S (i + m)) q
  | 0, i, _ => g_leaf
  | m + 1, i, h => by
    rw [List.range'_succ, List.forIn_cons]
    have ih := g_forFrom (f := f) (c := c) S m (i + 1) (fun j h1 h2 => h j (by omega) (by omega))
    rw [show i + (m + 1) = i + 1 + m by omega]
    exact g_cast (g_bind (h i (Nat.le_refl _) (by omega)) ih) (by rw [Nat.mul_succ]; omega)
theorem g_forRange {f : Nat → PUnit → Sem (ForInStep PUnit)} {c n : Nat} (S : Nat → Shared) (h : ∀ j, j < n → Goes M c (f j PUnit.unit) (S j) q (.yield PUnit.unit) (S (j + 1)) q) :
    Goes M (c * n) (forIn (List.range n) PUnit.unit f) (S 0) q PUnit.unit (S n) q := by
  rw [List.range_eq_range']
  have h' := g_forFrom (M := M) (q := q) (f := f) (c := c) S n 0 (fun j _ h2 => h j (by omega))
  rw [Nat.zero_add] at h'
  exact h'
theorem sub_dd : isSubtype (.type "dict") (.type "dict") = pure true := by rw [isSubtype_type]; kernel_rfl
theorem it_dd : typeLookup (.type "dict") "__iter__" = pure (some (.builtin "dict.__iter__")) := by rw [typeLookup_type, builtinLookup_eq_fast]; kernel_rfl
theorem bltEq : (some (Value.builtin "dict.__iter__") == some (Value.builtin "dict.__iter__")) = true := by decide +kernel
theorem g_entries {d : Addr} {es : List DictEntry} {n : Nat} {pt : Option Value} (hd : s.heap.get? d = some (dO es n)) : Goes M 1 (dictEntries d pt) s q es.toArray s q := by
  unfold dictEntries; exact g_cast (g_bind (g_loadPart hd) g_leaf) rfl
theorem g_epoch {d : Addr} {es : List DictEntry} {n : Nat} {pt : Option Value} (hd : s.heap.get? d = some (dO es n)) : Goes M 1 (dictEpoch d pt) s q n s q := by
  unfold dictEpoch; exact g_cast (g_bind (g_loadPart hd) g_leaf) rfl
theorem g_typeOf {a : Addr} {o : Obj} (h : s.heap.get? a = some o) : Goes M 1 (typeOf (.ref a)) s q o.cls s q := by
  show Goes M 1 (do return (← loadPart a (some headPart)).cls) s q _ s q
  exact g_cast (g_bind (g_loadPart h) g_leaf) rfl
theorem g_merge {d a : Addr} {es ea : List DictEntry} {n na : Nat} (hd : s.heap.get? d = some (dO es n)) (ha : s.heap.get? a = some (dO ea na)) (hda : d ≠ a) (hne : es ≠ []) (hs : (a == sysModules) = false)
    (ok : okA M d = true) (hk : ∀ e ∈ ea, ∃ i t, e.key = .int i t) (hnd : ((es ++ ea).map (·.hash)).Nodup) (hsz : (es ++ ea).length ≤ 1000000) :
    Goes M (5 + 6 * ea.length) (mergeMapping d (.ref a) false) s q () { s with heap := s.heap.update d (fun _ => dO (es ++ ea) (n + ea.length)) } q := by
  unfold mergeMapping
  refine g_cast (g_bind (k := 1) (l := 4 + 6 * ea.length) (a := true) (s₁ := s) (q₁ := q) ?_ ?_) (by omega)
  · unfold isInstance
    refine g_cast (g_bind (g_typeOf ha) (k := 1) (l := 0) ?_) rfl
    exact g_of_eq sub_dd g_leaf
  simp only [if_true]
  refine g_cast (g_bind (k := 1) (l := 3 + 6 * ea.length) (a := some (.builtin "dict.__iter__")) (s₁ := s) (q₁ := q) ?_ ?_) (by omega)
  · unfold specialOf
    refine g_cast (g_bind (g_typeOf ha) (k := 1) (l := 0) ?_) rfl
    exact g_of_eq it_dd g_leaf
  refine g_cast (g_bind (k := 0) (l := 3 + 6 * ea.length) g_leaf ?_) (by omega)
  rw [bltEq]
  dsimp only
  rw [hs]
  simp only [Bool.false_eq_true, if_false]
  refine g_cast (g_bind (k := 1) (l := 2 + 6 * ea.length) (g_entries hd) ?_) (by omega)
  have he : es.toArray.isEmpty = false := by cases es with | nil => exact absurd rfl hne | cons => rfl
  rw [he]
  simp only [Bool.false_eq_true, if_false]
  refine g_cast (g_bind (k := 1) (l := 1 + 6 * ea.length) (g_entries ha) ?_) (by omega)
  refine g_cast (g_bind (k := 1) (l := 6 * ea.length) (g_epoch ha) ?_) (by omega)
  let S : Nat → Shared := fun i => { s with heap := s.heap.update d (fun _ => dO (es ++ ea.take i) (n + i)) }
  have hS0 : S 0 = s := by
    show ({ s with heap := s.heap.update d (fun _ => dO (es ++ ea.take 0) (n + 0)) } : Shared) = s
    rw [List.take_zero, List.append_nil, Nat.add_zero, upd_same hd]
  have hSn : S ea.length = { s with heap := s.heap.update d (fun _ => dO (es ++ ea) (n + ea.length)) } := by
    show ({ s with heap := s.heap.update d (fun _ => dO (es ++ ea.take ea.length) (n + ea.length)) } : Shared) = _
    rw [List.take_length]
  rw [← hSn]
  refine g_cast (g_bind (k := 6 * ea.length) (l := 0) (a := PUnit.unit) (s₁ := S ea.length) (q₁ := q) ?_ g_leaf) (by omega)
  have lp := fun f h => g_forRange (M := M) (q := q) (f := f) (c := 6) (n := ea.length) S h
  rw [hS0] at lp
  rw [show ea.toArray.size = ea.length from List.size_toArray ..]
  refine lp _ fun j hj => ?_
  have hdj : (S j).heap.get? d = some (dO (es ++ ea.take j) (n + j)) := Heap.get?_update_self (o := dO es n) _ hd (dO_live _ _)
  have haj : (S j).heap.get? a = some (dO ea na) := (Heap.get?_update_ne _ _ _ _ (Ne.symm hda)).trans ha
  refine g_cast (g_bind (k := 1) (l := 5) (g_entries haj) ?_) rfl
  have hj' : ea.toArray[j]? = some ea[j] := by rw [List.getElem?_toArray]; exact List.getElem?_eq_getElem hj
  rw [hj']
  dsimp only
  obtain ⟨i, t, hkey⟩ := hk ea[j] (List.getElem_mem hj)
  refine g_cast (g_bind (k := 4) (l := 1) (a := ()) (s₁ := S (j + 1)) (q₁ := q) (g_holding ?_) ?_) rfl
  · rw [hkey]
    have hput := g_put (M := M) (q := q) (t := t) (i := i) (h := ea[j].hash) (v := ea[j].val) hdj ok (by
      have : (ea.take j).length ≤ ea.length := by rw [List.length_take]; omega
      rw [List.length_append] at hsz ⊢; omega) (fun e he q => by
      have hnd' : ((es ++ ea.take j).map (·.hash) ++ (ea.drop j).map (·.hash)).Nodup := by
        rw [← List.map_append, List.append_assoc, List.take_append_drop]; exact hnd
      rw [List.nodup_append] at hnd'
      refine hnd'.2.2 _ (List.mem_map_of_mem he) ea[j].hash (List.mem_map_of_mem ?_) q
      rw [List.drop_eq_getElem_cons hj]
      exact List.mem_cons_self ..)
    have e : ({ (S j) with heap := (S j).heap.update d (fun _ => dO (es ++ ea.take j ++ [⟨ea[j].hash, .int i t, ea[j].val⟩]) (n + j + 1)) } : Shared) = S (j + 1) := by
      show ({ s with heap := (s.heap.update d _).update d _ } : Shared) = { s with heap := s.heap.update d _ }
      rw [upd_upd, List.append_assoc, ← hkey, List.take_add_one, List.getElem?_eq_getElem hj]
      rfl
    rw [e] at hput
    exact hput
  · have haj' : (S (j + 1)).heap.get? a = some (dO ea na) := (Heap.get?_update_ne _ _ _ _ (Ne.symm hda)).trans ha
    refine g_cast (g_bind (k := 1) (l := 0) (g_epoch haj') ?_) rfl
    rw [if_neg (by simp)]
    exact g_leaf
end
end Mine
end
section
open PySem PySem.W PyProof.Rows
namespace Mine
noncomputable def vsOf : Nat → List (Int × Str) → List (Value × Value)
  | _, [] => []
  | T, (k, v) :: r => (.int k T, .str v (T + 1)) :: vsOf (T + 2) r
noncomputable def mkS : Nat → List (Int × Str) → List DictEntry
  | _, [] => []
  | T, (k, v) :: r => ⟨hashInt k, .int k T, .str v (T + 1)⟩ :: mkS (T + 2) r
theorem mkS_length : ∀ (T : Nat) (l : List (Int × Str)), (mkS T l).length = l.length
  | _, [] => rfl
  | T, (k, v) :: r => by simp [mkS, mkS_length (T + 2) r]
theorem mkS_hash : ∀ (T : Nat) (l : List (Int × Str)), (mkS T l).map (·.hash) = l.map fun x => hashInt x.1
  | _, [] => rfl
  | T, (k, v) :: r => by simp [mkS, mkS_hash (T + 2) r]
theorem mkS_key : ∀ (T : Nat) (l : List (Int × Str)), ∀ e ∈ mkS T l, ∃ i t, e.key = .int i t
  | _, [], e, h => by cases h
  | T, (k, v) :: r, e, h => by
    rcases List.mem_cons.mp h with rfl | h
    · exact ⟨_, _, rfl⟩
    · exact mkS_key _ r e h
theorem mkE_key : ∀ (T : Nat) (l : List (Int × Str)), ∀ e ∈ mkE T l, ∃ i t, e.key = .int i t
  | _, [], e, h => by cases h
  | T, (k, v) :: r, e, h => by
    rcases List.mem_cons.mp h with rfl | h
    · exact ⟨_, _, rfl⟩
    · exact mkE_key _ r e h
section
variable {M : Mc} {α β : Type} {s s₁ s' : Shared} {q q₁ q' : Pos} {k l : Nat}
noncomputable abbrev prs (pos : Pos) (l : List (Int × Str)) : List (Sem Value × Sem Value) := l.map fun x => (keyT x.1, Mine.valT pos x.2)
theorem g_evalPairs {pos : Pos} : ∀ (l : List (Int × Str)) (s : Shared), Goes M (3 * l.length) (evalPairs (prs pos l)) s pos (vsOf s.toks l) { s with toks := s.toks + 2 * l.length } pos
  | [], s => g_leaf
  | (k, v) :: r, s => by
    have ih := g_evalPairs (pos := pos) r { s with toks := s.toks + 2 }
    show Goes M _ (do let kv ← keyT k; let vv ← holding [kv] (valT pos v); return (kv, vv) :: (← holding [kv, vv] (evalPairs (prs pos r)))) s pos _ _ pos
    refine g_cast (g_bind (k := 1) (l := 2 + 3 * r.length) g_gMkInt ?_) (by simp only [List.length_cons]; omega)
    refine g_cast (g_bind (k := 2) (l := 3 * r.length) (g_holding g_valT) ?_) (by omega)
    refine g_cast (g_bind (k := 3 * r.length) (l := 0) (a := vsOf (s.toks + 2) r) (q₁ := pos) (s₁ := { s with toks := s.toks + 2 * ((k, v) :: r).length }) (g_holding ?_) g_leaf) (by omega)
    have e : s.toks + 2 + 2 * r.length = s.toks + 2 * ((k, v) :: r).length := by simp only [List.length_cons]; omega
    dsimp only at ih
    rw [e] at ih
    exact ih
theorem g_setLoop {f : Value × Value → PUnit → Sem (ForInStep PUnit)} {d : Addr} (hM : M.tb = table) (ok : okA M d = true) (hf : ∀ x, f x PUnit.unit = (do dictSet d x.1 x.2; pure (ForInStep.yield PUnit.unit))) :
    ∀ (l : List (Int × Str)) (T : Nat) (s : Shared) (es : List DictEntry) (n : Nat), s.heap.get? d = some (dO es n) → es.length + l.length ≤ 1000000 → (es.map (·.hash) ++ l.map fun x => hashInt x.1).Nodup →
    Goes M (10 * l.length) (forIn (vsOf T l) PUnit.unit f) s q PUnit.unit { s with heap := s.heap.update d (fun _ => dO (es ++ mkS T l) (n + l.length)), toks := s.toks + l.length } q
  | [], T, s, es, n, hd, _, _ => by
    have e : ({ s with heap := s.heap.update d (fun _ => dO (es ++ mkS T []) (n + ([] : List (Int × Str)).length)), toks := s.toks + ([] : List (Int × Str)).length } : Shared) = s := by
      simp only [mkS, List.append_nil, List.length_nil, Nat.add_zero, upd_same hd]
    rw [e]
    exact g_leaf
  | (k, v) :: r, T, s, es, n, hd, hs, hn => by
    have hk : ∀ e ∈ es, e.hash ≠ hashInt k := fun e he q => by
      rw [List.nodup_append] at hn
      exact hn.2.2 _ (List.mem_map_of_mem he) _ (List.mem_cons_self ..) q
    simp only [List.length_cons] at hs
    have ih := g_setLoop hM ok hf r (T + 2) { s with heap := s.heap.update d (fun _ => dO (es ++ [⟨hashInt k, .int k T, .str v (T + 1)⟩]) (n + 1)), toks := s.toks + 1 }
      (es ++ [⟨hashInt k, .int k T, .str v (T + 1)⟩]) (n + 1) (Heap.get?_update_self (o := dO es n) _ hd (dO_live _ _)) (by simp only [List.length_append, List.length_singleton]; omega)
      (by simpa [List.append_assoc] using hn)
    show Goes M _ (forIn ((Value.int k T, Value.str v (T + 1)) :: vsOf (T + 2) r) PUnit.unit f) s q _ _ q
    rw [List.forIn_cons, hf]
    refine g_cast (g_bind (k := 10) (l := 10 * r.length) (g_cast (g_bind (k := 10) (l := 0) (g_dset hM hd ok (by omega) hk) g_leaf) rfl) ?_) (by simp only [List.length_cons]; omega)
    dsimp only at ih ⊢
    rw [upd_upd] at ih
    have e1 : es ++ [⟨hashInt k, .int k T, .str v (T + 1)⟩] ++ mkS (T + 2) r = es ++ mkS T ((k, v) :: r) := by simp [mkS]
    have e2 : n + 1 + r.length = n + ((k, v) :: r).length := by simp only [List.length_cons]; omega
    have e3 : s.toks + 1 + r.length = s.toks + ((k, v) :: r).length := by simp only [List.length_cons]; omega
    rw [e1, e2, e3] at ih
    exact ih
theorem g_subShort {pos : Pos} (hM : M.tb = table) {l : List (Int × Str)} (hl : l.length ≤ 15) (hn : (l.map fun x => hashInt x.1).Nodup) (ok : okA M s.heap.objs.size = true) :
    Goes M (1 + 13 * l.length) (subDict (prs pos l)) s pos s.heap.objs.size { s with heap := s.heap.push (dO (mkS s.toks l) l.length), toks := s.toks + 3 * l.length } pos := by
  unfold subDict
  refine g_cast (g_bind (k := 1) (l := 13 * l.length) g_alloc ?_) (by omega)
  refine g_cast (g_bind (k := 13 * l.length) (l := 0) (a := ()) (g_holding ?_) g_leaf) (by omega)
  rw [if_pos (by rw [List.length_map]; exact hl)]
  refine g_cast (g_bind (k := 3 * l.length) (l := 10 * l.length) (g_evalPairs l _) ?_) (by omega)
  refine g_holding (g_cast (g_bind (k := 10 * l.length) (l := 0) (a := PUnit.unit) (q₁ := pos) (s₁ := { s with heap := s.heap.push (dO (mkS s.toks l) l.length), toks := s.toks + 3 * l.length }) ?_ g_leaf) (by omega))
  have lp := fun f hf => g_setLoop (M := M) (q := pos) (f := f) hM (d := s.heap.objs.size) ok hf l s.toks { s with heap := s.heap.push (dO [] 0), toks := s.toks + 2 * l.length } [] 0 (Heap.get?_push_size _ (dO_live _ _)) (by simp; omega) (by simpa using hn)
  dsimp only at lp
  rw [upd_push] at lp
  simp only [List.nil_append, Nat.zero_add] at lp
  rw [show s.toks + 2 * l.length + l.length = s.toks + 3 * l.length by omega] at lp
  exact lp _ (fun x => rfl)
end
noncomputable def addAll (h : Heap) (l : List Obj) : Heap := ⟨h.objs ++ l.toArray, h.life⟩
theorem addAll_push (h : Heap) (l : List Obj) (o : Obj) : (addAll h l).push o = addAll h (l ++ [o]) := by
  show Heap.mk _ _ = Heap.mk _ _
  congr 1
  simp [addAll]
theorem addAll_nil (h : Heap) : addAll h [] = h := by simp [addAll]
theorem addAll_one (h : Heap) (o : Obj) : h.push o = addAll h [o] := by
  have := addAll_push h [] o
  rw [addAll_nil] at this; exact this
theorem addAll_size (h : Heap) (l : List Obj) : (addAll h l).objs.size = h.objs.size + l.length := by simp [addAll]
theorem addAll_upd (h : Heap) (o o' : Obj) (l : List Obj) : (addAll h (o :: l)).update h.objs.size (fun _ => o') = addAll h (o' :: l) := by
  show Heap.mk _ _ = Heap.mk _ _
  congr 1
  apply Array.ext_getElem?
  intro i
  rw [Array.getElem?_modify]
  simp only [addAll, Array.getElem?_append, List.getElem?_toArray]
  by_cases q : h.objs.size = i
  · subst q; simp
  · by_cases q2 : i < h.objs.size
    · simp [q, q2]
    · have : i - h.objs.size = (i - h.objs.size - 1) + 1 := by omega
      rw [if_neg q2, if_neg q, if_neg q2, this]; rfl
theorem addAll_get {h : Heap} {l : List Obj} {i : Nat} {o : Obj} (e : l[i]? = some o) (hf : o.isFreed = false) : (addAll h l).get? (h.objs.size + i) = some o := by
  refine Heap.get?_some_iff.mpr ⟨?_, hf⟩
  simp only [addAll, Array.getElem?_append, List.getElem?_toArray]
  rw [if_neg (by omega), Nat.add_sub_cancel_left]; exact e
theorem addAll_old {h : Heap} {l : List Obj} {a : Addr} {o : Obj} (e : h.get? a = some o) : (addAll h l).get? a = some o := by
  have lt := Heap.lt_size e
  obtain ⟨e1, e2⟩ := Heap.get?_some_iff.mp e
  refine Heap.get?_some_iff.mpr ⟨?_, e2⟩
  simp only [addAll, Array.getElem?_append]
  rw [if_pos lt]; exact e1
structure Dsp where
  ms : List DictEntry
  subs : List Obj
  T : Nat
noncomputable def Dsp.heap (H : Heap) (D : Dsp) : Heap := addAll H (dO D.ms D.ms.length :: D.subs)
noncomputable def Dsp.more (D : Dsp) (c : List (Int × Str)) : Dsp := ⟨D.ms ++ mkE D.T c, D.subs ++ [dO (mkE D.T c) c.length], D.T + 3 * c.length⟩
noncomputable def Dsp.last (D : Dsp) (c : List (Int × Str)) : Dsp := ⟨D.ms ++ mkS D.T c, D.subs ++ [dO (mkS D.T c) c.length], D.T + 3 * c.length⟩
noncomputable def Dsp.all : Nat → Dsp → List (Int × Str) → Dsp
  | 0, D, l => D.last l
  | n + 1, D, l => Dsp.all n (D.more (l.take 17)) (l.drop 17)
noncomputable def Dsp.start (T : Nat) (c : List (Int × Str)) : Dsp := ⟨mkE T c, [], T + 3 * c.length⟩
end Mine
end
section
open PySem PySem.W PyProof.Rows
namespace Mine
noncomputable def dflush (run : List (Sem Value × Sem Value)) (main : Option Addr) : Sem (Option Addr) := do
  if run.isEmpty then return main
  match main with
  | none => return some (← subDict run)
  | some d =>
    let sub ← holding [.ref d] (subDict run)
    (holding [.ref d, .ref sub] (mergeMapping d (.ref sub) false)).onRaise fun x => do let _ ← holding [.ref d, x] (runValue (.builtin "proto.let_go" {}))
    return some d
section
variable {M : Mc} {s s₁ s' : Shared} {q q₁ q' : Pos} {k l : Nat} {H : Heap}
theorem g_flush0 {pos : Pos} (hM : M.tb = table) {c : List (Int × Str)} (hl : 15 < c.length) (hs : c.length ≤ 1000000) (hn : (c.map fun x => hashInt x.1).Nodup) (ok : okA M s.heap.objs.size = true) :
    Goes M (2 + 13 * c.length) (dflush (prs pos c) none) s pos (some s.heap.objs.size) { s with heap := (Dsp.start s.toks c).heap s.heap, toks := (Dsp.start s.toks c).T } pos := by
  unfold dflush
  rw [if_neg (by cases c with | nil => simp at hl | cons => simp [prs])]
  have e : (Dsp.start s.toks c).heap s.heap = s.heap.push (dO (mkE s.toks c) c.length) := by
    unfold Dsp.heap; rw [addAll_one]; simp [Dsp.start, mkE_length]
  rw [e]
  exact g_cast (g_bind (k := 2 + 13 * c.length) (l := 0) (g_subLong hM hl hs hn ok) g_leaf) (by omega)
theorem g_flush1 {pos : Pos} (hM : M.tb = table) {D : Dsp} {c : List (Int × Str)} (hH : s.heap = D.heap H) (hT : s.toks = D.T) (hl : 15 < c.length) (hs : (D.ms.length + c.length) ≤ 1000000)
    (hn : (D.ms.map (·.hash) ++ c.map fun x => hashInt x.1).Nodup) (hne : D.ms ≠ []) (okd : okA M H.objs.size = true) (ok : okA M s.heap.objs.size = true) (hsys : (s.heap.objs.size == sysModules) = false) :
    Goes M (7 + 19 * c.length) (dflush (prs pos c) (some H.objs.size)) s pos (some H.objs.size) { s with heap := (D.more c).heap H, toks := (D.more c).T } pos := by
  unfold dflush
  rw [if_neg (by cases c with | nil => simp at hl | cons => simp [prs])]
  dsimp only
  refine g_cast (g_bind (k := 2 + 13 * c.length) (l := 5 + 6 * c.length) (g_holding (g_subLong hM hl (by omega) (List.nodup_append.mp hn).2.1 ok)) ?_) (by omega)
  have sz : s.heap.objs.size = H.objs.size + (D.subs.length + 1) := by rw [hH, Dsp.heap, addAll_size, List.length_cons]
  have e1 : s.heap.push (dO (mkE s.toks c) c.length) = addAll H (dO D.ms D.ms.length :: (D.subs ++ [dO (mkE D.T c) c.length])) := by rw [hH, hT, Dsp.heap, addAll_push]; rfl
  have hm := g_merge (M := M) (q := pos) (s := { s with heap := s.heap.push (dO (mkE s.toks c) c.length), toks := s.toks + 3 * c.length }) (d := H.objs.size) (a := s.heap.objs.size) (es := D.ms) (n := D.ms.length) (ea := mkE D.T c) (na := c.length)
    (by rw [e1]; exact addAll_get (i := 0) rfl (dO_live _ _)) (by rw [hT]; exact Heap.get?_push_size _ (dO_live _ _)) (by rw [sz]; exact Nat.ne_of_lt (by omega)) hne hsys okd (mkE_key _ _)
    (by rw [List.map_append, mkE_hash]; exact hn) (by rw [List.length_append, mkE_length]; exact hs)
  rw [mkE_length] at hm
  dsimp only at hm
  rw [e1, addAll_upd] at hm
  refine g_cast (g_bind (k := 5 + 6 * c.length) (l := 0) (a := ()) (q₁ := pos) (s₁ := { s with heap := (D.more c).heap H, toks := (D.more c).T }) (g_onRaise (g_holding ?_)) g_leaf) (by omega)
  have e2 : (D.more c).heap H = addAll H (dO (D.ms ++ mkE D.T c) (D.ms.length + c.length) :: (D.subs ++ [dO (mkE D.T c) c.length])) := by
    unfold Dsp.heap Dsp.more; rw [List.length_append, mkE_length]
  have e3 : (D.more c).T = s.toks + 3 * c.length := by rw [hT]; rfl
  rw [e2, e3, e1]
  exact hm
theorem g_flush2 {pos : Pos} (hM : M.tb = table) {D : Dsp} {c : List (Int × Str)} (hH : s.heap = D.heap H) (hT : s.toks = D.T) (hl : c.length ≤ 15) (hc : c ≠ []) (hs : (D.ms.length + c.length) ≤ 1000000)
    (hn : (D.ms.map (·.hash) ++ c.map fun x => hashInt x.1).Nodup) (hne : D.ms ≠ []) (okd : okA M H.objs.size = true) (ok : okA M s.heap.objs.size = true) (hsys : (s.heap.objs.size == sysModules) = false) :
    Goes M (6 + 19 * c.length) (dflush (prs pos c) (some H.objs.size)) s pos (some H.objs.size) { s with heap := (D.last c).heap H, toks := (D.last c).T } pos := by
  unfold dflush
  rw [if_neg (by cases c with | nil => exact absurd rfl hc | cons => simp [prs])]
  dsimp only
  refine g_cast (g_bind (k := 1 + 13 * c.length) (l := 5 + 6 * c.length) (g_holding (g_subShort hM hl (List.nodup_append.mp hn).2.1 ok)) ?_) (by omega)
  have sz : s.heap.objs.size = H.objs.size + (D.subs.length + 1) := by rw [hH, Dsp.heap, addAll_size, List.length_cons]
  have e1 : s.heap.push (dO (mkS s.toks c) c.length) = addAll H (dO D.ms D.ms.length :: (D.subs ++ [dO (mkS D.T c) c.length])) := by rw [hH, hT, Dsp.heap, addAll_push]; rfl
  have hm := g_merge (M := M) (q := pos) (s := { s with heap := s.heap.push (dO (mkS s.toks c) c.length), toks := s.toks + 3 * c.length }) (d := H.objs.size) (a := s.heap.objs.size) (es := D.ms) (n := D.ms.length) (ea := mkS D.T c) (na := c.length)
    (by rw [e1]; exact addAll_get (i := 0) rfl (dO_live _ _)) (by rw [hT]; exact Heap.get?_push_size _ (dO_live _ _)) (by rw [sz]; exact Nat.ne_of_lt (by omega)) hne hsys okd (mkS_key _ _)
    (by rw [List.map_append, mkS_hash]; exact hn) (by rw [List.length_append, mkS_length]; exact hs)
  rw [mkS_length] at hm
  dsimp only at hm
  rw [e1, addAll_upd] at hm
  refine g_cast (g_bind (k := 5 + 6 * c.length) (l := 0) (a := ()) (q₁ := pos) (s₁ := { s with heap := (D.last c).heap H, toks := (D.last c).T }) (g_onRaise (g_holding ?_)) g_leaf) (by omega)
  have e2 : (D.last c).heap H = addAll H (dO (D.ms ++ mkS D.T c) (D.ms.length + c.length) :: (D.subs ++ [dO (mkS D.T c) c.length])) := by
    unfold Dsp.heap Dsp.last; rw [List.length_append, mkS_length]
  have e3 : (D.last c).T = s.toks + 3 * c.length := by rw [hT]; rfl
  rw [e2, e3, e1]
  exact hm
noncomputable abbrev itm (pos : Pos) (l : List (Int × Str)) : List (Option (Sem Value) × Sem Value) := l.map fun x => (some (keyT x.1), Mine.valT pos x.2)
noncomputable abbrev DSt := Option Addr × List (Sem Value × Sem Value)
variable {f : Option (Sem Value) × Sem Value → DSt → Sem (ForInStep DSt)}
theorem fill_eq {pos : Pos} (hf1 : ∀ k v (st : DSt), st.2.length + 1 ≠ 17 → f (some k, v) st = pure (.yield (st.1, st.2 ++ [(k, v)]))) : ∀ (A : List (Int × Str)) (rest : List (Option (Sem Value) × Sem Value)) (main : Option Addr) (run : List (Sem Value × Sem Value)),
    run.length + A.length < 17 → forIn (itm pos A ++ rest) ((main, run) : DSt) f = forIn rest ((main, run ++ prs pos A) : DSt) f
  | [], rest, main, run, _ => by simp [prs, itm]
  | (k, v) :: r, rest, main, run, h => by
    simp only [List.length_cons] at h
    have ih := fill_eq (pos := pos) hf1 r rest main (run ++ [(keyT k, Mine.valT pos v)]) (by simp only [List.length_append, List.length_singleton]; omega)
    show forIn ((some (keyT k), Mine.valT pos v) :: (itm pos r ++ rest)) ((main, run) : DSt) f = _
    rw [List.forIn_cons, hf1 _ _ _ (by dsimp only; omega)]
    show forIn (itm pos r ++ rest) ((main, run ++ [(keyT k, Mine.valT pos v)]) : DSt) f = _
    rw [ih, List.append_assoc]
    rfl
theorem full_eq {pos : Pos} (hf1 : ∀ k v (st : DSt), st.2.length + 1 ≠ 17 → f (some k, v) st = pure (.yield (st.1, st.2 ++ [(k, v)])))
    (hf2 : ∀ k v (st : DSt), st.2.length + 1 = 17 → f (some k, v) st = (dflush (st.2 ++ [(k, v)]) st.1 >>= fun m => pure (.yield (m, [])))) (c : List (Int × Str)) (hc : c.length = 17) (rest : List (Option (Sem Value) × Sem Value)) (main : Option Addr) :
    forIn (itm pos c ++ rest) ((main, []) : DSt) f = (dflush (prs pos c) main >>= fun m => forIn rest ((m, []) : DSt) f) := by
  have hsplit : c = c.take 16 ++ c.drop 16 := (List.take_append_drop 16 c).symm
  obtain ⟨x, hx⟩ : ∃ x, c.drop 16 = [x] := by
    have : (c.drop 16).length = 1 := by rw [List.length_drop, hc]
    exact List.length_eq_one_iff.mp this
  have e1 : itm pos c ++ rest = itm pos (c.take 16) ++ ((some (keyT x.1), Mine.valT pos x.2) :: rest) := by
    conv => lhs; rw [hsplit, hx]
    simp [itm]
  have e2 : prs pos c = prs pos (c.take 16) ++ [(keyT x.1, Mine.valT pos x.2)] := by
    conv => lhs; rw [hsplit, hx]
    simp [prs]
  have hl : (c.take 16).length = 16 := by rw [List.length_take, hc]; rfl
  rw [e1, fill_eq hf1 _ _ _ _ (by simp only [List.length_nil]; omega), List.forIn_cons, hf2 _ _ _ (by simp [prs, hc]), List.nil_append, ← e2]
  simp only [bind_assoc, pure_bind]
theorem g_disp {pos : Pos} (hM : M.tb = table) (hf1 : ∀ k v (st : DSt), st.2.length + 1 ≠ 17 → f (some k, v) st = pure (.yield (st.1, st.2 ++ [(k, v)])))
    (hf2 : ∀ k v (st : DSt), st.2.length + 1 = 17 → f (some k, v) st = (dflush (st.2 ++ [(k, v)]) st.1 >>= fun m => pure (.yield (m, [])))) (okd : ∀ a, H.objs.size ≤ a → okA M a = true) (hsys : 2 ≤ H.objs.size) :
    ∀ (n : Nat) (L : List (Int × Str)) (D : Dsp) (s : Shared), s.heap = D.heap H → s.toks = D.T → 17 * n < L.length → L.length ≤ 17 * n + 15 → (D.ms.length + L.length) ≤ 1000000 → (D.ms.map (·.hash) ++ L.map fun x => hashInt x.1).Nodup → D.ms ≠ [] →
    Goes M (330 * n + (6 + 19 * (L.length - 17 * n))) (forIn (itm pos L) ((some H.objs.size, []) : DSt) f >>= fun st => dflush st.2 st.1) s pos (some H.objs.size) { s with heap := (Dsp.all n D L).heap H, toks := (Dsp.all n D L).T } pos
  | 0, L, D, s, hH, hT, h1, h2, hs, hn, hne => by
    have e := fill_eq (pos := pos) hf1 L [] (some H.objs.size) [] (by simp only [List.length_nil]; omega)
    rw [List.append_nil] at e
    rw [e]
    have sz : s.heap.objs.size = H.objs.size + (D.subs.length + 1) := by rw [hH, Dsp.heap, addAll_size, List.length_cons]
    show Goes M _ (dflush ([] ++ prs pos L) (some H.objs.size)) s pos _ _ pos
    rw [List.nil_append]
    refine g_cast (g_flush2 hM hH hT (by omega) (by rintro rfl; simp at h1) hs hn hne (okd _ (Nat.le_refl _)) (okd _ (by omega)) ?_) (by omega)
    rw [sz, beq_eq_false_iff_ne]; show _ ≠ 1; omega
  | n + 1, L, D, s, hH, hT, h1, h2, hs, hn, hne => by
    have hsp : L = L.take 17 ++ L.drop 17 := (List.take_append_drop 17 L).symm
    have hl : (L.take 17).length = 17 := by rw [List.length_take]; omega
    have e : itm pos L = itm pos (L.take 17) ++ itm pos (L.drop 17) := by
      conv => lhs; rw [hsp]
      simp [itm]
    rw [e, full_eq hf1 hf2 _ hl, bind_assoc]
    have sz : s.heap.objs.size = H.objs.size + (D.subs.length + 1) := by rw [hH, Dsp.heap, addAll_size, List.length_cons]
    have hn' : (D.ms.map (·.hash) ++ ((L.take 17).map (fun x => hashInt x.1) ++ (L.drop 17).map (fun x => hashInt x.1))).Nodup := by
      rw [← List.map_append, List.take_append_drop]; exact hn
    have hll : (L.drop 17).length = L.length - 17 := List.length_drop ..
    have hmsl : (D.more (L.take 17)).ms.length = D.ms.length + 17 := by
      show (D.ms ++ mkE D.T (L.take 17)).length = _
      rw [List.length_append, mkE_length, hl]
    have ih := g_disp (pos := pos) hM hf1 hf2 okd hsys n (L.drop 17) (D.more (L.take 17)) { s with heap := (D.more (L.take 17)).heap H, toks := (D.more (L.take 17)).T } rfl rfl (by omega) (by omega) (by omega)
      (by show ((D.ms ++ mkE D.T (L.take 17)).map (·.hash) ++ _).Nodup
          rw [List.map_append, mkE_hash, List.append_assoc]; exact hn') (by
          show D.ms ++ mkE D.T (L.take 17) ≠ []
          simp [hne])
    refine g_cast (g_bind (k := 330) (g_cast (g_flush1 hM hH hT (by omega) (by omega) ?_ hne (okd _ (Nat.le_refl _)) (okd _ (by omega)) ?_) (by omega)) ih) (by omega)
    · rw [← List.append_assoc] at hn'
      exact (List.nodup_append.mp hn').1
    · rw [sz, beq_eq_false_iff_ne]; show _ ≠ 1; omega
end
end Mine
end
section
open PySem PySem.W PyProof.Rows
namespace Mine
noncomputable def intLit : Option Expr → Option Int
  | some (.Constant c _ _) => match c with
    | .int k => some k
    | _ => none
  | _ => none
noncomputable def strLit : Expr → Option Str
  | .Constant c _ _ => match c with
    | .str v => some v
    | _ => none
  | _ => none
theorem intLit_some {e : Option Expr} {k : Int} (h : intLit e = some k) : ∃ a b, e = some (.Constant (.int k) a b) := by
  unfold intLit at h
  split at h
  · split at h
    · cases h; exact ⟨_, _, rfl⟩
    · cases h
  · cases h
theorem strLit_some {e : Expr} {k : Str} (h : strLit e = some k) : ∃ a b, e = .Constant (.str k) a b := by
  unfold strLit at h
  split at h
  · split at h
    · cases h; exact ⟨_, _, rfl⟩
    · cases h
  · cases h
noncomputable def isPairs : List (Option Expr) → List Expr → Option (List (Int × Str))
  | [], [] => some []
  | e :: ks, v :: vs => (intLit e).bind fun k => (strLit v).bind fun s => (isPairs ks vs).map ((k, s) :: ·)
  | [], _ :: _ => none
  | _ :: _, [] => none
theorem pairs_items {env : Env} {pos : Pos} : ∀ {ks : List (Option Expr)} {vs : List Expr} {L : List (Int × Str)}, isPairs ks vs = some L →
    ((evalEachOpt ks env).zip ((evalEach vs env).map fun v => do let x ← v; standAt pos; pure x)) = itm pos L
  | [], [], L, h => by cases h; rfl
  | [], _ :: _, L, h => by cases h
  | _ :: _, [], L, h => by cases h
  | e :: ks, v :: vs, L, h => by
    obtain ⟨k, h1, h2⟩ := Option.bind_eq_some_iff.mp (show (intLit e).bind (fun k => (strLit v).bind fun s => (isPairs ks vs).map ((k, s) :: ·)) = some L from h)
    obtain ⟨s, h3, h4⟩ := Option.bind_eq_some_iff.mp h2
    obtain ⟨L', h5, rfl⟩ := Option.map_eq_some_iff.mp h4
    obtain ⟨a, b, rfl⟩ := intLit_some h1
    obtain ⟨a', b', rfl⟩ := strLit_some h3
    have ih := pairs_items (env := env) (pos := pos) h5
    show (some (constValue env (.int k)), (do let x ← constValue env (.str s); standAt pos; pure x)) :: ((evalEachOpt ks env).zip ((evalEach vs env).map fun v => do let x ← v; standAt pos; pure x)) = _
    rw [ih]; rfl
section
variable {M : Mc} {s s₁ s' : Shared} {q q₁ q' : Pos} {k l : Nat}
noncomputable def dispOf (T : Nat) (L : List (Int × Str)) (n : Nat) : Dsp := Dsp.all n (Dsp.start T (L.take 17)) (L.drop 17)
theorem g_display {pos : Pos} {n : Nat} {L : List (Int × Str)} (hM : M.tb = table) (okd : ∀ a, s.heap.objs.size ≤ a → okA M a = true) (hsys : 2 ≤ s.heap.objs.size) (h1 : 17 * n < L.length - 17) (h2 : L.length - 17 ≤ 17 * n + 15) (hs : L.length ≤ 1000000)
    (hn : (L.map fun x => hashInt x.1).Nodup) :
    Goes M (223 + (330 * n + (6 + 19 * (L.length - 17 - 17 * n)))) (dictDisplay (itm pos L)) s pos (.ref s.heap.objs.size) { s with heap := (dispOf s.toks L n).heap s.heap, toks := (dispOf s.toks L n).T } pos := by
  unfold dictDisplay
  have hsp : L = L.take 17 ++ L.drop 17 := (List.take_append_drop 17 L).symm
  have hl : (L.take 17).length = 17 := by rw [List.length_take]; omega
  have hll : (L.drop 17).length = L.length - 17 := List.length_drop ..
  have e : itm pos L = itm pos (L.take 17) ++ itm pos (L.drop 17) := by
    conv => lhs; rw [hsp]
    simp [itm]
  have hn' : ((L.take 17).map (fun x => hashInt x.1) ++ (L.drop 17).map (fun x => hashInt x.1)).Nodup := by
    rw [← List.map_append, List.take_append_drop]; exact hn
  rw [e]
  dsimp only
  have key : ∀ f : Option (Sem Value) × Sem Value → DSt → Sem (ForInStep DSt), (∀ k v (st : DSt), st.2.length + 1 ≠ 17 → f (some k, v) st = pure (.yield (st.1, st.2 ++ [(k, v)]))) →
      (∀ k v (st : DSt), st.2.length + 1 = 17 → f (some k, v) st = (dflush (st.2 ++ [(k, v)]) st.1 >>= fun m => pure (.yield (m, [])))) →
      Goes M (223 + (330 * n + (6 + 19 * (L.length - 17 - 17 * n)))) (forIn (itm pos (L.take 17) ++ itm pos (L.drop 17)) ((none, []) : DSt) f >>= fun st => dflush st.2 st.1 >>= fun r => match r with | some d => pure (.ref d) | none => newDict) s pos (.ref s.heap.objs.size) { s with heap := (dispOf s.toks L n).heap s.heap, toks := (dispOf s.toks L n).T } pos := by
    intro f hf1 hf2
    rw [full_eq hf1 hf2 _ hl, bind_assoc]
    have f0 := g_flush0 (M := M) (s := s) (pos := pos) hM (c := L.take 17) (by omega) (by omega) (List.nodup_append.mp hn').1 (okd _ (Nat.le_refl _))
    refine g_cast (g_bind (k := 223) (g_cast f0 (by omega)) ?_) rfl
    rw [← bind_assoc]
    refine g_cast (g_bind (k := 330 * n + (6 + 19 * (L.length - 17 - 17 * n))) (l := 0) (a := some s.heap.objs.size) (q₁ := pos) (s₁ := { s with heap := (dispOf s.toks L n).heap s.heap, toks := (dispOf s.toks L n).T }) ?_ g_leaf) rfl
    have d := g_disp (M := M) (H := s.heap) (f := f) (pos := pos) hM hf1 hf2 okd hsys n (L.drop 17) (Dsp.start s.toks (L.take 17)) { s with heap := (Dsp.start s.toks (L.take 17)).heap s.heap, toks := (Dsp.start s.toks (L.take 17)).T } rfl rfl (by omega) (by omega)
      (by show (mkE s.toks (L.take 17)).length + _ ≤ _; rw [mkE_length]; omega) (by show ((mkE s.toks (L.take 17)).map (·.hash) ++ _).Nodup; rw [mkE_hash]; exact hn')
      (by
        intro q
        have : (mkE s.toks (L.take 17)).length = 0 := by rw [show mkE s.toks (L.take 17) = [] from q]; rfl
        rw [mkE_length] at this; omega)
    rw [hll] at d
    exact d
  refine key _ (fun k v st h => ?_) (fun k v st h => ?_)
  · show (if ((st.2 ++ [(k, v)]).length == 17) = true then _ else _) = _
    rw [if_neg (by simpa using h)]
  · show (if ((st.2 ++ [(k, v)]).length == 17) = true then _ else _) = _
    rw [if_pos (by simpa using h)]
    rfl
theorem g_nsSet {ns : Addr} {x : Str} {v : Value} {o : Obj} {es : Array DictEntry} {n : Nat} (ho : s.heap.get? ns = some o) (hd : o.data = .dict es n) (hr : aRefKeyMayBeTheName x es = false) (ok : okA M ns = true) :
    Goes M 4 (nsSet ns x v) s q () { s with heap := s.heap.update ns (Obj.putName x (if x.cps.isEmpty then 0 else reduceHash (M.w.params.strHash x.cps)) (.str x s.toks) v), toks := s.toks + 1 } q := by
  unfold nsSet
  refine g_cast (g_bind (k := 1) (l := 3) (g_cast (g_bind (k := 1) (l := 0) g_ask g_leaf) rfl) ?_) rfl
  refine g_cast (g_bind (k := 1) (l := 2) (g_cast (g_bind (k := 1) (l := 0) g_fresh g_leaf) rfl) ?_) rfl
  refine g_cast (g_bind (k := 1) (l := 1) (g_loadPart ho) ?_) rfl
  rw [hd]
  dsimp only
  rw [hr]
  simp only [Bool.false_eq_true, if_false]
  exact g_updatePart (s := { s with toks := s.toks + 1 }) ho ok
noncomputable def afterB (x : Str) (L : List (Int × Str)) (n : Nat) (P : Params) (s : Shared) : Shared :=
  { s with heap := ((dispOf s.toks L n).heap s.heap).update mainNs (Obj.putName x (if x.cps.isEmpty then 0 else reduceHash (P.strHash x.cps)) (.str x (dispOf s.toks L n).T) (.ref s.heap.objs.size)), toks := (dispOf s.toks L n).T + 1 }
noncomputable def stepsB (L : List (Int × Str)) (n : Nat) : Nat := 9 + (223 + (330 * n + (6 + 19 * (L.length - 17 - 17 * n))))
theorem g_stmt {env : Env} {x : Str} {p p' pos : Pos} {ks : List (Option Expr)} {vs : List Expr} {L : List (Int × Str)} {n : Nat} {o : Obj} {es : Array DictEntry} {ep : Nat} (hM : M.tb = table) (hL : isPairs ks vs = some L) (hst : ∀ v, storeName env x v = nsSet mainNs x v)
    (okd : ∀ a, s.heap.objs.size ≤ a → okA M a = true) (hsys : 2 ≤ s.heap.objs.size) (h1 : 17 * n < L.length - 17) (h2 : L.length - 17 ≤ 17 * n + 15) (hs : L.length ≤ 1000000)
    (hn : (L.map fun x => hashInt x.1).Nodup) (ho : s.heap.get? mainNs = some o) (hd : o.data = .dict es ep) (hr : aRefKeyMayBeTheName x es = false) (ok : okA M mainNs = true) :
    Goes M (stepsB L n) (exec (.Assign [.Name x p'] (.Dict ks vs pos) p) env) s q Flow.next (afterB x L n M.w.params s) p' := by
  rw [exec_Assign_Name env x p' (Expr.Dict ks vs pos) p rfl]
  refine g_cast (g_bind (k := 1) (l := 8 + (223 + (330 * n + (6 + 19 * (L.length - 17 - 17 * n))))) g_standAt ?_) (by unfold stepsB; omega)
  refine g_cast (g_bind (k := 1 + (223 + (330 * n + (6 + 19 * (L.length - 17 - 17 * n))))) (l := 7) (a := .ref s.heap.objs.size) (q₁ := pos) (s₁ := { s with heap := (dispOf s.toks L n).heap s.heap, toks := (dispOf s.toks L n).T }) ?_ ?_) (by omega)
  · show Goes M _ (standAt pos >>= fun _ => dictDisplay ((evalEachOpt ks env).zip ((evalEach vs env).map fun v => do let x ← v; standAt pos; pure x))) s p _ _ pos
    rw [pairs_items hL]
    exact g_bind (k := 1) g_standAt (g_display hM okd hsys h1 h2 hs hn)
  have hm : ((dispOf s.toks L n).heap s.heap).get? mainNs = some o := addAll_old ho
  refine g_cast (g_bind (k := 1) (l := 6) g_standAt ?_) rfl
  refine g_cast (g_bind (k := 6) (l := 0) (a := ()) (q₁ := p') (s₁ := afterB x L n M.w.params s) ?_ g_leaf) rfl
  unfold bindName
  refine g_cast (g_bind (k := 1) (l := 5) (g_holding g_point) ?_) rfl
  rw [hst]
  exact g_cast (g_bind (k := 4) (l := 1) (g_nsSet (s := { s with heap := (dispOf s.toks L n).heap s.heap, toks := (dispOf s.toks L n).T }) hm hd hr ok) g_point) rfl
theorem piece_of_goes {tb : String → Option Builtin} {p : Program} {w : World} {n₀ : Nat} {ann : Option Value} {st : Stmt} {env : Env} {c : Code} {pos p' qq : Pos} {k : Nat} {s s' : Shared} (h : Goes ⟨tb, p, w, n₀, ann, 1⟩ k (exec st env) s pos .next s' p') :
    segRun tb p w n₀ ann 1 (k + 1) s (pieceOf st env c pos [topFrame qq]) = some (.next, s', c, p') :=
  seg_go (h doneF deadEnd id id c [topFrame qq] (Nat.le_refl _)) rfl
end
end Mine
end
section
open PySem PySem.W PyProof.Rows
namespace Mine
noncomputable abbrev pg : Program := Challenge.pw_wr0042_02
noncomputable def bdy : List Stmt := pg.main.body
noncomputable def stAt (k : Nat) : Stmt := (bdy[k]?).getD (.Pass default)
noncomputable def e0 : Env := { scope := pg.main.scope, locals := mainNs, globals := mainNs, cells := [], code := .ref 13, frame := some 14 }
noncomputable def cE : Code := .body bdy e0
noncomputable def stA : List Stmt := bdy.take 12
noncomputable def stC : List Stmt := bdy.drop 13
noncomputable def b3ks : List (Option Expr) := match stAt 12 with | .Assign _ (.Dict ks _ _) _ => ks | _ => []
noncomputable def b3vs : List Expr := match stAt 12 with | .Assign _ (.Dict _ vs _) _ => vs | _ => []
noncomputable def b3pos : Pos := match stAt 12 with | .Assign _ (.Dict _ _ p) _ => p | _ => default
noncomputable def b3p : Pos := match stAt 12 with | .Assign _ _ p => p | _ => default
noncomputable def b3p' : Pos := match stAt 12 with | .Assign [.Name _ p] _ _ => p | _ => default
noncomputable def b3L : List (Int × Str) := (isPairs b3ks b3vs).getD []
noncomputable abbrev b3n : Str := Str.ofString "b3_exceptions"
theorem b3_is : stAt 12 = .Assign [.Name b3n b3p'] (.Dict b3ks b3vs b3pos) b3p := by kernel_rfl
theorem bdy_is : bdy = stA ++ (stAt 12 :: stC) := by kernel_rfl
theorem pairs_is : isPairs b3ks b3vs = some b3L := by kernel_rfl
theorem len_is : b3L.length = 650 := by kernel_rfl
noncomputable def rising : List Int → Bool
  | a :: b :: r => (decide (a < b)) && rising (b :: r)
  | _ => true
theorem rising_le : ∀ {l : List Int} {a : Int}, rising (a :: l) = true → ∀ b ∈ l, a < b
  | [], _, _, b, h => by cases h
  | c :: r, a, h, b, hb => by
    simp only [rising, Bool.and_eq_true, decide_eq_true_eq] at h
    rcases List.mem_cons.mp hb with rfl | hb
    · exact h.1
    · have := rising_le h.2 b hb
      omega
theorem rising_nodup : ∀ {l : List Int}, rising l = true → l.Nodup
  | [], _ => List.nodup_nil
  | a :: r, h => by
    refine List.nodup_cons.mpr ⟨fun hm => ?_, rising_nodup ?_⟩
    · have := rising_le h a hm; omega
    · cases r with
      | nil => rfl
      | cons b r => simp only [rising, Bool.and_eq_true] at h; exact h.2
theorem nodup_is : (b3L.map fun x => hashInt x.1).Nodup := rising_nodup (by kernel_rfl)
theorem store_is (v : Value) : storeName e0 b3n v = nsSet mainNs b3n v := by kernel_rfl
end Mine
end
section
open PySem PySem.W PyProof.Rows
namespace Mine
noncomputable def S0 (w : World) (os : OsState) : Shared := ⟨boot_heap w.params, Array.mk [], boot_drawn, boot_toks, os⟩
noncomputable abbrev qF : Pos := default
noncomputable def ranPre (w : World) (os : OsState) : Option (Shared × Thread) := topGo treeTable pg w 11 (some (.ref 6)) 12 (S0 w os) (topStub pg)
noncomputable def Sa (w : World) (os : OsState) : Shared := match ranPre w os with | some r => r.1 | none => S0 w os
theorem pre_is (w : World) (os : OsState) : ranPre w os = some (Sa w os, ⟨denote treeTable cE, cE, default, [topFrame qF]⟩) := by
  kernel_rfl
theorem block_is (w : World) (os : OsState) (s : Shared) : segRun treeTable pg w 11 (some (.ref 6)) 1 1 s (blockOf bdy e0 cE default [topFrame qF]) = some (.next, s, cE, default) := by kernel_rfl
theorem tw_seg : @segRun = PySem.W.Fast.tw14374325043358763698 := PySem.W.Fast.te14374325043358763698
theorem tw_tab : treeTable = PySem.W.Fast.tw14364793385576792824 := PySem.W.Fast.te14364793385576792824
theorem tw_exs : @execs = PySem.W.Fast.tw12563942051412417395 := PySem.W.Fast.te12563942051412417395
noncomputable abbrev WW (w : World) (b1 b2 : Bool) : World := (w.withFollow "set-order" b1).withFollow "special-get-raises" b2
noncomputable def ranA (w : World) (os : OsState) : Option (Flow × Shared × Code × Pos) := segRun treeTable pg w 11 (some (.ref 6)) 1 1678 (Sa w os) ⟨(execs stA e0).wrap doneF deadEnd id id, cE, default, [topFrame qF]⟩
theorem ranA_tw (w : World) (os : OsState) : ranA w os = PySem.W.Fast.tw14374325043358763698 PySem.W.Fast.tw14364793385576792824 pg w 11 (some (.ref 6)) 1 1678 (Sa w os) ⟨(PySem.W.Fast.tw12563942051412417395 stA e0).wrap doneF deadEnd id id, cE, default, [topFrame qF]⟩ := by
  unfold ranA
  rw [tw_seg, tw_exs]
  rw [show (treeTable : String → Option Builtin) = _ from tw_tab]
noncomputable def ranC (w : World) (s : Shared) : Option (Flow × Shared × Code × Pos) := segRun treeTable pg w 11 (some (.ref 6)) 1 160 s ⟨(execs stC e0).wrap doneF deadEnd id id, cE, b3p', [topFrame qF]⟩
theorem ranC_tw (w : World) (s : Shared) : ranC w s = PySem.W.Fast.tw14374325043358763698 PySem.W.Fast.tw14364793385576792824 pg w 11 (some (.ref 6)) 1 160 s ⟨(PySem.W.Fast.tw12563942051412417395 stC e0).wrap doneF deadEnd id id, cE, b3p', [topFrame qF]⟩ := by
  unfold ranC
  rw [tw_seg, tw_exs]
  rw [show (treeTable : String → Option Builtin) = _ from tw_tab]
theorem tw_seen : @openSeen = PySem.W.Fast.tw4187177175401517315 := PySem.W.Fast.te4187177175401517315
noncomputable def mainOk (s : Shared) : Bool := match s.heap.get? 3 with
  | some o => (match o.data with | .dict es _ => !aRefKeyMayBeTheName b3n es | _ => false)
  | none => false
end Mine
end
section
open PySem PySem.W PyProof.Rows
namespace Mine
noncomputable def clsBody : List Stmt := match stAt 8 with | .ClassDef _ _ _ body .. => body | _ => []
noncomputable def inCls (i : Nat) : Stmt := (clsBody[i]?).getD (.Pass default)
noncomputable def fnD (st : Stmt) (qual : Str) (cl : List (Str × Addr)) (ct code dfl kwd md doc : Value) : Data := match st with
  | .FunctionDef name params body _ _ _ scope _ _ _ => .func { name, qualname := qual, params, body := .stmts body, scope, globals := 3, closure := cl, defaults := dfl, kwdefaults := kwd, doc, pyModule := md, annotations := none, code, closureTuple := ct, builtins := 0 }
  | _ => .plain
noncomputable def b3Obj : Obj := dO (dispOf 388 b3L 37).ms 650
noncomputable def K1 (P : Params) : Frag := [
  (1, ⟨.type "dict", none, .dict #[⟨PyData.keyHash P (PySem.Str.ofString "builtins"), .str (PySem.Str.ofString "builtins") 162, .ref 4⟩, ⟨PyData.keyHash P (PySem.Str.ofString "__main__"), .str (PySem.Str.ofString "__main__") 163, .ref 5⟩] 2, #[]⟩),
  (2, ⟨.none, none, .dict #[] 0, #[]⟩),
  (3, ⟨.type "dict", none, .dict #[⟨PyData.keyHash P (PySem.Str.ofString "__name__"), .str (PySem.Str.ofString "__name__") 165, .str (PySem.Str.ofString "law_wr0042_02") 2347⟩, ⟨PyData.keyHash P (PySem.Str.ofString "__doc__"), .str (PySem.Str.ofString "__doc__") 166, .none⟩, ⟨PyData.keyHash P (PySem.Str.ofString "__package__"), .str (PySem.Str.ofString "__package__") 167, .none⟩, ⟨PyData.keyHash P (PySem.Str.ofString "__loader__"), .str (PySem.Str.ofString "__loader__") 168, .builtin "__main__.__loader__#opaque"⟩, ⟨PyData.keyHash P (PySem.Str.ofString "__spec__"), .str (PySem.Str.ofString "__spec__") 169, .none⟩, ⟨PyData.keyHash P (PySem.Str.ofString "__annotations__"), .str (PySem.Str.ofString "__annotations__") 170, .ref 6⟩, ⟨PyData.keyHash P (PySem.Str.ofString "__builtins__"), .str (PySem.Str.ofString "__builtins__") 171, .ref 4⟩, ⟨PyData.keyHash P (PySem.Str.ofString "__file__"), .str (PySem.Str.ofString "__file__") 173, .str (PySem.Str.ofString "/claim/cut.py") 172⟩, ⟨PyData.keyHash P (PySem.Str.ofString "__cached__"), .str (PySem.Str.ofString "__cached__") 174, .none⟩, ⟨PyData.keyHash P (PySem.Str.ofString "_wall"), .str (PySem.Str.ofString "_wall") 193, .ref 21⟩, ⟨PyData.keyHash P (PySem.Str.ofString "_strcoll"), .str (PySem.Str.ofString "_strcoll") 203, .ref 28⟩, ⟨PyData.keyHash P (PySem.Str.ofString "ELLIPSIS_MARKER"), .str (PySem.Str.ofString "ELLIPSIS_MARKER") 207, .str (PySem.Str.ofString "...") 206⟩, ⟨PyData.keyHash P (PySem.Str.ofString "_ellipsis_match"), .str (PySem.Str.ofString "_ellipsis_match") 219, .ref 35⟩, ⟨PyData.keyHash P (PySem.Str.ofString "EMPTYSTRING"), .str (PySem.Str.ofString "EMPTYSTRING") 223, .str (PySem.Str.ofString "") 222⟩, ⟨PyData.keyHash P (PySem.Str.ofString "_Accumulator"), .str (PySem.Str.ofString "_Accumulator") 318, .ref 115⟩, ⟨PyData.keyHash P (PySem.Str.ofString "b1_set"), .str (PySem.Str.ofString "b1_set") 380, .ref 127⟩, ⟨PyData.keyHash P (PySem.Str.ofString "in_table_b1"), .str (PySem.Str.ofString "in_table_b1") 387, .ref 137⟩, ⟨PyData.keyHash P (PySem.Str.ofString "b3_exceptions"), .str (PySem.Str.ofString "b3_exceptions") 2338, .ref 138⟩, ⟨PyData.keyHash P (PySem.Str.ofString "map_table_b3"), .str (PySem.Str.ofString "map_table_b3") 2346, .ref 183⟩, ⟨PyData.keyHash P (PySem.Str.ofString "_law_typed"), .str (PySem.Str.ofString "_law_typed") 2361, .ref 190⟩, ⟨PyData.keyHash P (PySem.Str.ofString "_law_falls"), .str (PySem.Str.ofString "_law_falls") 2367, .ref 195⟩, ⟨PyData.keyHash P (PySem.Str.ofString "_law_gauss"), .str (PySem.Str.ofString "_law_gauss") 2378, .ref 202⟩, ⟨PyData.keyHash P (PySem.Str.ofString "law"), .str (PySem.Str.ofString "law") 2384, .ref 207⟩] 23, #[]⟩),
  (4, ⟨.type "module", some 0, .plain, #[]⟩),
  (39, ⟨.type "cell", none, .cell (some (.ref 115)), #[]⟩),
  (44, ⟨.type "tuple", none, .seq #[.int (0) 236] 0, #[]⟩),
  (51, ⟨.type "code", none, .fields #[.str (PySem.Str.ofString "__init__") 237, .str (PySem.Str.ofString "_Accumulator.__init__") 238, .str (PySem.Str.ofString "/claim/cut.py") 239, .int (41) 0, .int (2) 0, .int (0) 0, .int (0) 0, .int (3) 0, .ref 46, .bool true, .int (181) 0, .ref 47, .none, .ref 48, .ref 49, .ref 50, .int (243) 0, .int (41) 0, .str (PySem.Str.ofString "/claim/cut.py") 244], #[]⟩),
  (52, ⟨.type "function", none, fnD (inCls 0) (PySem.Str.ofString "_Accumulator.__init__") [((PySem.Str.ofString "__class__"), 39)] (.ref 45) (.ref 51) (.ref 44) (.none) (.str (PySem.Str.ofString "cpy313.email.header") 220) (.none), #[]⟩),
  (58, ⟨.type "code", none, .fields #[.str (PySem.Str.ofString "push") 246, .str (PySem.Str.ofString "_Accumulator.push") 247, .str (PySem.Str.ofString "/claim/cut.py") 248, .int (45) 0, .int (3) 0, .int (0) 0, .int (0) 0, .int (3) 0, .ref 53, .bool true, .int (181) 0, .ref 54, .none, .ref 55, .ref 56, .ref 57, .int (252) 0, .int (45) 0, .str (PySem.Str.ofString "/claim/cut.py") 253], #[]⟩),
  (59, ⟨.type "function", none, fnD (inCls 1) (PySem.Str.ofString "_Accumulator.push") [] (.none) (.ref 58) (.none) (.none) (.str (PySem.Str.ofString "cpy313.email.header") 220) (.none), #[]⟩),
  (74, ⟨.type "code", none, .fields #[.str (PySem.Str.ofString "pop") 264, .str (PySem.Str.ofString "_Accumulator.pop") 265, .str (PySem.Str.ofString "/claim/cut.py") 266, .int (51) 0, .int (1) 0, .int (0) 0, .int (0) 0, .int (3) 0, .ref 69, .bool true, .int (181) 0, .ref 70, .none, .ref 71, .ref 72, .ref 73, .int (269) 0, .int (51) 0, .str (PySem.Str.ofString "/claim/cut.py") 270], #[]⟩),
  (75, ⟨.type "function", none, fnD (inCls 3) (PySem.Str.ofString "_Accumulator.pop") [((PySem.Str.ofString "__class__"), 39)] (.ref 68) (.ref 74) (.none) (.none) (.str (PySem.Str.ofString "cpy313.email.header") 220) (.none), #[]⟩),
  (81, ⟨.type "code", none, .fields #[.str (PySem.Str.ofString "__len__") 272, .str (PySem.Str.ofString "_Accumulator.__len__") 273, .str (PySem.Str.ofString "/claim/cut.py") 274, .int (56) 0, .int (1) 0, .int (0) 0, .int (0) 0, .int (3) 0, .ref 76, .bool true, .int (181) 0, .ref 77, .none, .ref 78, .ref 79, .ref 80, .int (276) 0, .int (56) 0, .str (PySem.Str.ofString "/claim/cut.py") 277], #[]⟩),
  (82, ⟨.type "function", none, fnD (inCls 4) (PySem.Str.ofString "_Accumulator.__len__") [] (.none) (.ref 81) (.none) (.none) (.str (PySem.Str.ofString "cpy313.email.header") 220) (.none), #[]⟩),
  (88, ⟨.type "code", none, .fields #[.str (PySem.Str.ofString "__str__") 279, .str (PySem.Str.ofString "_Accumulator.__str__") 280, .str (PySem.Str.ofString "/claim/cut.py") 281, .int (59) 0, .int (1) 0, .int (0) 0, .int (0) 0, .int (3) 0, .ref 83, .bool true, .int (181) 0, .ref 84, .none, .ref 85, .ref 86, .ref 87, .int (283) 0, .int (59) 0, .str (PySem.Str.ofString "/claim/cut.py") 284], #[]⟩),
  (111, ⟨.type "code", none, .fields #[.str (PySem.Str.ofString "part_count") 301, .str (PySem.Str.ofString "_Accumulator.part_count") 302, .str (PySem.Str.ofString "/claim/cut.py") 303, .int (68) 0, .int (1) 0, .int (0) 0, .int (0) 0, .int (3) 0, .ref 106, .bool true, .int (181) 0, .ref 107, .none, .ref 108, .ref 109, .ref 110, .int (306) 0, .int (68) 0, .str (PySem.Str.ofString "/claim/cut.py") 307], #[]⟩),
  (112, ⟨.type "function", none, fnD (inCls 8) (PySem.Str.ofString "_Accumulator.part_count") [((PySem.Str.ofString "__class__"), 39)] (.ref 105) (.ref 111) (.none) (.none) (.str (PySem.Str.ofString "cpy313.email.header") 220) (.none), #[]⟩),
  (114, ⟨.type "dict", none, .dict #[⟨PyData.keyHash P (PySem.Str.ofString "__module__"), .str (PySem.Str.ofString "__module__") 231, .str (PySem.Str.ofString "cpy313.email.header") 220⟩, ⟨PyData.keyHash P (PySem.Str.ofString "__firstlineno__"), .str (PySem.Str.ofString "__firstlineno__") 235, .int (39) 234⟩, ⟨PyData.keyHash P (PySem.Str.ofString "__init__"), .str (PySem.Str.ofString "__init__") 245, .ref 52⟩, ⟨PyData.keyHash P (PySem.Str.ofString "push"), .str (PySem.Str.ofString "push") 254, .ref 59⟩, ⟨PyData.keyHash P (PySem.Str.ofString "pop_from"), .str (PySem.Str.ofString "pop_from") 263, .ref 67⟩, ⟨PyData.keyHash P (PySem.Str.ofString "pop"), .str (PySem.Str.ofString "pop") 271, .ref 75⟩, ⟨PyData.keyHash P (PySem.Str.ofString "__len__"), .str (PySem.Str.ofString "__len__") 278, .ref 82⟩, ⟨PyData.keyHash P (PySem.Str.ofString "__str__"), .str (PySem.Str.ofString "__str__") 285, .ref 89⟩, ⟨PyData.keyHash P (PySem.Str.ofString "reset"), .str (PySem.Str.ofString "reset") 293, .ref 97⟩, ⟨PyData.keyHash P (PySem.Str.ofString "is_onlyws"), .str (PySem.Str.ofString "is_onlyws") 300, .ref 104⟩, ⟨PyData.keyHash P (PySem.Str.ofString "part_count"), .str (PySem.Str.ofString "part_count") 308, .ref 112⟩, ⟨PyData.keyHash P (PySem.Str.ofString "__static_attributes__"), .str (PySem.Str.ofString "__static_attributes__") 310, .ref 113⟩, ⟨PyData.keyHash P (PySem.Str.ofString "__dict__"), .str (PySem.Str.ofString "__dict__") 313, .ref 116⟩, ⟨PyData.keyHash P (PySem.Str.ofString "__weakref__"), .str (PySem.Str.ofString "__weakref__") 315, .ref 117⟩, ⟨PyData.keyHash P (PySem.Str.ofString "__doc__"), .str (PySem.Str.ofString "__doc__") 316, .none⟩] 5, #[]⟩),
  (115, ⟨.type "type", none, .cls { name := (PySem.Str.ofString "_Accumulator"), bases := [.type "list"], mro := [.ref 115, .type "list", .type "object"], ns := 114, qualname := (PySem.Str.ofString "_Accumulator"), hasDict := true, slotNames := [], subclasses := [], abstract := false, collection := none, hasDel := false }, #[some (.ref 36), none, some (.str (PySem.Str.ofString "_Accumulator") 224), some (.str (PySem.Str.ofString "_Accumulator") 232), some (.builtin "list.__new__"), some (.bool true)]⟩),
  (127, ⟨.type "set", none, .set #[(65024, .int (65024) 337), (65025, .int (65025) 338), (65026, .int (65026) 339), (65027, .int (65027) 340), (65028, .int (65028) 341), (65029, .int (65029) 342), (6150, .int (6150) 323), (65030, .int (65030) 343), (65031, .int (65031) 344), (65032, .int (65032) 345), (65033, .int (65033) 346), (6155, .int (6155) 324), (6156, .int (6156) 325), (6157, .int (6157) 326), (8203, .int (8203) 327), (8204, .int (8204) 328), (8205, .int (8205) 329), (65034, .int (65034) 347), (65035, .int (65035) 348), (65036, .int (65036) 349), (65037, .int (65037) 350), (65038, .int (65038) 351), (65039, .int (65039) 352), (173, .int (173) 321), (847, .int (847) 322), (8288, .int (8288) 330), (65279, .int (65279) 331)] 29 { mask := 127, place := #[0, 1, 2, 3, 4, 5, 6, 7, 8, 9, 10, 11, 12, 13, 14, 15, 16, 17, 18, 19, 20, 21, 22, 45, 79, 96, 127], dummies := #[], finger := 0, led := !P.followText "set-order", moves := 2, plain := true }, #[]⟩),
  (138, b3Obj)]
noncomputable def K1T (P : Params) : Frag := (77, ⟨.none, none, .fields #[], #[]⟩) :: (84, ⟨.none, none, .fields #[], #[]⟩) :: K1 P
noncomputable def as1 : List Addr := [77, 84, 1, 2, 3, 4, 39, 44, 51, 52, 58, 59, 74, 75, 81, 82, 88, 111, 112, 114, 115, 127, 138]
theorem as1_is (P : Params) : as1 = (K1T P).map (·.1) := rfl
noncomputable def hk1 : Hook := kHook K1T as1 as1_is
noncomputable def qv : Program := { pg with main := { pg.main with body := [stAt 0, stAt 2, stAt 4, stAt 5, stAt 7, stAt 11, stAt 13, stAt 15, stAt 16, stAt 17, stAt 18] } }
noncomputable def lsv : List Str := [Str.ofString "_Accumulator", Str.ofString "b1_set", Str.ofString "b3_exceptions"]
noncomputable def XtV (s : Shared) : Bool := xlAt qv [] s && recOk [] s
noncomputable def lookV (w : World) (s : Shared) :=
  ((staticsOk (importedModules pg.main.body) (boot_heap w.params) s.heap && namesBound pg s.heap && gensDone s && laidKept (boot_heap w.params) s.heap), openSeen qv lsv (importedModules pg.main.body) XtV true s, hk1.obs s)
noncomputable def fullV (w : World) (os : OsState) :=
  (ranA w os).map fun r => ((r.1, r.2.2), (r.2.1.heap.objs.size, mainOk r.2.1), (ranC w (afterB b3n b3L 37 w.params r.2.1)).map fun r2 => ((r2.1, r2.2.2), lookV w r2.2.1))
noncomputable abbrev posA : Pos := ⟨72, 0, 73, 30⟩
noncomputable abbrev posC : Pos := ⟨109, 0, 157, 22⟩
noncomputable def goodV (w : World) := some (((Flow.next, cE, posA), ((138, true) : Nat × Bool), some ((Flow.next, cE, posC), (true, openGood qv lsv, hk1.val w))))
end Mine
end
section
open PySem PySem.W PyProof.Rows
namespace Mine
theorem full_ff (w : World) (os : OsState) : fullV (WW w false false) os = goodV (WW w false false) := by
  unfold fullV
  simp only [ranA_tw, ranC_tw]
  unfold lookV
  rw [tw_seen]
  kernel_rfl
theorem full_ft (w : World) (os : OsState) : fullV (WW w false true) os = goodV (WW w false true) := by
  unfold fullV
  simp only [ranA_tw, ranC_tw]
  unfold lookV
  rw [tw_seen]
  kernel_rfl
theorem full_tf (w : World) (os : OsState) : fullV (WW w true false) os = goodV (WW w true false) := by
  unfold fullV
  simp only [ranA_tw, ranC_tw]
  unfold lookV
  rw [tw_seen]
  kernel_rfl
theorem full_tt (w : World) (os : OsState) : fullV (WW w true true) os = goodV (WW w true true) := by
  unfold fullV
  simp only [ranA_tw, ranC_tw]
  unfold lookV
  rw [tw_seen]
  kernel_rfl
theorem full_all (w : World) : ∀ os, fullV w os = goodV w :=
  byRow2 "special-get-raises" (P := fun w => ∀ os, fullV w os = goodV w)
    (fun w => byRow2 "set-order" (P := fun w => ∀ os, fullV (w.withFollow "special-get-raises" false) os = goodV (w.withFollow "special-get-raises" false)) (fun w => full_ff w) (fun w => full_tf w) w)
    (fun w => byRow2 "set-order" (P := fun w => ∀ os, fullV (w.withFollow "special-get-raises" true) os = goodV (w.withFollow "special-get-raises" true)) (fun w => full_ft w) (fun w => full_tt w) w) w
end Mine
end
section
open PySem PySem.W PyProof.Rows
namespace Mine
noncomputable def MM : Nat := 12 + (1 + (1678 + ((stepsB b3L 37 + 1) + (160 + 2))))
noncomputable def NN : Nat := MM + 600
theorem boot_is (w : World) : (fencedOpening treeTable pg w NN).map (fun s => (s.heap, s.gens, s.drawn, s.toks)) = some (boot_heap w.params, Array.mk [], boot_drawn, boot_toks) :=
  boot_open (by kernel_rfl) (Nat.ble_eq_true_of_le (by unfold NN; omega)) (fun s => by kernel_rfl) w
theorem run_is (w : World) (os : OsState) : ∃ s, topRun treeTable pg w 11 (some (.ref 6)) NN (S0 w os) (topStub pg) = some s ∧ lookV w s = (true, openGood qv lsv, hk1.val w) := by
  have h := full_all w os
  unfold fullV goodV at h
  obtain ⟨⟨f, sA, cA, pA⟩, hA, h⟩ := Option.map_eq_some_iff.mp h
  obtain ⟨h1, h⟩ := Prod.mk.inj h
  obtain ⟨h2, h⟩ := Prod.mk.inj h
  obtain ⟨⟨f2, sC, cC, pC⟩, hC, h⟩ := Option.map_eq_some_iff.mp h
  obtain ⟨h3, h⟩ := Prod.mk.inj h
  obtain ⟨rfl, h1⟩ := Prod.mk.inj h1
  obtain ⟨rfl, rfl⟩ := Prod.mk.inj h1
  obtain ⟨rfl, h3⟩ := Prod.mk.inj h3
  obtain ⟨rfl, rfl⟩ := Prod.mk.inj h3
  obtain ⟨h4, h5⟩ := Prod.mk.inj h2
  refine ⟨sC, ?_, h⟩
  have hm : ∃ o es ep, sA.heap.get? mainNs = some o ∧ o.data = .dict es ep ∧ aRefKeyMayBeTheName b3n es = false := by
    unfold mainOk at h5
    split at h5
    · rename_i o ho
      split at h5
      · rename_i es ep hd
        exact ⟨o, es, ep, ho, hd, by simpa using h5⟩
      · cases h5
    · cases h5
  obtain ⟨o, es, ep, ho, hd, hr⟩ := hm
  have gB := g_stmt (M := ⟨table, pg, w, 11, some (.ref 6), 1⟩) (s := sA) (q := posA) (env := e0) (x := b3n) (p := b3p) (p' := b3p') (pos := b3pos) (ks := b3ks) (vs := b3vs) (L := b3L) (n := 37) rfl pairs_is store_is
    (fun a ha => by
      have : 11 ≤ a := by dsimp only at h4; omega
      unfold okA
      rw [show Nat.ble 11 a = true from Nat.ble_eq_true_of_le this]; rfl) (by dsimp only at h4 ⊢; omega) (by rw [len_is]; omega) (by rw [len_is]; omega) (by rw [len_is]; omega) nodup_is ho hd hr rfl
  have pB := piece_of_goes (c := cE) (qq := qF) gB
  rw [table_eq_tree] at pB
  rw [← b3_is] at pB
  have fin : topRun treeTable pg w 11 (some (.ref 6)) 2 sC (restOf [] e0 cE posC [topFrame qF]) = some sC := by
    obtain ⟨heap, gens, drawn, toks, os⟩ := sC
    rfl
  have c1 := piece_app (l := stC) (rest := []) (p' := posC) (pos := b3p') (s' := sC) hC fin
  rw [List.append_nil] at c1
  have c2 := piece_cons pB c1
  have c3 := piece_app (l := stA) (rest := stAt 12 :: stC) (p' := posA) (pos := default) (s' := sA) hA c2
  rw [← bdy_is] at c3
  have c4 := piece_block (block_is w os (Sa w os)) c3
  have c5 := go_top (pre_is w os) c4
  exact topRun_mono 600 _ _ _ _ c5
theorem size_is (w : World) : ((boot_heap w.params).isNs mainGlobals && (Array.mk [] : Array GenState).size == 0, (boot_heap w.params).objs.size, (boot_heap w.params).nsMap mainGlobals "__annotations__") = (true, 11, some (.ref 6)) := by kernel_rfl
theorem left1 : LeftO pg qv lsv XtV hk1.obs hk1.val NN true := fun w => by
  obtain ⟨⟨h, gs, d, k, os⟩, e, e'⟩ := Option.map_eq_some_iff.mp (boot_is w)
  obtain ⟨rfl, rfl, rfl, rfl⟩ : h = boot_heap w.params ∧ gs = Array.mk [] ∧ d = boot_drawn ∧ k = boot_toks := by simpa using e'
  obtain ⟨z1, z2, z3⟩ : _ ∧ _ ∧ _ := by simpa only [Prod.mk.injEq] using size_is w
  obtain ⟨s, hr, hl⟩ := run_is w os
  obtain ⟨l1, hl⟩ := Prod.mk.inj hl
  obtain ⟨l2, l3⟩ := Prod.mk.inj hl
  have t : topFrom treeTable pg w NN ⟨boot_heap w.params, Array.mk [], boot_drawn, boot_toks, os⟩ = some s := by
    unfold topFrom
    dsimp only
    rw [z1, z2, z3]
    show ((topRun treeTable pg w 11 (some (.ref 6)) NN (S0 w os) (topStub pg)).bind _) = _
    rw [hr]
    show (match staticsOk (importedModules pg.main.body) (boot_heap w.params) s.heap && namesBound pg s.heap && gensDone s && laidKept (boot_heap w.params) s.heap with | true => _ | false => _) = _
    rw [l1]
  unfold openEnds
  rw [e]
  show (topFrom treeTable pg w NN _).map _ = _
  rw [t]
  exact congrArg some (Prod.ext l2 l3)
end Mine
end
section
open PySem PySem.W PyProof.Rows PySem.Calls
namespace Mine
inductive WX {α : Type} (P : α → Prop) where
  | mk (f : α) (h : P f)
  | no
noncomputable def WX.val {α : Type} {P : α → Prop} : WX P → Option α
  | .mk f _ => some f
  | .no => none
theorem WX.spec {α : Type} {P : α → Prop} : ∀ (x : WX P) {f : α}, x.val = some f → P f
  | .mk _ h, _, e => by cases e; exact h
noncomputable def dStrP : Arguments := fnP (stAt 2)
noncomputable def dStrB : List Stmt := fnB (stAt 2)
noncomputable def dStrS : Scope := fnS (stAt 2)
@[reducible] noncomputable def dStr (doc pm cdv : Value) : FnD := { f := 28, name := "_strcoll", qual := "_strcoll", params := dStrP, body := dStrB, scope := dStrS, dV := .none, kV := .none, doc, pm, cdv, ct := .none, an := none, pn := ["a", "b"], rn := [] }
@[reducible] noncomputable def strT1 (s : Stmt) (f : PS → Option (Fl × PS)) : Prop := ∀ (G : Gd) (C : Cx) (doc : Value) (pm : Value) (cdv : Value) (L : Addr) (g : Heap) (K : COk1 G (cxF C (dStr doc pm cdv) L g)), X1 (G) (cxF C (dStr doc pm cdv) L g) s f
@[reducible] noncomputable def strT (s : List Stmt) (f : PS → Option (Fl × PS)) : Prop := ∀ (G : Gd) (C : Cx) (doc : Value) (pm : Value) (cdv : Value) (L : Addr) (g : Heap) (K : COk1 G (cxF C (dStr doc pm cdv) L g)), Xs (G) (cxF C (dStr doc pm cdv) L g) s f
noncomputable abbrev strS_0 : Stmt := pick (s := nthS dStrB 0) (t := .Return _ _) rfl
@[reducible] noncomputable def strX_0 : WX (strT1 strS_0) := .mk _ (by with_reducible exact fun G C doc pm cdv L g K => (X1.ret (Ev.bin (Ev.cmp (Ev.var K (i := 0) (b := false) (by kernel_rfl) (hd := by kernel_rfl)) (Ev.var K (i := 1) (b := false) (by kernel_rfl) (hd := by kernel_rfl)) (Op2.gt) (hm := by kernel_rfl)) (Ev.cmp (Ev.var K (i := 0) (b := false) (by kernel_rfl) (hd := by kernel_rfl)) (Ev.var K (i := 1) (b := false) (by kernel_rfl) (hd := by kernel_rfl)) (Op2.lt) (hm := by kernel_rfl)) (Op2.sub))))
noncomputable def strF_0 : PS → Option (Fl × PS) := by with_reducible refine (?g : {f : PS → Option (Fl × PS)} → {h : strT1 strS_0 f} → strX_0 = .mk f h → PS → Option (Fl × PS)) rfl; exact fun {f} {h} _ => f
theorem strW_0 : strT1 strS_0 strF_0 := by with_reducible exact WX.spec strX_0 (by kernel_rfl)
@[reducible] noncomputable def strX : WX (strT [strS_0]) := .mk _ (by with_reducible exact fun G C doc pm cdv L g K => (Xs.cons (strW_0 G C doc pm cdv L g K) (Xs.nil)))
noncomputable def strF : PS → Option (Fl × PS) := by with_reducible refine (?g : {f : PS → Option (Fl × PS)} → {h : strT [strS_0] f} → strX = .mk f h → PS → Option (Fl × PS)) rfl; exact fun {f} {h} _ => f
theorem strBi : dStrB = [strS_0] := by kernel_rfl
theorem strW : strT dStrB strF := by rw [strBi]; with_reducible exact WX.spec strX (by kernel_rfl)
end Mine
end
section
open PySem PySem.W PyProof.Rows PySem.Calls
set_option maxHeartbeats 0
namespace Mine
noncomputable def dPushP : Arguments := fnP (inCls 1)
noncomputable def dPushB : List Stmt := fnB (inCls 1)
noncomputable def dPushS : Scope := fnS (inCls 1)
@[reducible] noncomputable def dPush : FnD := { f := 59, name := "push", qual := "_Accumulator.push", params := dPushP, body := dPushB, scope := dPushS, dV := .none, kV := .none, doc := .none, pm := .str (Str.ofString "cpy313.email.header") 220, cdv := .ref 58, ct := .none, an := none, pn := ["self", "fws", "string"], rn := [] }
noncomputable def dAIP : Arguments := fnP (inCls 0)
noncomputable def dAIB : List Stmt := fnB (inCls 0)
noncomputable def dAIS : Scope := fnS (inCls 0)
@[reducible] noncomputable def dAI : FnD := { f := 52, name := "__init__", qual := "_Accumulator.__init__", params := dAIP, body := dAIB, scope := dAIS, dV := .ref 44, kV := .none, doc := .none, pm := .str (Str.ofString "cpy313.email.header") 220, cdv := .ref 51, ct := .ref 45, an := none, pn := ["self", "initial_size"], rn := [], cl := [("__class__", 39)] }
noncomputable def dALP : Arguments := fnP (inCls 4)
noncomputable def dALB : List Stmt := fnB (inCls 4)
noncomputable def dALS : Scope := fnS (inCls 4)
@[reducible] noncomputable def dAL : FnD := { f := 82, name := "__len__", qual := "_Accumulator.__len__", params := dALP, body := dALB, scope := dALS, dV := .none, kV := .none, doc := .none, pm := .str (Str.ofString "cpy313.email.header") 220, cdv := .ref 81, ct := .none, an := none, pn := ["self"], rn := [] }
noncomputable def dPopP : Arguments := fnP (inCls 3)
noncomputable def dPopB : List Stmt := fnB (inCls 3)
noncomputable def dPopS : Scope := fnS (inCls 3)
@[reducible] noncomputable def dPop : FnD := { f := 75, name := "pop", qual := "_Accumulator.pop", params := dPopP, body := dPopB, scope := dPopS, dV := .none, kV := .none, doc := .none, pm := .str (Str.ofString "cpy313.email.header") 220, cdv := .ref 74, ct := .ref 68, an := none, pn := ["self"], rn := [], cl := [("__class__", 39)] }
noncomputable def dPcP : Arguments := fnP (inCls 8)
noncomputable def dPcB : List Stmt := fnB (inCls 8)
noncomputable def dPcS : Scope := fnS (inCls 8)
@[reducible] noncomputable def dPc : FnD := { f := 112, name := "part_count", qual := "_Accumulator.part_count", params := dPcP, body := dPcB, scope := dPcS, dV := .none, kV := .none, doc := .none, pm := .str (Str.ofString "cpy313.email.header") 220, cdv := .ref 111, ct := .ref 105, an := none, pn := ["self"], rn := [], cl := [("__class__", 39)] }
@[reducible] noncomputable def gd1 (w : World) (mg mb : Str → Option Value) (fns : List FnD) : Gd := { p := pg, w, mg, mb, K := K1 w.params, fns := dPush :: dPop :: dAI :: dAL :: dPc :: fns, acc := 115 }
section
variable {w : World} {mg mb : Str → Option Value} {fns : List FnD} {C : Cx} {V : Vw} {p : Pos} (K : COk1 (gd1 w mg mb fns) C) (VV : VG V)
include K VV
theorem g_ell (hx : V.env.kindOf (Str.ofString "ELLIPSIS_MARKER") = some .globalImplicit) : Ev (gd1 w mg mb fns) C V (.Name (Str.ofString "ELLIPSIS_MARKER") p) (fun σ => some (.str [46, 46, 46], σ)) :=
  Ev.glo K VV hx (v := .str (Str.ofString "...") 206) (by kernel_rfl) (fun _ => by rw [show Str.ofString "..." = mkS' [46, 46, 46] by kernel_rfl]; exact .str _ _) (by decide)
theorem g_blt {x : Str} {v : Value} (e : nsIn (K1 w.params) mainGlobals x = some none) (hv : bootBuiltins x = some v) (hn : x ≠ "__name__") (hd : (x == ("__debug__" : Str)) = false) (hx : V.env.kindOf x = some .globalImplicit) :
    Ev (gd1 w mg mb fns) C V (.Name x p) (fun σ => some (.raw v, σ)) := Ev.bui K VV hx e hv hn hd
theorem g_len (hx : V.env.kindOf (Str.ofString "len") = some .globalImplicit) : Ev (gd1 w mg mb fns) C V (.Name (Str.ofString "len") p) (fun σ => some (.raw (.builtin "len"), σ)) := g_blt K VV (by kernel_rfl) (by kernel_rfl) (by decide) (by decide) hx
theorem g_chr (hx : V.env.kindOf (Str.ofString "chr") = some .globalImplicit) : Ev (gd1 w mg mb fns) C V (.Name (Str.ofString "chr") p) (fun σ => some (.raw (.builtin "chr"), σ)) := g_blt K VV (by kernel_rfl) (by kernel_rfl) (by decide) (by decide) hx
theorem g_ord (hx : V.env.kindOf (Str.ofString "ord") = some .globalImplicit) : Ev (gd1 w mg mb fns) C V (.Name (Str.ofString "ord") p) (fun σ => some (.raw (.builtin "ord"), σ)) := g_blt K VV (by kernel_rfl) (by kernel_rfl) (by decide) (by decide) hx
theorem g_sum (hx : V.env.kindOf (Str.ofString "sum") = some .globalImplicit) : Ev (gd1 w mg mb fns) C V (.Name (Str.ofString "sum") p) (fun σ => some (.raw (.builtin "sum"), σ)) := g_blt K VV (by kernel_rfl) (by kernel_rfl) (by decide) (by decide) hx
theorem g_isi (hx : V.env.kindOf (Str.ofString "isinstance") = some .globalImplicit) : Ev (gd1 w mg mb fns) C V (.Name (Str.ofString "isinstance") p) (fun σ => some (.raw (.builtin "isinstance"), σ)) := g_blt K VV (by kernel_rfl) (by kernel_rfl) (by decide) (by decide) hx
theorem g_bool (hx : V.env.kindOf (Str.ofString "bool") = some .globalImplicit) : Ev (gd1 w mg mb fns) C V (.Name (Str.ofString "bool") p) (fun σ => some (.raw (.type "bool"), σ)) := g_blt K VV (by kernel_rfl) (by kernel_rfl) (by decide) (by decide) hx
theorem g_range (hx : V.env.kindOf (Str.ofString "range") = some .globalImplicit) : Ev (gd1 w mg mb fns) C V (.Name (Str.ofString "range") p) (fun σ => some (.raw (.type "range"), σ)) := g_blt K VV (by kernel_rfl) (by kernel_rfl) (by decide) (by decide) hx
theorem g_enum (hx : V.env.kindOf (Str.ofString "enumerate") = some .globalImplicit) : Ev (gd1 w mg mb fns) C V (.Name (Str.ofString "enumerate") p) (fun σ => some (.raw (.type "enumerate"), σ)) := g_blt K VV (by kernel_rfl) (by kernel_rfl) (by decide) (by decide) hx
theorem g_max (hx : V.env.kindOf (Str.ofString "max") = some .globalImplicit) : Ev (gd1 w mg mb fns) C V (.Name (Str.ofString "max") p) (fun σ => some (.raw (.builtin "max"), σ)) := g_blt K VV (by kernel_rfl) (by kernel_rfl) (by decide) (by decide) hx
end
noncomputable def dEllP : Arguments := fnP (stAt 5)
noncomputable def dEllB : List Stmt := fnB (stAt 5)
noncomputable def dEllS : Scope := fnS (stAt 5)
@[reducible] noncomputable def dEll (doc pm cdv : Value) : FnD := { f := 35, name := "_ellipsis_match", qual := "_ellipsis_match", params := dEllP, body := dEllB, scope := dEllS, dV := .none, kV := .none, doc, pm, cdv, ct := .none, an := none, pn := ["want", "got"], rn := ["ws", "startpos", "endpos", "w"] }
@[reducible] noncomputable def ellT1 (s : Stmt) (f : PS → Option (Fl × PS)) : Prop := ∀ (w : World) (mg : Str → Option Value) (mb : Str → Option Value) (fns : List FnD) (C : Cx) (doc : Value) (pm : Value) (cdv : Value) (L : Addr) (g : Heap) (K : COk1 (gd1 w mg mb fns) (cxF C (dEll doc pm cdv) L g)), X1 (gd1 w mg mb fns) (cxF C (dEll doc pm cdv) L g) s f
@[reducible] noncomputable def ellT (s : List Stmt) (f : PS → Option (Fl × PS)) : Prop := ∀ (w : World) (mg : Str → Option Value) (mb : Str → Option Value) (fns : List FnD) (C : Cx) (doc : Value) (pm : Value) (cdv : Value) (L : Addr) (g : Heap) (K : COk1 (gd1 w mg mb fns) (cxF C (dEll doc pm cdv) L g)), Xs (gd1 w mg mb fns) (cxF C (dEll doc pm cdv) L g) s f
noncomputable abbrev ellS_4 : Stmt := pick (s := nthS dEllB 4) (t := .Assign _ _ _) rfl
noncomputable abbrev ellS_8 : Stmt := pick (s := nthS dEllB 8) (t := .If _ _ _ _) rfl
noncomputable abbrev ellS_1 : Stmt := pick (s := nthS dEllB 1) (t := .Assign _ _ _) rfl
noncomputable abbrev ellS_7 : Stmt := pick (s := nthS dEllB 7) (t := .If _ _ _ _) rfl
noncomputable abbrev ellS_6 : Stmt := pick (s := nthS dEllB 6) (t := .Assign _ _ _) rfl
noncomputable abbrev ellS_9 : Stmt := pick (s := nthS dEllB 9) (t := .For _ _ _ _ _) rfl
noncomputable abbrev ellS_0 : Stmt := pick (s := nthS dEllB 0) (t := .If _ _ _ _) rfl
noncomputable abbrev ellS_2 : Stmt := pick (s := nthS dEllB 2) (t := .Assert _ _ _) rfl
noncomputable abbrev ellS_5 : Stmt := pick (s := nthS dEllB 5) (t := .If _ _ _ _) rfl
noncomputable abbrev ellS_10 : Stmt := pick (s := nthS dEllB 10) (t := .Return _ _) rfl
noncomputable abbrev ellS_3 : Stmt := pick (s := nthS dEllB 3) (t := .Assign _ _ _) rfl
noncomputable abbrev ellS_8t_0 : Stmt := pick (s := nthS (sBody ellS_8) 0) (t := .Return _ _) rfl
noncomputable abbrev ellS_7t_0 : Stmt := pick (s := nthS (sBody ellS_7) 0) (t := .If _ _ _ _) rfl
noncomputable abbrev ellS_9b_0 : Stmt := pick (s := nthS (sBody ellS_9) 0) (t := .Assign _ _ _) rfl
noncomputable abbrev ellS_9b_2 : Stmt := pick (s := nthS (sBody ellS_9) 2) (t := .AugAssign _ _ _ _) rfl
noncomputable abbrev ellS_9b_1 : Stmt := pick (s := nthS (sBody ellS_9) 1) (t := .If _ _ _ _) rfl
noncomputable abbrev ellS_0t_0 : Stmt := pick (s := nthS (sBody ellS_0) 0) (t := .Return _ _) rfl
noncomputable abbrev ellS_5t_0 : Stmt := pick (s := nthS (sBody ellS_5) 0) (t := .If _ _ _ _) rfl
noncomputable abbrev ellS_7t_0e_0 : Stmt := pick (s := nthS (sElse ellS_7t_0) 0) (t := .Return _ _) rfl
noncomputable abbrev ellS_7t_0t_1 : Stmt := pick (s := nthS (sBody ellS_7t_0) 1) (t := .Delete _ _) rfl
noncomputable abbrev ellS_7t_0t_0 : Stmt := pick (s := nthS (sBody ellS_7t_0) 0) (t := .AugAssign _ _ _ _) rfl
noncomputable abbrev ellS_9b_1t_0 : Stmt := pick (s := nthS (sBody ellS_9b_1) 0) (t := .Return _ _) rfl
noncomputable abbrev ellS_5t_0t_1 : Stmt := pick (s := nthS (sBody ellS_5t_0) 1) (t := .Delete _ _) rfl
noncomputable abbrev ellS_5t_0t_0 : Stmt := pick (s := nthS (sBody ellS_5t_0) 0) (t := .Assign _ _ _) rfl
noncomputable abbrev ellS_5t_0e_0 : Stmt := pick (s := nthS (sElse ellS_5t_0) 0) (t := .Return _ _) rfl
@[reducible] noncomputable def ellX_4 : WX (ellT1 ellS_4) := .mk _ (by with_reducible exact fun w mg mb fns C doc pm cdv L g K => (X1.assign K (i := 5) (b := false) (by kernel_rfl) (Ev.sub K (Ev.var K (i := 2) (b := false) (by kernel_rfl) (hd := by kernel_rfl)) (Ev.int) (hsl := by intros; kernel_rfl)) (hs := by kernel_rfl)))
noncomputable def ellF_4 : PS → Option (Fl × PS) := by with_reducible refine (?g : {f : PS → Option (Fl × PS)} → {h : ellT1 ellS_4 f} → ellX_4 = .mk f h → PS → Option (Fl × PS)) rfl; exact fun {f} {h} _ => f
theorem ellW_4 : ellT1 ellS_4 ellF_4 := by with_reducible exact WX.spec ellX_4 (by kernel_rfl)
@[reducible] noncomputable def ellX_8t_0 : WX (ellT1 ellS_8t_0) := .mk _ (by with_reducible exact fun w mg mb fns C doc pm cdv L g K => (X1.ret (Ev.bool (b := false))))
noncomputable def ellF_8t_0 : PS → Option (Fl × PS) := by with_reducible refine (?g : {f : PS → Option (Fl × PS)} → {h : ellT1 ellS_8t_0 f} → ellX_8t_0 = .mk f h → PS → Option (Fl × PS)) rfl; exact fun {f} {h} _ => f
theorem ellW_8t_0 : ellT1 ellS_8t_0 ellF_8t_0 := by with_reducible exact WX.spec ellX_8t_0 (by kernel_rfl)
@[reducible] noncomputable def ellX_8 : WX (ellT1 ellS_8) := .mk _ (by with_reducible exact fun w mg mb fns C doc pm cdv L g K => (X1.ite (Ts.cmp (Ev.var K (i := 3) (b := false) (by kernel_rfl) (hd := by kernel_rfl)) (Ev.var K (i := 4) (b := false) (by kernel_rfl) (hd := by kernel_rfl)) (Op2.gt) (hm := by kernel_rfl)) (Xs.cons (ellW_8t_0 w mg mb fns C doc pm cdv L g K) (Xs.nil)) (Xs.nil)))
noncomputable def ellF_8 : PS → Option (Fl × PS) := by with_reducible refine (?g : {f : PS → Option (Fl × PS)} → {h : ellT1 ellS_8 f} → ellX_8 = .mk f h → PS → Option (Fl × PS)) rfl; exact fun {f} {h} _ => f
theorem ellW_8 : ellT1 ellS_8 ellF_8 := by with_reducible exact WX.spec ellX_8 (by kernel_rfl)
@[reducible] noncomputable def ellX_1 : WX (ellT1 ellS_1) := .mk _ (by with_reducible exact fun w mg mb fns C doc pm cdv L g K => (X1.assign K (i := 2) (b := false) (by kernel_rfl) (Ev.meth PySem.F.plainAttrs_str PySem.F.slot_str_split PySem.F.type_str_split (Ev.var K (i := 0) (b := false) (by kernel_rfl) (hd := by kernel_rfl)) (Evs.cons (g_ell K (VG.f K) (by kernel_rfl)) (Evs.nil) (by kernel_rfl)) (Cl.split) (hbase := by kernel_rfl) (hl := by kernel_rfl) (hline := by kernel_rfl)) (hs := by kernel_rfl)))
noncomputable def ellF_1 : PS → Option (Fl × PS) := by with_reducible refine (?g : {f : PS → Option (Fl × PS)} → {h : ellT1 ellS_1 f} → ellX_1 = .mk f h → PS → Option (Fl × PS)) rfl; exact fun {f} {h} _ => f
theorem ellW_1 : ellT1 ellS_1 ellF_1 := by with_reducible exact WX.spec ellX_1 (by kernel_rfl)
@[reducible] noncomputable def ellX_7t_0e_0 : WX (ellT1 ellS_7t_0e_0) := .mk _ (by with_reducible exact fun w mg mb fns C doc pm cdv L g K => (X1.ret (Ev.bool (b := false))))
noncomputable def ellF_7t_0e_0 : PS → Option (Fl × PS) := by with_reducible refine (?g : {f : PS → Option (Fl × PS)} → {h : ellT1 ellS_7t_0e_0 f} → ellX_7t_0e_0 = .mk f h → PS → Option (Fl × PS)) rfl; exact fun {f} {h} _ => f
theorem ellW_7t_0e_0 : ellT1 ellS_7t_0e_0 ellF_7t_0e_0 := by with_reducible exact WX.spec ellX_7t_0e_0 (by kernel_rfl)
@[reducible] noncomputable def ellX_7t_0t_1 : WX (ellT1 ellS_7t_0t_1) := .mk _ (by with_reducible exact fun w mg mb fns C doc pm cdv L g K => (X1.delSub (Ev.var K (i := 2) (b := false) (by kernel_rfl) (hd := by kernel_rfl)) (Ev.un (Ev.int) (Op1.neg))))
noncomputable def ellF_7t_0t_1 : PS → Option (Fl × PS) := by with_reducible refine (?g : {f : PS → Option (Fl × PS)} → {h : ellT1 ellS_7t_0t_1 f} → ellX_7t_0t_1 = .mk f h → PS → Option (Fl × PS)) rfl; exact fun {f} {h} _ => f
theorem ellW_7t_0t_1 : ellT1 ellS_7t_0t_1 ellF_7t_0t_1 := by with_reducible exact WX.spec ellX_7t_0t_1 (by kernel_rfl)
@[reducible] noncomputable def ellX_7t_0t_0 : WX (ellT1 ellS_7t_0t_0) := .mk _ (by with_reducible exact fun w mg mb fns C doc pm cdv L g K => (X1.aug K (i := 4) (b := false) (by kernel_rfl) (Ev.callB (g_len K (VG.f K) (by kernel_rfl)) (Evs.cons (Ev.var K (i := 5) (b := false) (by kernel_rfl) (hd := by kernel_rfl)) (Evs.nil) (by kernel_rfl)) (Cl.len)) (Op2.isub)))
noncomputable def ellF_7t_0t_0 : PS → Option (Fl × PS) := by with_reducible refine (?g : {f : PS → Option (Fl × PS)} → {h : ellT1 ellS_7t_0t_0 f} → ellX_7t_0t_0 = .mk f h → PS → Option (Fl × PS)) rfl; exact fun {f} {h} _ => f
theorem ellW_7t_0t_0 : ellT1 ellS_7t_0t_0 ellF_7t_0t_0 := by with_reducible exact WX.spec ellX_7t_0t_0 (by kernel_rfl)
@[reducible] noncomputable def ellX_7t_0 : WX (ellT1 ellS_7t_0) := .mk _ (by with_reducible exact fun w mg mb fns C doc pm cdv L g K => (X1.ite (Ts.val (Ev.meth PySem.F.plainAttrs_str PySem.F.slot_str_endswith PySem.F.type_str_endswith (Ev.var K (i := 1) (b := false) (by kernel_rfl) (hd := by kernel_rfl)) (Evs.cons (Ev.var K (i := 5) (b := false) (by kernel_rfl) (hd := by kernel_rfl)) (Evs.nil) (by kernel_rfl)) (Cl.ends) (hbase := by kernel_rfl) (hl := by kernel_rfl) (hline := by kernel_rfl)) (hi := by kernel_rfl)) (Xs.cons (ellW_7t_0t_0 w mg mb fns C doc pm cdv L g K) (Xs.cons (ellW_7t_0t_1 w mg mb fns C doc pm cdv L g K) (Xs.nil))) (Xs.cons (ellW_7t_0e_0 w mg mb fns C doc pm cdv L g K) (Xs.nil))))
noncomputable def ellF_7t_0 : PS → Option (Fl × PS) := by with_reducible refine (?g : {f : PS → Option (Fl × PS)} → {h : ellT1 ellS_7t_0 f} → ellX_7t_0 = .mk f h → PS → Option (Fl × PS)) rfl; exact fun {f} {h} _ => f
theorem ellW_7t_0 : ellT1 ellS_7t_0 ellF_7t_0 := by with_reducible exact WX.spec ellX_7t_0 (by kernel_rfl)
@[reducible] noncomputable def ellX_7 : WX (ellT1 ellS_7) := .mk _ (by with_reducible exact fun w mg mb fns C doc pm cdv L g K => (X1.ite (Ts.val (Ev.var K (i := 5) (b := false) (by kernel_rfl) (hd := by kernel_rfl)) (hi := by kernel_rfl)) (Xs.cons (ellW_7t_0 w mg mb fns C doc pm cdv L g K) (Xs.nil)) (Xs.nil)))
noncomputable def ellF_7 : PS → Option (Fl × PS) := by with_reducible refine (?g : {f : PS → Option (Fl × PS)} → {h : ellT1 ellS_7 f} → ellX_7 = .mk f h → PS → Option (Fl × PS)) rfl; exact fun {f} {h} _ => f
theorem ellW_7 : ellT1 ellS_7 ellF_7 := by with_reducible exact WX.spec ellX_7 (by kernel_rfl)
@[reducible] noncomputable def ellX_6 : WX (ellT1 ellS_6) := .mk _ (by with_reducible exact fun w mg mb fns C doc pm cdv L g K => (X1.assign K (i := 5) (b := false) (by kernel_rfl) (Ev.sub K (Ev.var K (i := 2) (b := false) (by kernel_rfl) (hd := by kernel_rfl)) (Ev.un (Ev.int) (Op1.neg)) (hsl := by intros; kernel_rfl)) (hs := by kernel_rfl)))
noncomputable def ellF_6 : PS → Option (Fl × PS) := by with_reducible refine (?g : {f : PS → Option (Fl × PS)} → {h : ellT1 ellS_6 f} → ellX_6 = .mk f h → PS → Option (Fl × PS)) rfl; exact fun {f} {h} _ => f
theorem ellW_6 : ellT1 ellS_6 ellF_6 := by with_reducible exact WX.spec ellX_6 (by kernel_rfl)
@[reducible] noncomputable def ellX_9b_0 : WX (ellT1 ellS_9b_0) := .mk _ (by with_reducible exact fun w mg mb fns C doc pm cdv L g K => (X1.assign K (i := 3) (b := false) (by kernel_rfl) (Ev.meth PySem.F.plainAttrs_str PySem.F.slot_str_find PySem.F.type_str_find (Ev.var K (i := 1) (b := false) (by kernel_rfl) (hd := by kernel_rfl)) (Evs.cons (Ev.var K (i := 5) (b := false) (by kernel_rfl) (hd := by kernel_rfl)) (Evs.cons (Ev.var K (i := 3) (b := false) (by kernel_rfl) (hd := by kernel_rfl)) (Evs.cons (Ev.var K (i := 4) (b := false) (by kernel_rfl) (hd := by kernel_rfl)) (Evs.nil) (by kernel_rfl)) (by kernel_rfl)) (by kernel_rfl)) (Cl.find) (hbase := by kernel_rfl) (hl := by kernel_rfl) (hline := by kernel_rfl)) (hs := by kernel_rfl)))
noncomputable def ellF_9b_0 : PS → Option (Fl × PS) := by with_reducible refine (?g : {f : PS → Option (Fl × PS)} → {h : ellT1 ellS_9b_0 f} → ellX_9b_0 = .mk f h → PS → Option (Fl × PS)) rfl; exact fun {f} {h} _ => f
theorem ellW_9b_0 : ellT1 ellS_9b_0 ellF_9b_0 := by with_reducible exact WX.spec ellX_9b_0 (by kernel_rfl)
@[reducible] noncomputable def ellX_9b_2 : WX (ellT1 ellS_9b_2) := .mk _ (by with_reducible exact fun w mg mb fns C doc pm cdv L g K => (X1.aug K (i := 3) (b := false) (by kernel_rfl) (Ev.callB (g_len K (VG.f K) (by kernel_rfl)) (Evs.cons (Ev.var K (i := 5) (b := false) (by kernel_rfl) (hd := by kernel_rfl)) (Evs.nil) (by kernel_rfl)) (Cl.len)) (Op2.iadd)))
noncomputable def ellF_9b_2 : PS → Option (Fl × PS) := by with_reducible refine (?g : {f : PS → Option (Fl × PS)} → {h : ellT1 ellS_9b_2 f} → ellX_9b_2 = .mk f h → PS → Option (Fl × PS)) rfl; exact fun {f} {h} _ => f
theorem ellW_9b_2 : ellT1 ellS_9b_2 ellF_9b_2 := by with_reducible exact WX.spec ellX_9b_2 (by kernel_rfl)
@[reducible] noncomputable def ellX_9b_1t_0 : WX (ellT1 ellS_9b_1t_0) := .mk _ (by with_reducible exact fun w mg mb fns C doc pm cdv L g K => (X1.ret (Ev.bool (b := false))))
noncomputable def ellF_9b_1t_0 : PS → Option (Fl × PS) := by with_reducible refine (?g : {f : PS → Option (Fl × PS)} → {h : ellT1 ellS_9b_1t_0 f} → ellX_9b_1t_0 = .mk f h → PS → Option (Fl × PS)) rfl; exact fun {f} {h} _ => f
theorem ellW_9b_1t_0 : ellT1 ellS_9b_1t_0 ellF_9b_1t_0 := by with_reducible exact WX.spec ellX_9b_1t_0 (by kernel_rfl)
@[reducible] noncomputable def ellX_9b_1 : WX (ellT1 ellS_9b_1) := .mk _ (by with_reducible exact fun w mg mb fns C doc pm cdv L g K => (X1.ite (Ts.cmp (Ev.var K (i := 3) (b := false) (by kernel_rfl) (hd := by kernel_rfl)) (Ev.int) (Op2.lt) (hm := by kernel_rfl)) (Xs.cons (ellW_9b_1t_0 w mg mb fns C doc pm cdv L g K) (Xs.nil)) (Xs.nil)))
noncomputable def ellF_9b_1 : PS → Option (Fl × PS) := by with_reducible refine (?g : {f : PS → Option (Fl × PS)} → {h : ellT1 ellS_9b_1 f} → ellX_9b_1 = .mk f h → PS → Option (Fl × PS)) rfl; exact fun {f} {h} _ => f
theorem ellW_9b_1 : ellT1 ellS_9b_1 ellF_9b_1 := by with_reducible exact WX.spec ellX_9b_1 (by kernel_rfl)
@[reducible] noncomputable def ellX_9 : WX (ellT1 ellS_9) := .mk _ (by with_reducible exact fun w mg mb fns C doc pm cdv L g K => (X1.for K (200) (Ev.var K (i := 2) (b := false) (by kernel_rfl) (hd := by kernel_rfl)) (Tg.name K (i := 5) (b := false) (by kernel_rfl)) (Xs.cons (ellW_9b_0 w mg mb fns C doc pm cdv L g K) (Xs.cons (ellW_9b_1 w mg mb fns C doc pm cdv L g K) (Xs.cons (ellW_9b_2 w mg mb fns C doc pm cdv L g K) (Xs.nil)))) (hg := by intros; kernel_rfl) (hs := by intros; kernel_rfl)))
noncomputable def ellF_9 : PS → Option (Fl × PS) := by with_reducible refine (?g : {f : PS → Option (Fl × PS)} → {h : ellT1 ellS_9 f} → ellX_9 = .mk f h → PS → Option (Fl × PS)) rfl; exact fun {f} {h} _ => f
theorem ellW_9 : ellT1 ellS_9 ellF_9 := by with_reducible exact WX.spec ellX_9 (by kernel_rfl)
@[reducible] noncomputable def ellX_0t_0 : WX (ellT1 ellS_0t_0) := .mk _ (by with_reducible exact fun w mg mb fns C doc pm cdv L g K => (X1.ret (Ev.cmp (Ev.var K (i := 0) (b := false) (by kernel_rfl) (hd := by kernel_rfl)) (Ev.var K (i := 1) (b := false) (by kernel_rfl) (hd := by kernel_rfl)) (Op2.eqA K) (hm := by kernel_rfl))))
noncomputable def ellF_0t_0 : PS → Option (Fl × PS) := by with_reducible refine (?g : {f : PS → Option (Fl × PS)} → {h : ellT1 ellS_0t_0 f} → ellX_0t_0 = .mk f h → PS → Option (Fl × PS)) rfl; exact fun {f} {h} _ => f
theorem ellW_0t_0 : ellT1 ellS_0t_0 ellF_0t_0 := by with_reducible exact WX.spec ellX_0t_0 (by kernel_rfl)
@[reducible] noncomputable def ellX_0 : WX (ellT1 ellS_0) := .mk _ (by with_reducible exact fun w mg mb fns C doc pm cdv L g K => (X1.ite (Ts.cmp (g_ell K (VG.f K) (by kernel_rfl)) (Ev.var K (i := 0) (b := false) (by kernel_rfl) (hd := by kernel_rfl)) (Op2.notIn) (hm := by kernel_rfl)) (Xs.cons (ellW_0t_0 w mg mb fns C doc pm cdv L g K) (Xs.nil)) (Xs.nil)))
noncomputable def ellF_0 : PS → Option (Fl × PS) := by with_reducible refine (?g : {f : PS → Option (Fl × PS)} → {h : ellT1 ellS_0 f} → ellX_0 = .mk f h → PS → Option (Fl × PS)) rfl; exact fun {f} {h} _ => f
theorem ellW_0 : ellT1 ellS_0 ellF_0 := by with_reducible exact WX.spec ellX_0 (by kernel_rfl)
@[reducible] noncomputable def ellX_2 : WX (ellT1 ellS_2) := .mk _ (by with_reducible exact fun w mg mb fns C doc pm cdv L g K => (X1.asrt (Ts.cmp (Ev.callB (g_len K (VG.f K) (by kernel_rfl)) (Evs.cons (Ev.var K (i := 2) (b := false) (by kernel_rfl) (hd := by kernel_rfl)) (Evs.nil) (by kernel_rfl)) (Cl.len)) (Ev.int) (Op2.ge) (hm := by kernel_rfl))))
noncomputable def ellF_2 : PS → Option (Fl × PS) := by with_reducible refine (?g : {f : PS → Option (Fl × PS)} → {h : ellT1 ellS_2 f} → ellX_2 = .mk f h → PS → Option (Fl × PS)) rfl; exact fun {f} {h} _ => f
theorem ellW_2 : ellT1 ellS_2 ellF_2 := by with_reducible exact WX.spec ellX_2 (by kernel_rfl)
@[reducible] noncomputable def ellX_5t_0t_1 : WX (ellT1 ellS_5t_0t_1) := .mk _ (by with_reducible exact fun w mg mb fns C doc pm cdv L g K => (X1.delSub (Ev.var K (i := 2) (b := false) (by kernel_rfl) (hd := by kernel_rfl)) (Ev.int)))
noncomputable def ellF_5t_0t_1 : PS → Option (Fl × PS) := by with_reducible refine (?g : {f : PS → Option (Fl × PS)} → {h : ellT1 ellS_5t_0t_1 f} → ellX_5t_0t_1 = .mk f h → PS → Option (Fl × PS)) rfl; exact fun {f} {h} _ => f
theorem ellW_5t_0t_1 : ellT1 ellS_5t_0t_1 ellF_5t_0t_1 := by with_reducible exact WX.spec ellX_5t_0t_1 (by kernel_rfl)
@[reducible] noncomputable def ellX_5t_0t_0 : WX (ellT1 ellS_5t_0t_0) := .mk _ (by with_reducible exact fun w mg mb fns C doc pm cdv L g K => (X1.assign K (i := 3) (b := false) (by kernel_rfl) (Ev.callB (g_len K (VG.f K) (by kernel_rfl)) (Evs.cons (Ev.var K (i := 5) (b := false) (by kernel_rfl) (hd := by kernel_rfl)) (Evs.nil) (by kernel_rfl)) (Cl.len)) (hs := by kernel_rfl)))
noncomputable def ellF_5t_0t_0 : PS → Option (Fl × PS) := by with_reducible refine (?g : {f : PS → Option (Fl × PS)} → {h : ellT1 ellS_5t_0t_0 f} → ellX_5t_0t_0 = .mk f h → PS → Option (Fl × PS)) rfl; exact fun {f} {h} _ => f
theorem ellW_5t_0t_0 : ellT1 ellS_5t_0t_0 ellF_5t_0t_0 := by with_reducible exact WX.spec ellX_5t_0t_0 (by kernel_rfl)
@[reducible] noncomputable def ellX_5t_0e_0 : WX (ellT1 ellS_5t_0e_0) := .mk _ (by with_reducible exact fun w mg mb fns C doc pm cdv L g K => (X1.ret (Ev.bool (b := false))))
noncomputable def ellF_5t_0e_0 : PS → Option (Fl × PS) := by with_reducible refine (?g : {f : PS → Option (Fl × PS)} → {h : ellT1 ellS_5t_0e_0 f} → ellX_5t_0e_0 = .mk f h → PS → Option (Fl × PS)) rfl; exact fun {f} {h} _ => f
theorem ellW_5t_0e_0 : ellT1 ellS_5t_0e_0 ellF_5t_0e_0 := by with_reducible exact WX.spec ellX_5t_0e_0 (by kernel_rfl)
@[reducible] noncomputable def ellX_5t_0 : WX (ellT1 ellS_5t_0) := .mk _ (by with_reducible exact fun w mg mb fns C doc pm cdv L g K => (X1.ite (Ts.val (Ev.meth PySem.F.plainAttrs_str PySem.F.slot_str_startswith PySem.F.type_str_startswith (Ev.var K (i := 1) (b := false) (by kernel_rfl) (hd := by kernel_rfl)) (Evs.cons (Ev.var K (i := 5) (b := false) (by kernel_rfl) (hd := by kernel_rfl)) (Evs.nil) (by kernel_rfl)) (Cl.starts) (hbase := by kernel_rfl) (hl := by kernel_rfl) (hline := by kernel_rfl)) (hi := by kernel_rfl)) (Xs.cons (ellW_5t_0t_0 w mg mb fns C doc pm cdv L g K) (Xs.cons (ellW_5t_0t_1 w mg mb fns C doc pm cdv L g K) (Xs.nil))) (Xs.cons (ellW_5t_0e_0 w mg mb fns C doc pm cdv L g K) (Xs.nil))))
noncomputable def ellF_5t_0 : PS → Option (Fl × PS) := by with_reducible refine (?g : {f : PS → Option (Fl × PS)} → {h : ellT1 ellS_5t_0 f} → ellX_5t_0 = .mk f h → PS → Option (Fl × PS)) rfl; exact fun {f} {h} _ => f
theorem ellW_5t_0 : ellT1 ellS_5t_0 ellF_5t_0 := by with_reducible exact WX.spec ellX_5t_0 (by kernel_rfl)
@[reducible] noncomputable def ellX_5 : WX (ellT1 ellS_5) := .mk _ (by with_reducible exact fun w mg mb fns C doc pm cdv L g K => (X1.ite (Ts.val (Ev.var K (i := 5) (b := false) (by kernel_rfl) (hd := by kernel_rfl)) (hi := by kernel_rfl)) (Xs.cons (ellW_5t_0 w mg mb fns C doc pm cdv L g K) (Xs.nil)) (Xs.nil)))
noncomputable def ellF_5 : PS → Option (Fl × PS) := by with_reducible refine (?g : {f : PS → Option (Fl × PS)} → {h : ellT1 ellS_5 f} → ellX_5 = .mk f h → PS → Option (Fl × PS)) rfl; exact fun {f} {h} _ => f
theorem ellW_5 : ellT1 ellS_5 ellF_5 := by with_reducible exact WX.spec ellX_5 (by kernel_rfl)
@[reducible] noncomputable def ellX_10 : WX (ellT1 ellS_10) := .mk _ (by with_reducible exact fun w mg mb fns C doc pm cdv L g K => (X1.ret (Ev.bool (b := true))))
noncomputable def ellF_10 : PS → Option (Fl × PS) := by with_reducible refine (?g : {f : PS → Option (Fl × PS)} → {h : ellT1 ellS_10 f} → ellX_10 = .mk f h → PS → Option (Fl × PS)) rfl; exact fun {f} {h} _ => f
theorem ellW_10 : ellT1 ellS_10 ellF_10 := by with_reducible exact WX.spec ellX_10 (by kernel_rfl)
@[reducible] noncomputable def ellX_3 : WX (ellT1 ellS_3) := .mk _ (by with_reducible exact fun w mg mb fns C doc pm cdv L g K => (X1.tupS K (names := [Str.ofString "startpos", Str.ofString "endpos"]) (Tnb.cons (b := false) (i := 4) (by kernel_rfl) (Tnb.cons (b := false) (i := 3) (by kernel_rfl) (Tnb.nil))) (Ev.tup (Evs.cons (Ev.int) (Evs.cons (Ev.callB (g_len K (VG.f K) (by kernel_rfl)) (Evs.cons (Ev.var K (i := 1) (b := false) (by kernel_rfl) (hd := by kernel_rfl)) (Evs.nil) (by kernel_rfl)) (Cl.len)) (Evs.nil) (by kernel_rfl)) (by kernel_rfl))) (hs := by kernel_rfl) (hw := by kernel_rfl)))
noncomputable def ellF_3 : PS → Option (Fl × PS) := by with_reducible refine (?g : {f : PS → Option (Fl × PS)} → {h : ellT1 ellS_3 f} → ellX_3 = .mk f h → PS → Option (Fl × PS)) rfl; exact fun {f} {h} _ => f
theorem ellW_3 : ellT1 ellS_3 ellF_3 := by with_reducible exact WX.spec ellX_3 (by kernel_rfl)
@[reducible] noncomputable def ellX : WX (ellT [ellS_0, ellS_1, ellS_2, ellS_3, ellS_4, ellS_5, ellS_6, ellS_7, ellS_8, ellS_9, ellS_10]) := .mk _ (by with_reducible exact fun w mg mb fns C doc pm cdv L g K => (Xs.cons (ellW_0 w mg mb fns C doc pm cdv L g K) (Xs.cons (ellW_1 w mg mb fns C doc pm cdv L g K) (Xs.cons (ellW_2 w mg mb fns C doc pm cdv L g K) (Xs.cons (ellW_3 w mg mb fns C doc pm cdv L g K) (Xs.cons (ellW_4 w mg mb fns C doc pm cdv L g K) (Xs.cons (ellW_5 w mg mb fns C doc pm cdv L g K) (Xs.cons (ellW_6 w mg mb fns C doc pm cdv L g K) (Xs.cons (ellW_7 w mg mb fns C doc pm cdv L g K) (Xs.cons (ellW_8 w mg mb fns C doc pm cdv L g K) (Xs.cons (ellW_9 w mg mb fns C doc pm cdv L g K) (Xs.cons (ellW_10 w mg mb fns C doc pm cdv L g K) (Xs.nil)))))))))))))
noncomputable def ellF : PS → Option (Fl × PS) := by with_reducible refine (?g : {f : PS → Option (Fl × PS)} → {h : ellT [ellS_0, ellS_1, ellS_2, ellS_3, ellS_4, ellS_5, ellS_6, ellS_7, ellS_8, ellS_9, ellS_10] f} → ellX = .mk f h → PS → Option (Fl × PS)) rfl; exact fun {f} {h} _ => f
theorem ellBi : dEllB = [ellS_0, ellS_1, ellS_2, ellS_3, ellS_4, ellS_5, ellS_6, ellS_7, ellS_8, ellS_9, ellS_10] := by kernel_rfl
theorem ellW : ellT dEllB ellF := by rw [ellBi]; with_reducible exact WX.spec ellX (by kernel_rfl)
theorem ack1 {w : World} {mg mb : Str → Option Value} {fns : List FnD} : AccK (gd1 w mg mb fns) where
  ga := by kernel_rfl
  can := by decide +kernel
  gt := by kernel_rfl
  app := by kernel_rfl
  list := by kernel_rfl
theorem sp_append {w : World} {mg mb : Str → Option Value} {fns : List FnD} {C : Cx} {V : Vw} (K : COk1 (gd1 w mg mb fns) C) (_VV : VG V) {o : Expr} {es : List Expr} {ap pos : Pos} {fo : PS → Option (PV × PS)} {f : PS → Option (List PV × PS)} (ho : Ev (gd1 w mg mb fns) C V o fo) (H : Evs (gd1 w mg mb fns) C V es f)
    (hbase : attributeBase o (Str.ofString "append") V.env (eval o V.env) = eval o V.env := by rfl) (hl : decide (es.length < 30) = true := by rfl) (hline : (ap.endLine == pos.line) = true := by rfl) :
    Ev (gd1 w mg mb fns) C V (.Call (.Attribute o (Str.ofString "append") ap) es [] pos) (fun σ => fbf fo σ fun v σ => if isAcc v σ = true then fbf f σ fun us σ => Mine.accApp (v :: us) σ else none) := Ev.accApp K ack1 ho H hbase hl hline
@[reducible] noncomputable def pushT1 (s : Stmt) (f : PS → Option (Fl × PS)) : Prop := ∀ (w : World) (mg : Str → Option Value) (mb : Str → Option Value) (fns : List FnD) (C : Cx) (L : Addr) (g : Heap) (K : COk1 (gd1 w mg mb fns) (cxF C dPush L g)), X1 (gd1 w mg mb fns) (cxF C dPush L g) s f
@[reducible] noncomputable def pushT (s : List Stmt) (f : PS → Option (Fl × PS)) : Prop := ∀ (w : World) (mg : Str → Option Value) (mb : Str → Option Value) (fns : List FnD) (C : Cx) (L : Addr) (g : Heap) (K : COk1 (gd1 w mg mb fns) (cxF C dPush L g)), Xs (gd1 w mg mb fns) (cxF C dPush L g) s f
noncomputable abbrev pushS_0 : Stmt := pick (s := nthS dPushB 0) (t := .Expr _ _) rfl
@[reducible] noncomputable def pushX_0 : WX (pushT1 pushS_0) := .mk _ (by with_reducible exact fun w mg mb fns C L g K => (X1.expr (sp_append K (VG.f K) (Ev.var K (i := 0) (b := false) (by kernel_rfl) (hd := by kernel_rfl)) (Evs.cons (Ev.tup (Evs.cons (Ev.var K (i := 1) (b := false) (by kernel_rfl) (hd := by kernel_rfl)) (Evs.cons (Ev.var K (i := 2) (b := false) (by kernel_rfl) (hd := by kernel_rfl)) (Evs.nil) (by kernel_rfl)) (by kernel_rfl))) (Evs.nil) (by kernel_rfl)) (hbase := by kernel_rfl) (hl := by kernel_rfl) (hline := by kernel_rfl)) (hi := by kernel_rfl) (hs := by kernel_rfl)))
noncomputable def pushF_0 : PS → Option (Fl × PS) := by with_reducible refine (?g : {f : PS → Option (Fl × PS)} → {h : pushT1 pushS_0 f} → pushX_0 = .mk f h → PS → Option (Fl × PS)) rfl; exact fun {f} {h} _ => f
theorem pushW_0 : pushT1 pushS_0 pushF_0 := by with_reducible exact WX.spec pushX_0 (by kernel_rfl)
@[reducible] noncomputable def pushX : WX (pushT [pushS_0]) := .mk _ (by with_reducible exact fun w mg mb fns C L g K => (Xs.cons (pushW_0 w mg mb fns C L g K) (Xs.nil)))
noncomputable def pushF : PS → Option (Fl × PS) := by with_reducible refine (?g : {f : PS → Option (Fl × PS)} → {h : pushT [pushS_0] f} → pushX = .mk f h → PS → Option (Fl × PS)) rfl; exact fun {f} {h} _ => f
theorem pushBi : dPushB = [pushS_0] := by kernel_rfl
theorem pushW : pushT dPushB pushF := by rw [pushBi]; with_reducible exact WX.spec pushX (by kernel_rfl)
theorem push_fn {w : World} {mg mb : Str → Option Value} {fns : List FnD} : FnOk (gd1 w mg mb fns) dPush where
  obj := .head _
  kinds := fnChk_kinds (by kernel_rfl)
  nodup := fnChk_nodup (by kernel_rfl)
  nocell := fnChk_nocell (by kernel_rfl)
  co := rfl
  gen := rfl
  kind := rfl
  bind := fun s xs _ h => by
    obtain ⟨a, b, c, rfl⟩ := ls3 h
    exact BindsTo.of_eq rfl
theorem sp_push {w : World} {mg mb : Str → Option Value} {fns : List FnD} {C : Cx} {V : Vw} (K : COk1 (gd1 w mg mb fns) C) (hlv : 0 < C.lv) {o : Expr} {es : List Expr} {ap pos : Pos} {fo : PS → Option (PV × PS)} {f : PS → Option (List PV × PS)} (ho : Ev (gd1 w mg mb fns) C V o fo) (H : Evs (gd1 w mg mb fns) C V es f)
    (hbase : attributeBase o (Str.ofString "push") V.env (eval o V.env) = eval o V.env) (hl : decide (es.length < 30) = true) (hline : (ap.endLine == pos.line) = true) :
    Ev (gd1 w mg mb fns) C V (.Call (.Attribute o (Str.ofString "push") ap) es [] pos) (fun σ => fbf fo σ fun v σ => if isAcc v σ = true then fbf f σ fun us σ => fcall dPush pushF (v :: us) σ else none) := by
  obtain ⟨fo', h1, h2, _⟩ := K.gd.fn dPush (.head _)
  exact Ev.accM K ack1 (by kernel_rfl) (by kernel_rfl) h1 h2 (by decide) (by decide) ho H (Cl.fn K push_fn hlv fun L g K' => pushW w mg mb fns C L g K') hbase hl hline
theorem ack2 {w : World} {mg mb : Str → Option Value} {fns : List FnD} : AccK2 (gd1 w mg mb fns) where
  toAccK := ack1
  seq := by kernel_rfl
  get := by kernel_rfl
  set := by kernel_rfl
theorem aL_fn {w : World} {mg mb : Str → Option Value} {fns : List FnD} : FnOk (gd1 w mg mb fns) dAL where
  obj := .tail _ (.tail _ (.tail _ (.head _)))
  kinds := fnChk_kinds (by kernel_rfl)
  nodup := fnChk_nodup (by kernel_rfl)
  nocell := fnChk_nocell (by kernel_rfl)
  co := rfl
  gen := rfl
  kind := rfl
  bind := fun s xs _ h => by
    obtain ⟨a, rfl⟩ := ls1 h
    exact BindsTo.of_eq rfl
theorem pop_fn {w : World} {mg mb : Str → Option Value} {fns : List FnD} : FnOk (gd1 w mg mb fns) dPop where
  obj := .tail _ (.head _)
  kinds := fnChk_kinds (by kernel_rfl)
  nodup := fnChk_nodup (by kernel_rfl)
  nocell := fnChk_nocell (by kernel_rfl)
  co := rfl
  gen := rfl
  kind := rfl
  inj := by
    intro x y c h1 h2
    have key : ∀ z, List.lookup z [(("__class__" : Str), (39 : Addr))] = some c → z = "__class__" := by
      intro z h
      rw [List.lookup_cons] at h
      split at h
      · rename_i q; simpa using q
      · cases h
    rw [key x h1, key y h2]
  bind := fun s xs _ h => by
    obtain ⟨a, rfl⟩ := ls1 h
    exact BindsTo.of_eq rfl
theorem pc_fn {w : World} {mg mb : Str → Option Value} {fns : List FnD} : FnOk (gd1 w mg mb fns) dPc where
  obj := .tail _ (.tail _ (.tail _ (.tail _ (.head _))))
  kinds := fnChk_kinds (by kernel_rfl)
  nodup := fnChk_nodup (by kernel_rfl)
  nocell := fnChk_nocell (by kernel_rfl)
  co := rfl
  gen := rfl
  kind := rfl
  inj := by
    intro x y c h1 h2
    have key : ∀ z, List.lookup z [(("__class__" : Str), (39 : Addr))] = some c → z = "__class__" := by
      intro z h
      rw [List.lookup_cons] at h
      split at h
      · rename_i q; simpa using q
      · cases h
    rw [key x h1, key y h2]
  bind := fun s xs _ h => by
    obtain ⟨a, rfl⟩ := ls1 h
    exact BindsTo.of_eq rfl
theorem aI_fn {w : World} {mg mb : Str → Option Value} {fns : List FnD} : FnOk (gd1 w mg mb fns) dAI where
  obj := .tail _ (.tail _ (.head _))
  kinds := fnChk_kinds (by kernel_rfl)
  nodup := fnChk_nodup (by kernel_rfl)
  nocell := fnChk_nocell (by kernel_rfl)
  co := rfl
  gen := rfl
  kind := rfl
  inj := by
    intro x y c h1 h2
    have key : ∀ z, List.lookup z [(("__class__" : Str), (39 : Addr))] = some c → z = "__class__" := by
      intro z h
      rw [List.lookup_cons] at h
      split at h
      · rename_i q; simpa using q
      · cases h
    rw [key x h1, key y h2]
  bind := fun s xs X h => by
    match xs, h with
    | [a, b], _ => exact BindsTo.of_defaults (T := 44) (o := ⟨.type "tuple", none, .seq #[.int 0 236] 0, #[]⟩) rfl (X _ _ (by kernel_rfl)) rfl rfl rfl
theorem codeL {w : World} {mg mb : Str → Option Value} {fns : List FnD} : CodeK (gd1 w mg mb fns) 81 77 where
  obj := ⟨_, _, _, _, _, _, _, _, _, rfl, rfl, rfl, rfl, rfl, rfl, rfl, rfl, rfl⟩
  ne := by decide
theorem ack3 {w : World} {mg mb : Str → Option Value} {fns : List FnD} : AccK3 (gd1 w mg mb fns) where
  toAccK2 := ack2
  iter := by kernel_rfl
  bm := ⟨4, ⟨.type "module", some 0, .plain, #[]⟩, by kernel_rfl, by decide, by kernel_rfl, rfl, rfl, rfl⟩
theorem ack4 {w : World} {mg mb : Str → Option Value} {fns : List FnD} : AccK4 (gd1 w mg mb fns) where
  toAccK3 := ack3
  own := fun P n t u => by kernel_rfl
end Mine
end
section
open PySem PySem.W PyProof.Rows PySem.Calls
set_option maxHeartbeats 0
namespace Mine
section
variable {w : World} {mg mb : Str → Option Value} {fns : List FnD}
theorem newk : NewK (gd1 w mg mb fns) dAI 39 51 where
  ok := aI_fn
  body := ⟨_, _, _, _, _, _, _, _, _, rfl, _, fun _ => rfl⟩
  pn := rfl
  rn := rfl
  cl := rfl
  cell := ⟨_, _, _, rfl⟩
  cdv := rfl
  code := ⟨_, _, _, _, rfl, rfl, rfl, by kernel_rfl⟩
  par := ⟨_, rfl, rfl⟩
  n1 := by kernel_rfl
  n2 := by kernel_rfl
  top := by kernel_rfl
  sup := by kernel_rfl
  cls := ⟨_, rfl, rfl, rfl⟩
  seta := by kernel_rfl
  own := by kernel_rfl
  along := by kernel_rfl
  opq := by kernel_rfl
  makes := by kernel_rfl
  init := by kernel_rfl
  fty := by kernel_rfl
  keep := by kernel_rfl
noncomputable def fSumAcc (σ : PS) : Option (PV × PS) := fb (fvar 0 σ) fun v σ => match accParts 77 v σ with | some (n, ps) => some (.int (n + (totLen ps : Nat)), σ) | none => none
noncomputable def alF : PS → Option (Fl × PS) := fseq (fun σ => fb (fSumAcc σ) fun v σ => some (.ret v, σ)) (fun σ => some (.next, σ))
theorem alW {C : Cx} {L : Addr} {g : Heap} (K : COk1 (gd1 w mg mb fns) (cxF C dAL L g)) : Xs (gd1 w mg mb fns) (cxF C dAL L g) dALB alF :=
  Xs.cons (X1.ret (Ev.sumAcc K ack4 codeL rfl rfl (by decide) (g_sum K (VG.f K) (by kernel_rfl)) rfl rfl (by decide) (by decide) (by decide) (by decide) (by decide) rfl (by decide) (by kernel_rfl) (by decide) (by decide))) Xs.nil
theorem supPop : SupK (gd1 w mg mb fns) dPop 39 74 where
  ok := pop_fn
  pn := rfl
  rn := rfl
  cl := rfl
  cell := ⟨_, _, _, rfl⟩
  cdv := rfl
  code := ⟨_, _, _, _, rfl, rfl, rfl, by kernel_rfl⟩
  par := ⟨_, rfl, rfl⟩
  n1 := by kernel_rfl
  n2 := by kernel_rfl
  top := by kernel_rfl
  sup := by kernel_rfl
  cls := ⟨_, rfl, rfl⟩
  opq := by kernel_rfl
theorem supPc : SupK (gd1 w mg mb fns) dPc 39 111 where
  ok := pc_fn
  pn := rfl
  rn := rfl
  cl := rfl
  cell := ⟨_, _, _, rfl⟩
  cdv := rfl
  code := ⟨_, _, _, _, rfl, rfl, rfl, by kernel_rfl⟩
  par := ⟨_, rfl, rfl⟩
  n1 := by kernel_rfl
  n2 := by kernel_rfl
  top := by kernel_rfl
  sup := by kernel_rfl
  cls := ⟨_, rfl, rfl⟩
  opq := by kernel_rfl
theorem clPc {C : Cx} (K : COk1 (gd1 w mg mb fns) C) (hlv : 0 < C.lv) : Cl (gd1 w mg mb fns) C (.ref 112) cPc :=
  Cl.partCount K ack1 supPc hlv rfl ⟨_, fun _ => rfl⟩ (by kernel_rfl)
theorem Ev.pc {C : Cx} {V : Vw} {ap pos : Pos} {o : Expr} {es : List Expr} {fo : PS → Option (PV × PS)} {f : PS → Option (List PV × PS)} (K : COk1 (gd1 w mg mb fns) C) (hlv : 0 < C.lv) (ho : Ev (gd1 w mg mb fns) C V o fo) (H : Evs (gd1 w mg mb fns) C V es f)
    (hbase : attributeBase o (Str.ofString "part_count") V.env (eval o V.env) = eval o V.env) (hl : decide (es.length < 30) = true) (hline : (ap.endLine == pos.line) = true) :
    Ev (gd1 w mg mb fns) C V (.Call (.Attribute o (Str.ofString "part_count") ap) es [] pos) (fun σ => fbf fo σ fun v σ => if isAcc v σ = true then fbf f σ fun us σ => cPc (v :: us) σ else none) := by
  obtain ⟨fo', h1, h2, _⟩ := K.gd.fn dPc (.tail _ (.tail _ (.tail _ (.tail _ (.head _)))))
  exact Ev.accM K ack1 (by kernel_rfl) (by kernel_rfl) h1 h2 (by decide) (by decide) ho H (clPc K hlv) hbase hl hline
theorem clPop {C : Cx} (K : COk1 (gd1 w mg mb fns) C) (hlv : 1 < C.lv) : Cl (gd1 w mg mb fns) C (.ref 75) cPop := by
  refine Cl.pop K ack1 supPop (by omega) rfl ⟨_, fun _ => rfl⟩ rfl (by kernel_rfl) (by kernel_rfl) (by kernel_rfl) (by kernel_rfl) (by kernel_rfl) (fun cd h x => ?_) (ft := fun σ => fbf (fun σ => fbf (fvar 0) σ fun v σ => if isAcc v σ = true then fbf (fun σ => some ([], σ)) σ fun us σ => cPc (v :: us) σ else none) σ fun a σ => fbf (fun σ => some (.int 0, σ)) σ fun b σ => fb (oEqA a b σ) fTruth) (fun l n xs σ h1 h2 h3 => ?_) (fun L g K' => ?_)
  · cases h; kernel_rfl
  · have e1 : fvar 0 σ = some (.ref l, σ) := by unfold fvar; rw [h1]
    have e2 : isAcc (.ref l) σ = true := by unfold isAcc; simp only [h2]
    have e3 : cPc [.ref l] σ = some (.int (xs.length : Nat), σ) := by unfold cPc; simp only [h2, if_pos h3]
    have e4 : (((xs.length : Nat) : Int) == 0) = (xs.length == 0) := by
      rw [Bool.eq_iff_iff]; simp
    simp only [fbf, e1, fb, e2, if_true, e3, oEqA, fEqB, Option.map, fTruth]
    rw [← e4]
  · exact Ts.cmp (Ev.pc K' (by show 0 < C.lv - 1; omega) (Ev.var (i := 0) (b := false) K' rfl) .nil rfl rfl rfl) Ev.int (Op2.eqA K')
end
end Mine
end
section
open PySem PySem.W PyProof.Rows PySem.Calls
set_option maxHeartbeats 0
namespace Mine
noncomputable def b1es (P : Params) : Array (Int × Value) := match (K1 P).lookup 127 with
  | some ⟨_, _, .set es _ _, _⟩ => es
  | _ => #[]
noncomputable def b1t (P : Params) : SetTable := match (K1 P).lookup 127 with
  | some ⟨_, _, .set _ _ t, _⟩ => t
  | _ => ⟨0, #[], #[], 0, false, 0, false⟩
noncomputable def b1L : List Int := [173, 847, 6150, 6155, 6156, 6157, 8203, 8204, 8205, 8288, 65279, 65024, 65025, 65026, 65027, 65028, 65029, 65030, 65031, 65032, 65033, 65034, 65035, 65036, 65037, 65038, 65039]
noncomputable def b1keys (P : Params) : List Int := (b1es P).toList.map fun e => match e.2 with | .int k _ => k | _ => 0
noncomputable def b1chk (P : Params) : Bool := (b1es P).toList.all fun e => match e.2 with | .int k _ => e.1 == hashInt k | _ => false
section
variable (P : Params)
theorem b1chk_is : b1chk P = true := by kernel_rfl
theorem b1all : ((b1keys P).all fun k => b1L.contains k) = true := by kernel_rfl
theorem b1all' : (b1L.all fun k => (b1keys P).contains k) = true := by kernel_rfl
theorem b1size : (b1es P).size = 27 := by kernel_rfl
theorem b1fits : (b1t P).fits 27 = true := by kernel_rfl
theorem b1_obj : (K1 P).lookup 127 = some ⟨.type "set", none, .set (b1es P) 29 (b1t P), #[]⟩ := by kernel_rfl
end
theorem b1_set {w : World} {h : Heap} (X : (K1 w.params).In h) : h.SetOf (intKind pg w) 127 (fun k => b1L.contains k) 27 := by
  have chk := b1chk_is w.params
  unfold b1chk at chk
  rw [List.all_eq_true] at chk
  have shape : ∀ e ∈ (b1es w.params).toList, ∃ k t, e.2 = .int k t ∧ e.1 = hashInt k := fun e he => by
    have := chk e he
    split at this
    · rename_i k t q; exact ⟨k, t, q, by simpa using this⟩
    · cases this
  refine ⟨_, b1es w.params, 29, b1t w.params, X _ _ (b1_obj w.params), ⟨rfl, rfl, rfl⟩, rfl, fun e he => ?_, fun k => ?_, by rw [b1size]; decide, by rw [b1size]; exact b1fits _, b1size _⟩
  · obtain ⟨k, t, h1, h2⟩ := shape e he
    exact ⟨⟨k, by rw [h1]; simp [intKind, Value.isInt], h2⟩, by rw [h1]; rfl⟩
  · have a1 := b1all w.params
    have a2 := b1all' w.params
    rw [List.all_eq_true] at a1 a2
    constructor
    · intro hk
      have := a2 k (by simpa using hk)
      have : k ∈ b1keys w.params := by simpa using this
      obtain ⟨e, he, hek⟩ := List.mem_map.mp this
      obtain ⟨k', t, h1, h2⟩ := shape e he
      rw [h1] at hek
      exact ⟨e, he, by rw [h1]; simp [intKind, Value.isInt]; exact hek⟩
    · rintro ⟨e, he, hk⟩
      obtain ⟨k', t, h1, h2⟩ := shape e he
      rw [h1] at hk
      have hkk : k' = k := by simpa [intKind, Value.isInt] using hk
      have := a1 k' (List.mem_map.mpr ⟨e, he, by rw [h1]⟩)
      rw [← hkk]; exact this
noncomputable def oInB1 : PV → PV → PS → Option (PV × PS)
  | .int k, .raw (.ref a), σ => if a = 127 then some (.bool (b1L.contains k), σ) else none
  | _, _, _ => none
section
variable {w : World} {mg mb : Str → Option Value} {fns : List FnD} {C : Cx} {V : Vw} {p : Pos}
theorem Op2.inB1 (K : COk1 (gd1 w mg mb fns) C) : Op2 (gd1 w mg mb fns) C (compareOp .In) oInB1 := by
  intro W σ X s a b x y r σ' Q E e R ra rb h
  unfold oInB1 at e
  split at e
  · split at e
    · rename_i ha
      subst ha
      cases e
      cases ra with
      | int k t => cases rb with
        | raw v => exact wpAny_inSet_of (knd := intKind pg w) (k := _) (by simp [intKind, Value.isInt]) rfl (b1_set (K.gd.frag.keeps fun _ _ => R.keep)) (h W _ _ (Wd.le_refl _) (R.toks _) (.bool _))
    · cases e
  · cases e
theorem g_b1 (K : COk1 (gd1 w mg mb fns) C) (VV : VG V) (hx : V.env.kindOf (Str.ofString "b1_set") = some .globalImplicit) : Ev (gd1 w mg mb fns) C V (.Name (Str.ofString "b1_set") p) (fun σ => some (.raw (.ref 127), σ)) :=
  Ev.glo K VV hx (v := .ref 127) (by kernel_rfl) (fun _ => .raw _) (by decide)
end
noncomputable def dB1P : Arguments := fnP (stAt 11)
noncomputable def dB1B : List Stmt := fnB (stAt 11)
noncomputable def dB1S : Scope := fnS (stAt 11)
@[reducible] noncomputable def dB1 (doc pm cdv : Value) : FnD := { f := 137, name := "in_table_b1", qual := "in_table_b1", params := dB1P, body := dB1B, scope := dB1S, dV := .none, kV := .none, doc, pm, cdv, ct := .none, an := none, pn := ["code"], rn := [] }
@[reducible] noncomputable def b1T1 (s : Stmt) (f : PS → Option (Fl × PS)) : Prop := ∀ (w : World) (mg : Str → Option Value) (mb : Str → Option Value) (fns : List FnD) (C : Cx) (doc : Value) (pm : Value) (cdv : Value) (L : Addr) (g : Heap) (K : COk1 (gd1 w mg mb fns) (cxF C (dB1 doc pm cdv) L g)), X1 (gd1 w mg mb fns) (cxF C (dB1 doc pm cdv) L g) s f
@[reducible] noncomputable def b1T (s : List Stmt) (f : PS → Option (Fl × PS)) : Prop := ∀ (w : World) (mg : Str → Option Value) (mb : Str → Option Value) (fns : List FnD) (C : Cx) (doc : Value) (pm : Value) (cdv : Value) (L : Addr) (g : Heap) (K : COk1 (gd1 w mg mb fns) (cxF C (dB1 doc pm cdv) L g)), Xs (gd1 w mg mb fns) (cxF C (dB1 doc pm cdv) L g) s f
noncomputable abbrev b1S_0 : Stmt := pick (s := nthS dB1B 0) (t := .Return _ _) rfl
@[reducible] noncomputable def b1X_0 : WX (b1T1 b1S_0) := .mk _ (by with_reducible exact fun w mg mb fns C doc pm cdv L g K => (X1.ret (Ev.cmp (Ev.callB (g_ord K (VG.f K) (by kernel_rfl)) (Evs.cons (Ev.var K (i := 0) (b := false) (by kernel_rfl) (hd := by kernel_rfl)) (Evs.nil) (by kernel_rfl)) (Cl.ord)) (g_b1 K (VG.f K) (by kernel_rfl)) (Op2.inB1 K) (hm := by kernel_rfl))))
noncomputable def b1F_0 : PS → Option (Fl × PS) := by with_reducible refine (?g : {f : PS → Option (Fl × PS)} → {h : b1T1 b1S_0 f} → b1X_0 = .mk f h → PS → Option (Fl × PS)) rfl; exact fun {f} {h} _ => f
theorem b1W_0 : b1T1 b1S_0 b1F_0 := by with_reducible exact WX.spec b1X_0 (by kernel_rfl)
@[reducible] noncomputable def b1X : WX (b1T [b1S_0]) := .mk _ (by with_reducible exact fun w mg mb fns C doc pm cdv L g K => (Xs.cons (b1W_0 w mg mb fns C doc pm cdv L g K) (Xs.nil)))
noncomputable def b1F : PS → Option (Fl × PS) := by with_reducible refine (?g : {f : PS → Option (Fl × PS)} → {h : b1T [b1S_0] f} → b1X = .mk f h → PS → Option (Fl × PS)) rfl; exact fun {f} {h} _ => f
theorem b1Bi : dB1B = [b1S_0] := by kernel_rfl
theorem b1W : b1T dB1B b1F := by rw [b1Bi]; with_reducible exact WX.spec b1X (by kernel_rfl)
end Mine
end
section
open PySem PySem.W PyProof.Rows PySem.Calls
set_option maxHeartbeats 0
namespace Mine
noncomputable def b3es : List DictEntry := (dispOf 388 b3L 37).ms
noncomputable def b3chk : Bool := b3es.all fun e => match e.key with | .int k _ => e.hash == hashInt k | _ => false
noncomputable def b3keys : List (Int × Str) := b3es.map fun e => match e.key, e.val with | .int k _, .str v _ => (k, v) | _, _ => (0, Str.empty)
noncomputable def b3vals : Bool := b3es.all fun e => match e.val with | .str _ _ => true | _ => false
theorem b3chk_is : b3chk = true := by kernel_rfl
theorem b3vals_is : b3vals = true := by kernel_rfl
theorem b3keys_is : b3keys = b3L := by kernel_rfl
theorem b3_obj (P : Params) : (K1 P).lookup 138 = some b3Obj := by kernel_rfl
theorem find_pairs (k : Int) : ∀ (l : List DictEntry), (∀ e ∈ l, (∃ i t, e.key = .int i t ∧ e.hash = hashInt i) ∧ ∃ v u, e.val = .str v u) →
    (∃ v u, (l.find? fun e => Value.isInt k e.key).map (·.val) = some (.str v u) ∧ (l.map fun e => match e.key, e.val with | .int k _, .str v _ => (k, v) | _, _ => ((0 : Int), Str.empty)).lookup k = some v) ∨
    ((l.find? fun e => Value.isInt k e.key) = none ∧ (l.map fun e => match e.key, e.val with | .int k _, .str v _ => (k, v) | _, _ => ((0 : Int), Str.empty)).lookup k = none)
  | [], _ => .inr ⟨rfl, rfl⟩
  | e :: l, h => by
    obtain ⟨⟨i, t, h1, _⟩, v, u, h2⟩ := h e (.head _)
    rw [List.map_cons, h1, h2]
    by_cases hk : i = k
    · subst hk
      refine .inl ⟨v, u, ?_, by simp⟩
      rw [List.find?_cons_of_pos (by rw [h1]; simp [Value.isInt])]
      rw [Option.map_some, h2]
    · have hne : ¬ (k = i) := fun q => hk q.symm
      rw [List.find?_cons_of_neg (by rw [h1]; simpa [Value.isInt] using hk)]
      rw [List.lookup_cons, show (k == i) = false by simpa using hne]
      exact find_pairs k l fun e he => h e (.tail _ he)
theorem b3_shape : ∀ e ∈ b3es, (∃ i t, e.key = .int i t ∧ e.hash = hashInt i) ∧ ∃ v u, e.val = .str v u := by
  have c1 := b3chk_is
  have c2 := b3vals_is
  unfold b3chk at c1
  unfold b3vals at c2
  rw [List.all_eq_true] at c1 c2
  intro e he
  have a1 := c1 e he
  have a2 := c2 e he
  split at a1
  · rename_i i t q
    split at a2
    · rename_i v u q'
      exact ⟨⟨i, t, q, by simpa using a1⟩, v, u, q'⟩
    · cases a2
  · cases a1
theorem b3_map {w : World} {h : Heap} (X : (K1 w.params).In h) : h.MapOf (intKind pg w) 138 (fun k => findBy (intKind pg w).is b3es.toArray k) := by
  refine ⟨b3Obj, b3es.toArray, 650, X _ _ (b3_obj w.params), ⟨rfl, rfl, rfl⟩, rfl, fun e he => ?_, fun k => rfl⟩
  obtain ⟨⟨i, t, h1, h2⟩, _⟩ := b3_shape e (by simpa using he)
  exact ⟨i, by rw [h1]; simp [intKind, Value.isInt], h2⟩
noncomputable def b3get : List PV → PS → Option (PV × PS)
  | [.int k], σ => match b3L.lookup k with
    | some s => some (.str s.cps.toList, σ)
    | none => some (.none, σ)
  | _, _ => none
noncomputable def isB3 : PV → Bool
  | .raw (.ref a) => a == 138
  | _ => false
section
variable {w : World} {mg mb : Str → Option Value} {fns : List FnD} {C : Cx} {V : Vw} {p : Pos}
theorem g_b3 (K : COk1 (gd1 w mg mb fns) C) (VV : VG V) (hx : V.env.kindOf (Str.ofString "b3_exceptions") = some .globalImplicit) : Ev (gd1 w mg mb fns) C V (.Name (Str.ofString "b3_exceptions") p) (fun σ => some (.raw (.ref 138), σ)) :=
  Ev.glo K VV hx (v := .ref 138) (by kernel_rfl) (fun _ => .raw _) (by decide)
theorem b3_find (k : Int) : findBy (intKind pg w).is b3es.toArray k = (b3es.find? fun e => Value.isInt k e.key).map (·.val) := by
  unfold findBy
  rw [List.find?_toArray]
  rfl
theorem sp_get (K : COk1 (gd1 w mg mb fns) C) (_VV : VG V) {o e : Expr} {ap pos : Pos} {fo f : PS → Option (PV × PS)} (ho : Ev (gd1 w mg mb fns) C V o fo) (he : Ev (gd1 w mg mb fns) C V e f) (hst : starEach [e] V.env = [(false, eval e V.env)])
    (hbase : attributeBase o (Str.ofString "get") V.env (eval o V.env) = eval o V.env := by rfl) (hline : (ap.endLine == pos.line) = true := by rfl) :
    Ev (gd1 w mg mb fns) C V (.Call (.Attribute o (Str.ofString "get") ap) [e] [] pos) (fun σ => fbf fo σ fun v σ => if isB3 v = true then fbf f σ fun u σ => b3get [u] σ else none) := by
  intro W σ X s r σ' Q E q R ok h
  refine fbE q fun v σ₁ e₁ q => ?_
  have H : Evs (gd1 w mg mb fns) C V [e] _ := .cons he .nil hst
  split at q
  · rename_i hb
    refine fbE q fun us σ₂ e₂ e₃ => ?_
    refine call_meth hbase (H.alln _) rfl hline (ho W σ X s v σ₁ _ E e₁ R ok fun W₁ z s₁ l₁ R₁ rz pl => ?_)
    unfold isB3 at hb
    split at hb
    · rename_i a
      have : a = 138 := by simpa using hb
      subst this
      induction rz using VRel.rawC with
      | raw =>
        have hobj : s₁.heap.get? 138 = some b3Obj := R₁.keep (K.gd.frag _ _ (b3_obj w.params))
        refine getMethod_builtin (T := "dict") ⟨_, hobj, rfl⟩ F.plainAttrs_dict F.slot_dict_get F.type_dict_get (fun a e => by cases e; exact ⟨_, hobj, rfl⟩) ?_
        rw [hst]
        unfold b3get at e₃
        split at e₃
        · rename_i k heq
          obtain rfl : us = .int k := List.cons.inj heq |>.1
          refine wpAny_dict_get1 (knd := intKind pg w) (by decide) (he W₁ σ₁ X s₁ (.int k) _ _ E e₂ R₁ (V.mono l₁ ok) fun W₂ y s₂ l₂ R₂ ry => ?_)
          induction ry using VRel.intC with
          | int t =>
            refine ⟨k, _, by simp [intKind, Value.isInt], b3_map (K.gd.frag.keeps fun _ _ => R₂.keep), ?_⟩
            rw [b3_find k]
            have hf := find_pairs k b3es b3_shape
            rcases hf with ⟨v, u, h1, h2⟩ | ⟨h1, h2⟩
            · have h2 : b3L.lookup k = some v := by rw [← b3keys_is]; exact h2
              rw [h2] at e₃
              induction e₃ using someC
              rw [h1]
              have rv : VRel W₂ (.str v.cps.toList) (.str v u) := by have := VRel.str (W := W₂) v.cps.toList u; rw [mk_of] at this; exact this
              exact h W₂ _ _ (Wd.le_trans l₁ l₂) (R₂.toks _) rv
            · have h2 : b3L.lookup k = none := by rw [← b3keys_is]; exact h2
              rw [h2] at e₃
              induction e₃ using someC
              rw [h1]
              exact h W₂ _ _ (Wd.le_trans l₁ l₂) (R₂.toks _) .none
        · exact noneE e₃
    · cases hb
  · exact noneE q
end
noncomputable def dB3P : Arguments := fnP (stAt 13)
noncomputable def dB3B : List Stmt := fnB (stAt 13)
noncomputable def dB3S : Scope := fnS (stAt 13)
@[reducible] noncomputable def dB3 (doc pm cdv : Value) : FnD := { f := 183, name := "map_table_b3", qual := "map_table_b3", params := dB3P, body := dB3B, scope := dB3S, dV := .none, kV := .none, doc, pm, cdv, ct := .none, an := none, pn := ["code"], rn := ["r"] }
@[reducible] noncomputable def b3T1 (s : Stmt) (f : PS → Option (Fl × PS)) : Prop := ∀ (w : World) (mg : Str → Option Value) (mb : Str → Option Value) (fns : List FnD) (C : Cx) (doc : Value) (pm : Value) (cdv : Value) (L : Addr) (g : Heap) (K : COk1 (gd1 w mg mb fns) (cxF C (dB3 doc pm cdv) L g)), X1 (gd1 w mg mb fns) (cxF C (dB3 doc pm cdv) L g) s f
@[reducible] noncomputable def b3T (s : List Stmt) (f : PS → Option (Fl × PS)) : Prop := ∀ (w : World) (mg : Str → Option Value) (mb : Str → Option Value) (fns : List FnD) (C : Cx) (doc : Value) (pm : Value) (cdv : Value) (L : Addr) (g : Heap) (K : COk1 (gd1 w mg mb fns) (cxF C (dB3 doc pm cdv) L g)), Xs (gd1 w mg mb fns) (cxF C (dB3 doc pm cdv) L g) s f
noncomputable abbrev b3S_2 : Stmt := pick (s := nthS dB3B 2) (t := .Return _ _) rfl
noncomputable abbrev b3S_0 : Stmt := pick (s := nthS dB3B 0) (t := .Assign _ _ _) rfl
noncomputable abbrev b3S_1 : Stmt := pick (s := nthS dB3B 1) (t := .If _ _ _ _) rfl
noncomputable abbrev b3S_1t_0 : Stmt := pick (s := nthS (sBody b3S_1) 0) (t := .Return _ _) rfl
@[reducible] noncomputable def b3X_2 : WX (b3T1 b3S_2) := .mk _ (by with_reducible exact fun w mg mb fns C doc pm cdv L g K => (X1.ret (Ev.meth PySem.F.plainAttrs_str PySem.F.slot_str_lower PySem.F.type_str_lower (Ev.var K (i := 0) (b := false) (by kernel_rfl) (hd := by kernel_rfl)) (Evs.nil) (Cl.lower) (hbase := by kernel_rfl) (hl := by kernel_rfl) (hline := by kernel_rfl))))
noncomputable def b3F_2 : PS → Option (Fl × PS) := by with_reducible refine (?g : {f : PS → Option (Fl × PS)} → {h : b3T1 b3S_2 f} → b3X_2 = .mk f h → PS → Option (Fl × PS)) rfl; exact fun {f} {h} _ => f
theorem b3W_2 : b3T1 b3S_2 b3F_2 := by with_reducible exact WX.spec b3X_2 (by kernel_rfl)
@[reducible] noncomputable def b3X_0 : WX (b3T1 b3S_0) := .mk _ (by with_reducible exact fun w mg mb fns C doc pm cdv L g K => (X1.assign K (i := 1) (b := false) (by kernel_rfl) (sp_get K (VG.f K) (g_b3 K (VG.f K) (by kernel_rfl)) (Ev.callB (g_ord K (VG.f K) (by kernel_rfl)) (Evs.cons (Ev.var K (i := 0) (b := false) (by kernel_rfl) (hd := by kernel_rfl)) (Evs.nil) (by kernel_rfl)) (Cl.ord)) (by kernel_rfl) (hbase := by kernel_rfl) (hline := by kernel_rfl)) (hs := by kernel_rfl)))
noncomputable def b3F_0 : PS → Option (Fl × PS) := by with_reducible refine (?g : {f : PS → Option (Fl × PS)} → {h : b3T1 b3S_0 f} → b3X_0 = .mk f h → PS → Option (Fl × PS)) rfl; exact fun {f} {h} _ => f
theorem b3W_0 : b3T1 b3S_0 b3F_0 := by with_reducible exact WX.spec b3X_0 (by kernel_rfl)
@[reducible] noncomputable def b3X_1t_0 : WX (b3T1 b3S_1t_0) := .mk _ (by with_reducible exact fun w mg mb fns C doc pm cdv L g K => (X1.ret (Ev.var K (i := 1) (b := false) (by kernel_rfl) (hd := by kernel_rfl))))
noncomputable def b3F_1t_0 : PS → Option (Fl × PS) := by with_reducible refine (?g : {f : PS → Option (Fl × PS)} → {h : b3T1 b3S_1t_0 f} → b3X_1t_0 = .mk f h → PS → Option (Fl × PS)) rfl; exact fun {f} {h} _ => f
theorem b3W_1t_0 : b3T1 b3S_1t_0 b3F_1t_0 := by with_reducible exact WX.spec b3X_1t_0 (by kernel_rfl)
@[reducible] noncomputable def b3X_1 : WX (b3T1 b3S_1) := .mk _ (by with_reducible exact fun w mg mb fns C doc pm cdv L g K => (X1.ite (Ts.cmp (Ev.var K (i := 1) (b := false) (by kernel_rfl) (hd := by kernel_rfl)) (Ev.cnone) (Op2.isNot) (hm := by kernel_rfl)) (Xs.cons (b3W_1t_0 w mg mb fns C doc pm cdv L g K) (Xs.nil)) (Xs.nil)))
noncomputable def b3F_1 : PS → Option (Fl × PS) := by with_reducible refine (?g : {f : PS → Option (Fl × PS)} → {h : b3T1 b3S_1 f} → b3X_1 = .mk f h → PS → Option (Fl × PS)) rfl; exact fun {f} {h} _ => f
theorem b3W_1 : b3T1 b3S_1 b3F_1 := by with_reducible exact WX.spec b3X_1 (by kernel_rfl)
@[reducible] noncomputable def b3X : WX (b3T [b3S_0, b3S_1, b3S_2]) := .mk _ (by with_reducible exact fun w mg mb fns C doc pm cdv L g K => (Xs.cons (b3W_0 w mg mb fns C doc pm cdv L g K) (Xs.cons (b3W_1 w mg mb fns C doc pm cdv L g K) (Xs.cons (b3W_2 w mg mb fns C doc pm cdv L g K) (Xs.nil)))))
noncomputable def b3F : PS → Option (Fl × PS) := by with_reducible refine (?g : {f : PS → Option (Fl × PS)} → {h : b3T [b3S_0, b3S_1, b3S_2] f} → b3X = .mk f h → PS → Option (Fl × PS)) rfl; exact fun {f} {h} _ => f
theorem b3Bi : dB3B = [b3S_0, b3S_1, b3S_2] := by kernel_rfl
theorem b3W : b3T dB3B b3F := by rw [b3Bi]; with_reducible exact WX.spec b3X (by kernel_rfl)
end Mine
end
section
open PySem PySem.W PyProof.Rows PySem.Calls
set_option maxHeartbeats 0
namespace Mine
noncomputable def dTypP : Arguments := fnP (stAt 15)
noncomputable def dTypB : List Stmt := fnB (stAt 15)
noncomputable def dTypS : Scope := fnS (stAt 15)
@[reducible] noncomputable def dTyp (doc pm cdv : Value) : FnD := { f := 190, name := "_law_typed", qual := "_law_typed", params := dTypP, body := dTypB, scope := dTypS, dV := .none, kV := .none, doc, pm, cdv, ct := .none, an := none, pn := ["word", "n"], rn := ["signs", "typed", "place", "pair", "block"] }
theorem Op2.inD2 {w : World} {mg mb : Str → Option Value} {fns : List FnD} {C : Cx} (K : COk1 (gd1 w mg mb fns) C) : Op2 (gd1 w mg mb fns) C (compareOp .In) oInD := Op2.inD K (by kernel_rfl)
@[reducible] noncomputable def typT1 (s : Stmt) (f : PS → Option (Fl × PS)) : Prop := ∀ (w : World) (mg : Str → Option Value) (mb : Str → Option Value) (fns : List FnD) (C : Cx) (doc : Value) (pm : Value) (cdv : Value) (L : Addr) (g : Heap) (K : COk1 (gd1 w mg mb fns) (cxF C (dTyp doc pm cdv) L g)), X1 (gd1 w mg mb fns) (cxF C (dTyp doc pm cdv) L g) s f
@[reducible] noncomputable def typT (s : List Stmt) (f : PS → Option (Fl × PS)) : Prop := ∀ (w : World) (mg : Str → Option Value) (mb : Str → Option Value) (fns : List FnD) (C : Cx) (doc : Value) (pm : Value) (cdv : Value) (L : Addr) (g : Heap) (K : COk1 (gd1 w mg mb fns) (cxF C (dTyp doc pm cdv) L g)), Xs (gd1 w mg mb fns) (cxF C (dTyp doc pm cdv) L g) s f
noncomputable abbrev typS_0 : Stmt := pick (s := nthS dTypB 0) (t := .Assign _ _ _) rfl
noncomputable abbrev typS_1 : Stmt := pick (s := nthS dTypB 1) (t := .Assign _ _ _) rfl
noncomputable abbrev typS_3 : Stmt := pick (s := nthS dTypB 3) (t := .Return _ _) rfl
noncomputable abbrev typS_2 : Stmt := pick (s := nthS dTypB 2) (t := .While _ _ _ _) rfl
noncomputable abbrev typS_2b_1 : Stmt := pick (s := nthS (sBody typS_2) 1) (t := .If _ _ _ _) rfl
noncomputable abbrev typS_2b_4 : Stmt := pick (s := nthS (sBody typS_2) 4) (t := .Assign _ _ _) rfl
noncomputable abbrev typS_2b_3 : Stmt := pick (s := nthS (sBody typS_2) 3) (t := .AugAssign _ _ _ _) rfl
noncomputable abbrev typS_2b_0 : Stmt := pick (s := nthS (sBody typS_2) 0) (t := .Assign _ _ _) rfl
noncomputable abbrev typS_2b_2 : Stmt := pick (s := nthS (sBody typS_2) 2) (t := .If _ _ _ _) rfl
noncomputable abbrev typS_2b_1e_0 : Stmt := pick (s := nthS (sElse typS_2b_1) 0) (t := .If _ _ _ _) rfl
noncomputable abbrev typS_2b_1t_1 : Stmt := pick (s := nthS (sBody typS_2b_1) 1) (t := .AugAssign _ _ _ _) rfl
noncomputable abbrev typS_2b_1t_0 : Stmt := pick (s := nthS (sBody typS_2b_1) 0) (t := .AugAssign _ _ _ _) rfl
noncomputable abbrev typS_2b_2e_0 : Stmt := pick (s := nthS (sElse typS_2b_2) 0) (t := .AugAssign _ _ _ _) rfl
noncomputable abbrev typS_2b_2t_0 : Stmt := pick (s := nthS (sBody typS_2b_2) 0) (t := .AugAssign _ _ _ _) rfl
noncomputable abbrev typS_2b_1e_0e_0 : Stmt := pick (s := nthS (sElse typS_2b_1e_0) 0) (t := .Assign _ _ _) rfl
noncomputable abbrev typS_2b_1e_0t_0 : Stmt := pick (s := nthS (sBody typS_2b_1e_0) 0) (t := .AugAssign _ _ _ _) rfl
noncomputable abbrev typS_2b_1e_0e_1 : Stmt := pick (s := nthS (sElse typS_2b_1e_0) 1) (t := .AugAssign _ _ _ _) rfl
@[reducible] noncomputable def typX_0 : WX (typT1 typS_0) := .mk _ (by with_reducible exact fun w mg mb fns C doc pm cdv L g K => (X1.assign K (i := 2) (b := false) (by kernel_rfl) (Ev.dictS K (DL.cons ([109, 97]) (by kernel_rfl) (DL.cons ([107, 97]) (by kernel_rfl) (DL.cons ([107, 98]) (by kernel_rfl) (DL.cons ([109, 98]) (by kernel_rfl) (DL.cons ([107, 109]) (by kernel_rfl) (DL.cons ([112, 97]) (by kernel_rfl) (DL.cons ([112, 102]) (by kernel_rfl) DL.nil))))))) (by kernel_rfl) (by decide)) (hs := by kernel_rfl)))
noncomputable def typF_0 : PS → Option (Fl × PS) := by with_reducible refine (?g : {f : PS → Option (Fl × PS)} → {h : typT1 typS_0 f} → typX_0 = .mk f h → PS → Option (Fl × PS)) rfl; exact fun {f} {h} _ => f
theorem typW_0 : typT1 typS_0 typF_0 := by with_reducible exact WX.spec typX_0 (by kernel_rfl)
@[reducible] noncomputable def typX_1 : WX (typT1 typS_1) := .mk _ (by with_reducible exact fun w mg mb fns C doc pm cdv L g K => (X1.tup K (Tns.cons (b := false) (i := 3) (by kernel_rfl) (Tns.cons (b := false) (i := 4) (by kernel_rfl) (Tns.nil))) (Ev.tup (Evs.cons (Ev.str ([]) (hl := by kernel_rfl)) (Evs.cons (Ev.int) (Evs.nil) (by kernel_rfl)) (by kernel_rfl))) (hs := by kernel_rfl) (hw := by kernel_rfl)))
noncomputable def typF_1 : PS → Option (Fl × PS) := by with_reducible refine (?g : {f : PS → Option (Fl × PS)} → {h : typT1 typS_1 f} → typX_1 = .mk f h → PS → Option (Fl × PS)) rfl; exact fun {f} {h} _ => f
theorem typW_1 : typT1 typS_1 typF_1 := by with_reducible exact WX.spec typX_1 (by kernel_rfl)
@[reducible] noncomputable def typX_3 : WX (typT1 typS_3) := .mk _ (by with_reducible exact fun w mg mb fns C doc pm cdv L g K => (X1.ret (Ev.var K (i := 3) (b := false) (by kernel_rfl) (hd := by kernel_rfl))))
noncomputable def typF_3 : PS → Option (Fl × PS) := by with_reducible refine (?g : {f : PS → Option (Fl × PS)} → {h : typT1 typS_3 f} → typX_3 = .mk f h → PS → Option (Fl × PS)) rfl; exact fun {f} {h} _ => f
theorem typW_3 : typT1 typS_3 typF_3 := by with_reducible exact WX.spec typX_3 (by kernel_rfl)
@[reducible] noncomputable def typX_2b_1e_0e_0 : WX (typT1 typS_2b_1e_0e_0) := .mk _ (by with_reducible exact fun w mg mb fns C doc pm cdv L g K => (X1.assign K (i := 6) (b := false) (by kernel_rfl) (Ev.sub K (Ev.tup (Evs.cons (Ev.int) (Evs.cons (Ev.int) (Evs.cons (Ev.int) (Evs.cons (Ev.int) (Evs.cons (Ev.int) (Evs.cons (Ev.int) (Evs.cons (Ev.int) (Evs.cons (Ev.int) (Evs.cons (Ev.int) (Evs.cons (Ev.int) (Evs.nil) (by kernel_rfl)) (by kernel_rfl)) (by kernel_rfl)) (by kernel_rfl)) (by kernel_rfl)) (by kernel_rfl)) (by kernel_rfl)) (by kernel_rfl)) (by kernel_rfl)) (by kernel_rfl))) (Ev.bin (Ev.bin (Ev.bin (Ev.var K (i := 1) (b := false) (by kernel_rfl) (hd := by kernel_rfl)) (Ev.int) (Op2.fdiv)) (Ev.int) (Op2.mod)) (Ev.int) (Op2.sub)) (hsl := by intros; kernel_rfl)) (hs := by kernel_rfl)))
noncomputable def typF_2b_1e_0e_0 : PS → Option (Fl × PS) := by with_reducible refine (?g : {f : PS → Option (Fl × PS)} → {h : typT1 typS_2b_1e_0e_0 f} → typX_2b_1e_0e_0 = .mk f h → PS → Option (Fl × PS)) rfl; exact fun {f} {h} _ => f
theorem typW_2b_1e_0e_0 : typT1 typS_2b_1e_0e_0 typF_2b_1e_0e_0 := by with_reducible exact WX.spec typX_2b_1e_0e_0 (by kernel_rfl)
@[reducible] noncomputable def typX_2b_1e_0t_0 : WX (typT1 typS_2b_1e_0t_0) := .mk _ (by with_reducible exact fun w mg mb fns C doc pm cdv L g K => (X1.fin ([]) (X1.aug K (i := 3) (b := false) (by kernel_rfl) (Ev.callB (g_chr K (VG.f K) (by kernel_rfl)) (Evs.cons (Ev.bin (Ev.callB (g_ord K (VG.f K) (by kernel_rfl)) (Evs.cons (Ev.sub K (Ev.var K (i := 0) (b := false) (by kernel_rfl) (hd := by kernel_rfl)) (Ev.var K (i := 4) (b := false) (by kernel_rfl) (hd := by kernel_rfl)) (hsl := by intros; kernel_rfl)) (Evs.nil) (by kernel_rfl)) (Cl.ord)) (Ev.bin (Ev.int) (Ev.bin (Ev.bin (Ev.var K (i := 1) (b := false) (by kernel_rfl) (hd := by kernel_rfl)) (Ev.int) (Op2.fdiv)) (Ev.int) (Op2.mod)) (Op2.mulL)) (Op2.sub)) (Evs.nil) (by kernel_rfl)) (Cl.chr)) (Op2.iadd))))
noncomputable def typF_2b_1e_0t_0 : PS → Option (Fl × PS) := by with_reducible refine (?g : {f : PS → Option (Fl × PS)} → {h : typT1 typS_2b_1e_0t_0 f} → typX_2b_1e_0t_0 = .mk f h → PS → Option (Fl × PS)) rfl; exact fun {f} {h} _ => f
theorem typW_2b_1e_0t_0 : typT1 typS_2b_1e_0t_0 typF_2b_1e_0t_0 := by with_reducible exact WX.spec typX_2b_1e_0t_0 (by kernel_rfl)
@[reducible] noncomputable def typX_2b_1e_0e_1 : WX (typT1 typS_2b_1e_0e_1) := .mk _ (by with_reducible exact fun w mg mb fns C doc pm cdv L g K => (X1.fin ([]) (X1.aug K (i := 3) (b := false) (by kernel_rfl) (Ev.callB (g_chr K (VG.f K) (by kernel_rfl)) (Evs.cons (Ev.bin (Ev.bin (Ev.int) (Ev.bin (Ev.int) (Ev.var K (i := 6) (b := false) (by kernel_rfl) (hd := by kernel_rfl)) (Op2.mulL)) (Op2.add)) (Ev.callB (g_ord K (VG.f K) (by kernel_rfl)) (Evs.cons (Ev.sub K (Ev.var K (i := 0) (b := false) (by kernel_rfl) (hd := by kernel_rfl)) (Ev.var K (i := 4) (b := false) (by kernel_rfl) (hd := by kernel_rfl)) (hsl := by intros; kernel_rfl)) (Evs.nil) (by kernel_rfl)) (Cl.ord)) (Op2.add)) (Evs.nil) (by kernel_rfl)) (Cl.chr)) (Op2.iadd))))
noncomputable def typF_2b_1e_0e_1 : PS → Option (Fl × PS) := by with_reducible refine (?g : {f : PS → Option (Fl × PS)} → {h : typT1 typS_2b_1e_0e_1 f} → typX_2b_1e_0e_1 = .mk f h → PS → Option (Fl × PS)) rfl; exact fun {f} {h} _ => f
theorem typW_2b_1e_0e_1 : typT1 typS_2b_1e_0e_1 typF_2b_1e_0e_1 := by with_reducible exact WX.spec typX_2b_1e_0e_1 (by kernel_rfl)
@[reducible] noncomputable def typX_2b_1e_0 : WX (typT1 typS_2b_1e_0) := .mk _ (by with_reducible exact fun w mg mb fns C doc pm cdv L g K => (X1.fin ([]) (X1.ite (Ts.cmp (Ev.bin (Ev.bin (Ev.var K (i := 1) (b := false) (by kernel_rfl) (hd := by kernel_rfl)) (Ev.int) (Op2.fdiv)) (Ev.int) (Op2.mod)) (Ev.int) (Op2.lt) (hm := by kernel_rfl)) (Xs.cons (typW_2b_1e_0t_0 w mg mb fns C doc pm cdv L g K) (Xs.nil)) (Xs.cons (typW_2b_1e_0e_0 w mg mb fns C doc pm cdv L g K) (Xs.cons (typW_2b_1e_0e_1 w mg mb fns C doc pm cdv L g K) (Xs.nil))))))
noncomputable def typF_2b_1e_0 : PS → Option (Fl × PS) := by with_reducible refine (?g : {f : PS → Option (Fl × PS)} → {h : typT1 typS_2b_1e_0 f} → typX_2b_1e_0 = .mk f h → PS → Option (Fl × PS)) rfl; exact fun {f} {h} _ => f
theorem typW_2b_1e_0 : typT1 typS_2b_1e_0 typF_2b_1e_0 := by with_reducible exact WX.spec typX_2b_1e_0 (by kernel_rfl)
@[reducible] noncomputable def typX_2b_1t_1 : WX (typT1 typS_2b_1t_1) := .mk _ (by with_reducible exact fun w mg mb fns C doc pm cdv L g K => (X1.fin ([]) (X1.aug K (i := 4) (b := false) (by kernel_rfl) (Ev.int) (Op2.iadd))))
noncomputable def typF_2b_1t_1 : PS → Option (Fl × PS) := by with_reducible refine (?g : {f : PS → Option (Fl × PS)} → {h : typT1 typS_2b_1t_1 f} → typX_2b_1t_1 = .mk f h → PS → Option (Fl × PS)) rfl; exact fun {f} {h} _ => f
theorem typW_2b_1t_1 : typT1 typS_2b_1t_1 typF_2b_1t_1 := by with_reducible exact WX.spec typX_2b_1t_1 (by kernel_rfl)
@[reducible] noncomputable def typX_2b_1t_0 : WX (typT1 typS_2b_1t_0) := .mk _ (by with_reducible exact fun w mg mb fns C doc pm cdv L g K => (X1.fin ([]) (X1.aug K (i := 3) (b := false) (by kernel_rfl) (Ev.callB (g_chr K (VG.f K) (by kernel_rfl)) (Evs.cons (Ev.sub K (Ev.var K (i := 2) (b := false) (by kernel_rfl) (hd := by kernel_rfl)) (Ev.var K (i := 5) (b := false) (by kernel_rfl) (hd := by kernel_rfl)) (hsl := by intros; kernel_rfl)) (Evs.nil) (by kernel_rfl)) (Cl.chr)) (Op2.iadd))))
noncomputable def typF_2b_1t_0 : PS → Option (Fl × PS) := by with_reducible refine (?g : {f : PS → Option (Fl × PS)} → {h : typT1 typS_2b_1t_0 f} → typX_2b_1t_0 = .mk f h → PS → Option (Fl × PS)) rfl; exact fun {f} {h} _ => f
theorem typW_2b_1t_0 : typT1 typS_2b_1t_0 typF_2b_1t_0 := by with_reducible exact WX.spec typX_2b_1t_0 (by kernel_rfl)
@[reducible] noncomputable def typX_2b_1 : WX (typT1 typS_2b_1) := .mk _ (by with_reducible exact fun w mg mb fns C doc pm cdv L g K => (X1.fin ([]) (X1.ite (Ts.and (Tss.cons (Ts.cmp (Ev.bin (Ev.var K (i := 1) (b := false) (by kernel_rfl) (hd := by kernel_rfl)) (Ev.int) (Op2.mod)) (Ev.int) (Op2.eqA K) (hm := by kernel_rfl)) (Tss.cons (Ts.cmp (Ev.var K (i := 5) (b := false) (by kernel_rfl) (hd := by kernel_rfl)) (Ev.var K (i := 2) (b := false) (by kernel_rfl) (hd := by kernel_rfl)) (Op2.inD2 K) (hm := by kernel_rfl)) (Tss.nil)))) (Xs.cons (typW_2b_1t_0 w mg mb fns C doc pm cdv L g K) (Xs.cons (typW_2b_1t_1 w mg mb fns C doc pm cdv L g K) (Xs.nil))) (Xs.cons (typW_2b_1e_0 w mg mb fns C doc pm cdv L g K) (Xs.nil)))))
noncomputable def typF_2b_1 : PS → Option (Fl × PS) := by with_reducible refine (?g : {f : PS → Option (Fl × PS)} → {h : typT1 typS_2b_1 f} → typX_2b_1 = .mk f h → PS → Option (Fl × PS)) rfl; exact fun {f} {h} _ => f
theorem typW_2b_1 : typT1 typS_2b_1 typF_2b_1 := by with_reducible exact WX.spec typX_2b_1 (by kernel_rfl)
@[reducible] noncomputable def typX_2b_4 : WX (typT1 typS_2b_4) := .mk _ (by with_reducible exact fun w mg mb fns C doc pm cdv L g K => (X1.assign K (i := 1) (b := false) (by kernel_rfl) (Ev.bin (Ev.bin (Ev.var K (i := 1) (b := false) (by kernel_rfl) (hd := by kernel_rfl)) (Ev.int) (Op2.fdiv)) (Ev.bin (Ev.int) (Ev.var K (i := 4) (b := false) (by kernel_rfl) (hd := by kernel_rfl)) (Op2.mulL)) (Op2.add)) (hs := by kernel_rfl)))
noncomputable def typF_2b_4 : PS → Option (Fl × PS) := by with_reducible refine (?g : {f : PS → Option (Fl × PS)} → {h : typT1 typS_2b_4 f} → typX_2b_4 = .mk f h → PS → Option (Fl × PS)) rfl; exact fun {f} {h} _ => f
theorem typW_2b_4 : typT1 typS_2b_4 typF_2b_4 := by with_reducible exact WX.spec typX_2b_4 (by kernel_rfl)
@[reducible] noncomputable def typX_2b_3 : WX (typT1 typS_2b_3) := .mk _ (by with_reducible exact fun w mg mb fns C doc pm cdv L g K => (X1.fin ([]) (X1.aug K (i := 4) (b := false) (by kernel_rfl) (Ev.int) (Op2.iadd))))
noncomputable def typF_2b_3 : PS → Option (Fl × PS) := by with_reducible refine (?g : {f : PS → Option (Fl × PS)} → {h : typT1 typS_2b_3 f} → typX_2b_3 = .mk f h → PS → Option (Fl × PS)) rfl; exact fun {f} {h} _ => f
theorem typW_2b_3 : typT1 typS_2b_3 typF_2b_3 := by with_reducible exact WX.spec typX_2b_3 (by kernel_rfl)
@[reducible] noncomputable def typX_2b_0 : WX (typT1 typS_2b_0) := .mk _ (by with_reducible exact fun w mg mb fns C doc pm cdv L g K => (X1.assign K (i := 5) (b := false) (by kernel_rfl) (Ev.slice K (Ev.var K (i := 0) (b := false) (by kernel_rfl) (hd := by kernel_rfl)) (Prt.some (Ev.var K (i := 4) (b := false) (by kernel_rfl) (hd := by kernel_rfl))) (Prt.some (Ev.bin (Ev.var K (i := 4) (b := false) (by kernel_rfl) (hd := by kernel_rfl)) (Ev.int) (Op2.add))) (Prt.none)) (hs := by kernel_rfl)))
noncomputable def typF_2b_0 : PS → Option (Fl × PS) := by with_reducible refine (?g : {f : PS → Option (Fl × PS)} → {h : typT1 typS_2b_0 f} → typX_2b_0 = .mk f h → PS → Option (Fl × PS)) rfl; exact fun {f} {h} _ => f
theorem typW_2b_0 : typT1 typS_2b_0 typF_2b_0 := by with_reducible exact WX.spec typX_2b_0 (by kernel_rfl)
@[reducible] noncomputable def typX_2b_2e_0 : WX (typT1 typS_2b_2e_0) := .mk _ (by with_reducible exact fun w mg mb fns C doc pm cdv L g K => (X1.fin ([]) (X1.aug K (i := 3) (b := false) (by kernel_rfl) (Ev.callB (g_chr K (VG.f K) (by kernel_rfl)) (Evs.cons (Ev.bin (Ev.int) (Ev.bin (Ev.var K (i := 1) (b := false) (by kernel_rfl) (hd := by kernel_rfl)) (Ev.int) (Op2.mod)) (Op2.add)) (Evs.nil) (by kernel_rfl)) (Cl.chr)) (Op2.iadd))))
noncomputable def typF_2b_2e_0 : PS → Option (Fl × PS) := by with_reducible refine (?g : {f : PS → Option (Fl × PS)} → {h : typT1 typS_2b_2e_0 f} → typX_2b_2e_0 = .mk f h → PS → Option (Fl × PS)) rfl; exact fun {f} {h} _ => f
theorem typW_2b_2e_0 : typT1 typS_2b_2e_0 typF_2b_2e_0 := by with_reducible exact WX.spec typX_2b_2e_0 (by kernel_rfl)
@[reducible] noncomputable def typX_2b_2t_0 : WX (typT1 typS_2b_2t_0) := .mk _ (by with_reducible exact fun w mg mb fns C doc pm cdv L g K => (X1.fin ([]) (X1.aug K (i := 3) (b := false) (by kernel_rfl) (Ev.callB (g_chr K (VG.f K) (by kernel_rfl)) (Evs.cons (Ev.sub K (Ev.tup (Evs.cons (Ev.int) (Evs.cons (Ev.int) (Evs.cons (Ev.int) (Evs.cons (Ev.int) (Evs.cons (Ev.int) (Evs.cons (Ev.int) (Evs.cons (Ev.int) (Evs.cons (Ev.int) (Evs.cons (Ev.int) (Evs.cons (Ev.int) (Evs.cons (Ev.int) (Evs.nil) (by kernel_rfl)) (by kernel_rfl)) (by kernel_rfl)) (by kernel_rfl)) (by kernel_rfl)) (by kernel_rfl)) (by kernel_rfl)) (by kernel_rfl)) (by kernel_rfl)) (by kernel_rfl)) (by kernel_rfl))) (Ev.bin (Ev.var K (i := 1) (b := false) (by kernel_rfl) (hd := by kernel_rfl)) (Ev.int) (Op2.mod)) (hsl := by intros; kernel_rfl)) (Evs.nil) (by kernel_rfl)) (Cl.chr)) (Op2.iadd))))
noncomputable def typF_2b_2t_0 : PS → Option (Fl × PS) := by with_reducible refine (?g : {f : PS → Option (Fl × PS)} → {h : typT1 typS_2b_2t_0 f} → typX_2b_2t_0 = .mk f h → PS → Option (Fl × PS)) rfl; exact fun {f} {h} _ => f
theorem typW_2b_2t_0 : typT1 typS_2b_2t_0 typF_2b_2t_0 := by with_reducible exact WX.spec typX_2b_2t_0 (by kernel_rfl)
@[reducible] noncomputable def typX_2b_2 : WX (typT1 typS_2b_2) := .mk _ (by with_reducible exact fun w mg mb fns C doc pm cdv L g K => (X1.fin ([]) (X1.ite (Ts.cmp (Ev.bin (Ev.var K (i := 1) (b := false) (by kernel_rfl) (hd := by kernel_rfl)) (Ev.int) (Op2.mod)) (Ev.int) (Op2.lt) (hm := by kernel_rfl)) (Xs.cons (typW_2b_2t_0 w mg mb fns C doc pm cdv L g K) (Xs.nil)) (Xs.cons (typW_2b_2e_0 w mg mb fns C doc pm cdv L g K) (Xs.nil)))))
noncomputable def typF_2b_2 : PS → Option (Fl × PS) := by with_reducible refine (?g : {f : PS → Option (Fl × PS)} → {h : typT1 typS_2b_2 f} → typX_2b_2 = .mk f h → PS → Option (Fl × PS)) rfl; exact fun {f} {h} _ => f
theorem typW_2b_2 : typT1 typS_2b_2 typF_2b_2 := by with_reducible exact WX.spec typX_2b_2 (by kernel_rfl)
@[reducible] noncomputable def typX_2 : WX (typT1 typS_2) := .mk _ (by with_reducible exact fun w mg mb fns C doc pm cdv L g K => (X1.fin ([]) (X1.whileC ([5, 6]) (200) (Ts.cmp (Ev.var K (i := 4) (b := false) (by kernel_rfl) (hd := by kernel_rfl)) (Ev.callB (g_len K (VG.f K) (by kernel_rfl)) (Evs.cons (Ev.var K (i := 0) (b := false) (by kernel_rfl) (hd := by kernel_rfl)) (Evs.nil) (by kernel_rfl)) (Cl.len)) (Op2.lt) (hm := by kernel_rfl)) (Xs.cons (typW_2b_0 w mg mb fns C doc pm cdv L g K) (Xs.cons (typW_2b_1 w mg mb fns C doc pm cdv L g K) (Xs.cons (typW_2b_2 w mg mb fns C doc pm cdv L g K) (Xs.cons (typW_2b_3 w mg mb fns C doc pm cdv L g K) (Xs.cons (typW_2b_4 w mg mb fns C doc pm cdv L g K) (Xs.nil)))))))))
noncomputable def typF_2 : PS → Option (Fl × PS) := by with_reducible refine (?g : {f : PS → Option (Fl × PS)} → {h : typT1 typS_2 f} → typX_2 = .mk f h → PS → Option (Fl × PS)) rfl; exact fun {f} {h} _ => f
theorem typW_2 : typT1 typS_2 typF_2 := by with_reducible exact WX.spec typX_2 (by kernel_rfl)
@[reducible] noncomputable def typX : WX (typT [typS_0, typS_1, typS_2, typS_3]) := .mk _ (by with_reducible exact fun w mg mb fns C doc pm cdv L g K => (Xs.cons (typW_0 w mg mb fns C doc pm cdv L g K) (Xs.cons (typW_1 w mg mb fns C doc pm cdv L g K) (Xs.cons (typW_2 w mg mb fns C doc pm cdv L g K) (Xs.cons (typW_3 w mg mb fns C doc pm cdv L g K) (Xs.nil))))))
noncomputable def typF : PS → Option (Fl × PS) := by with_reducible refine (?g : {f : PS → Option (Fl × PS)} → {h : typT [typS_0, typS_1, typS_2, typS_3] f} → typX = .mk f h → PS → Option (Fl × PS)) rfl; exact fun {f} {h} _ => f
theorem typBi : dTypB = [typS_0, typS_1, typS_2, typS_3] := by kernel_rfl
theorem typW : typT dTypB typF := by rw [typBi]; with_reducible exact WX.spec typX (by kernel_rfl)
noncomputable def dFalP : Arguments := fnP (stAt 16)
noncomputable def dFalB : List Stmt := fnB (stAt 16)
noncomputable def dFalS : Scope := fnS (stAt 16)
@[reducible] noncomputable def dFal (doc pm cdv : Value) : FnD := { f := 195, name := "_law_falls", qual := "_law_falls", params := dFalP, body := dFalB, scope := dFalS, dV := .none, kV := .none, doc, pm, cdv, ct := .none, an := none, pn := ["word"], rn := [] }
@[reducible] noncomputable def falT1 (s : Stmt) (f : PS → Option (Fl × PS)) : Prop := ∀ (w : World) (mg : Str → Option Value) (mb : Str → Option Value) (fns : List FnD) (C : Cx) (doc : Value) (pm : Value) (cdv : Value) (L : Addr) (g : Heap) (K : COk1 (gd1 w mg mb fns) (cxC C (dFal doc pm cdv) (Str.ofString "word") L g)), X1 (gd1 w mg mb fns) (cxC C (dFal doc pm cdv) (Str.ofString "word") L g) s f
@[reducible] noncomputable def falT (s : List Stmt) (f : PS → Option (Fl × PS)) : Prop := ∀ (w : World) (mg : Str → Option Value) (mb : Str → Option Value) (fns : List FnD) (C : Cx) (doc : Value) (pm : Value) (cdv : Value) (L : Addr) (g : Heap) (K : COk1 (gd1 w mg mb fns) (cxC C (dFal doc pm cdv) (Str.ofString "word") L g)), Xs (gd1 w mg mb fns) (cxC C (dFal doc pm cdv) (Str.ofString "word") L g) s f
noncomputable abbrev falS_0 : Stmt := pick (s := nthS dFalB 0) (t := .Return _ _) rfl
@[reducible] noncomputable def falX_0 : WX (falT1 falS_0) := .mk _ (by with_reducible exact fun w mg mb fns C doc pm cdv L g K => (X1.ret (Ev.compT K 200 (Ev.callT (g_range K (VG.f K) (by kernel_rfl)) (Evs.cons (Ev.int) (Evs.cons (Ev.callB (g_len K (VG.f K) (by kernel_rfl)) (Evs.cons (Ev.var K (i := 0) (b := true) (by kernel_rfl) (hd := by kernel_rfl)) (Evs.nil) (by kernel_rfl)) (Cl.len)) (Evs.nil) (by kernel_rfl)) (by kernel_rfl)) (Cl.range)) (fun Cn v => (Cts.one (Ts.cmp (Ev.callB (g_ord K (VG.c K (by kernel_rfl)) (by kernel_rfl)) (Evs.cons (Ev.sub K (Ev.cel K (i := 0) (by kernel_rfl) (by kernel_rfl) (by kernel_rfl) (by intros; with_unfolding_all assumption) (hd := by kernel_rfl)) (Ev.bin (Ev.cv (by kernel_rfl) (by kernel_rfl) (hd := by kernel_rfl)) (Ev.int) (Op2.sub)) (hsl := by intros; kernel_rfl)) (Evs.nil) (by kernel_rfl)) (Cl.ord)) (Ev.callB (g_ord K (VG.c K (by kernel_rfl)) (by kernel_rfl)) (Evs.cons (Ev.sub K (Ev.cel K (i := 0) (by kernel_rfl) (by kernel_rfl) (by kernel_rfl) (by intros; with_unfolding_all assumption) (hd := by kernel_rfl)) (Ev.cv (by kernel_rfl) (by kernel_rfl) (hd := by kernel_rfl)) (hsl := by intros; kernel_rfl)) (Evs.nil) (by kernel_rfl)) (Cl.ord)) (Op2.gt) (hm := by kernel_rfl)))) (fun Cn v => (Ev.cv (by kernel_rfl) (by kernel_rfl) (hd := by kernel_rfl))) (by kernel_rfl) (by kernel_rfl) (by intros; kernel_rfl))))
noncomputable def falF_0 : PS → Option (Fl × PS) := by with_reducible refine (?g : {f : PS → Option (Fl × PS)} → {h : falT1 falS_0 f} → falX_0 = .mk f h → PS → Option (Fl × PS)) rfl; exact fun {f} {h} _ => f
theorem falW_0 : falT1 falS_0 falF_0 := by with_reducible exact WX.spec falX_0 (by kernel_rfl)
@[reducible] noncomputable def falX : WX (falT [falS_0]) := .mk _ (by with_reducible exact fun w mg mb fns C doc pm cdv L g K => (Xs.cons (falW_0 w mg mb fns C doc pm cdv L g K) (Xs.nil)))
noncomputable def falF : PS → Option (Fl × PS) := by with_reducible refine (?g : {f : PS → Option (Fl × PS)} → {h : falT [falS_0] f} → falX = .mk f h → PS → Option (Fl × PS)) rfl; exact fun {f} {h} _ => f
theorem falBi : dFalB = [falS_0] := by kernel_rfl
theorem falW : falT dFalB falF := by rw [falBi]; with_reducible exact WX.spec falX (by kernel_rfl)
noncomputable def dGauP : Arguments := fnP (stAt 17)
noncomputable def dGauB : List Stmt := fnB (stAt 17)
noncomputable def dGauS : Scope := fnS (stAt 17)
@[reducible] noncomputable def dGau (doc pm cdv : Value) : FnD := { f := 202, name := "_law_gauss", qual := "_law_gauss", params := dGauP, body := dGauB, scope := dGauS, dV := .none, kV := .none, doc, pm, cdv, ct := .none, an := none, pn := ["n", "k"], rn := ["top", "bottom", "i"] }
@[reducible] noncomputable def gauT1 (s : Stmt) (f : PS → Option (Fl × PS)) : Prop := ∀ (w : World) (mg : Str → Option Value) (mb : Str → Option Value) (fns : List FnD) (C : Cx) (doc : Value) (pm : Value) (cdv : Value) (L : Addr) (g : Heap) (K : COk1 (gd1 w mg mb fns) (cxF C (dGau doc pm cdv) L g)), X1 (gd1 w mg mb fns) (cxF C (dGau doc pm cdv) L g) s f
@[reducible] noncomputable def gauT (s : List Stmt) (f : PS → Option (Fl × PS)) : Prop := ∀ (w : World) (mg : Str → Option Value) (mb : Str → Option Value) (fns : List FnD) (C : Cx) (doc : Value) (pm : Value) (cdv : Value) (L : Addr) (g : Heap) (K : COk1 (gd1 w mg mb fns) (cxF C (dGau doc pm cdv) L g)), Xs (gd1 w mg mb fns) (cxF C (dGau doc pm cdv) L g) s f
noncomputable abbrev gauS_1 : Stmt := pick (s := nthS dGauB 1) (t := .For _ _ _ _ _) rfl
noncomputable abbrev gauS_2 : Stmt := pick (s := nthS dGauB 2) (t := .Return _ _) rfl
noncomputable abbrev gauS_0 : Stmt := pick (s := nthS dGauB 0) (t := .Assign _ _ _) rfl
noncomputable abbrev gauS_1b_0 : Stmt := pick (s := nthS (sBody gauS_1) 0) (t := .AugAssign _ _ _ _) rfl
noncomputable abbrev gauS_1b_1 : Stmt := pick (s := nthS (sBody gauS_1) 1) (t := .AugAssign _ _ _ _) rfl
@[reducible] noncomputable def gauX_1b_0 : WX (gauT1 gauS_1b_0) := .mk _ (by with_reducible exact fun w mg mb fns C doc pm cdv L g K => (X1.fin ([]) (X1.aug K (i := 2) (b := false) (by kernel_rfl) (Ev.bin (Ev.bin (Ev.int) (Ev.callB (g_max K (VG.f K) (by kernel_rfl)) (Evs.cons (Ev.int) (Evs.cons (Ev.bin (Ev.var K (i := 0) (b := false) (by kernel_rfl) (hd := by kernel_rfl)) (Ev.var K (i := 4) (b := false) (by kernel_rfl) (hd := by kernel_rfl)) (Op2.sub)) (Evs.nil) (by kernel_rfl)) (by kernel_rfl)) (Cl.max K)) (Op2.pow)) (Ev.int) (Op2.sub)) (Op2.imul))))
noncomputable def gauF_1b_0 : PS → Option (Fl × PS) := by with_reducible refine (?g : {f : PS → Option (Fl × PS)} → {h : gauT1 gauS_1b_0 f} → gauX_1b_0 = .mk f h → PS → Option (Fl × PS)) rfl; exact fun {f} {h} _ => f
theorem gauW_1b_0 : gauT1 gauS_1b_0 gauF_1b_0 := by with_reducible exact WX.spec gauX_1b_0 (by kernel_rfl)
@[reducible] noncomputable def gauX_1b_1 : WX (gauT1 gauS_1b_1) := .mk _ (by with_reducible exact fun w mg mb fns C doc pm cdv L g K => (X1.fin ([]) (X1.aug K (i := 3) (b := false) (by kernel_rfl) (Ev.bin (Ev.bin (Ev.int) (Ev.bin (Ev.var K (i := 4) (b := false) (by kernel_rfl) (hd := by kernel_rfl)) (Ev.int) (Op2.add)) (Op2.pow)) (Ev.int) (Op2.sub)) (Op2.imul))))
noncomputable def gauF_1b_1 : PS → Option (Fl × PS) := by with_reducible refine (?g : {f : PS → Option (Fl × PS)} → {h : gauT1 gauS_1b_1 f} → gauX_1b_1 = .mk f h → PS → Option (Fl × PS)) rfl; exact fun {f} {h} _ => f
theorem gauW_1b_1 : gauT1 gauS_1b_1 gauF_1b_1 := by with_reducible exact WX.spec gauX_1b_1 (by kernel_rfl)
@[reducible] noncomputable def gauX_1 : WX (gauT1 gauS_1) := .mk _ (by with_reducible exact fun w mg mb fns C doc pm cdv L g K => (X1.fin ([4]) (X1.forC K ([4]) (200) (Ev.callT (g_range K (VG.f K) (by kernel_rfl)) (Evs.cons (Ev.var K (i := 1) (b := false) (by kernel_rfl) (hd := by kernel_rfl)) (Evs.nil) (by kernel_rfl)) (Cl.range)) (Tg.name K (i := 4) (b := false) (by kernel_rfl)) (Xs.cons (gauW_1b_0 w mg mb fns C doc pm cdv L g K) (Xs.cons (gauW_1b_1 w mg mb fns C doc pm cdv L g K) (Xs.nil))) (hg := by intros; kernel_rfl) (hs := by intros; kernel_rfl))))
noncomputable def gauF_1 : PS → Option (Fl × PS) := by with_reducible refine (?g : {f : PS → Option (Fl × PS)} → {h : gauT1 gauS_1 f} → gauX_1 = .mk f h → PS → Option (Fl × PS)) rfl; exact fun {f} {h} _ => f
theorem gauW_1 : gauT1 gauS_1 gauF_1 := by with_reducible exact WX.spec gauX_1 (by kernel_rfl)
@[reducible] noncomputable def gauX_2 : WX (gauT1 gauS_2) := .mk _ (by with_reducible exact fun w mg mb fns C doc pm cdv L g K => (X1.ret (Ev.bin (Ev.var K (i := 2) (b := false) (by kernel_rfl) (hd := by kernel_rfl)) (Ev.var K (i := 3) (b := false) (by kernel_rfl) (hd := by kernel_rfl)) (Op2.fdivB))))
noncomputable def gauF_2 : PS → Option (Fl × PS) := by with_reducible refine (?g : {f : PS → Option (Fl × PS)} → {h : gauT1 gauS_2 f} → gauX_2 = .mk f h → PS → Option (Fl × PS)) rfl; exact fun {f} {h} _ => f
theorem gauW_2 : gauT1 gauS_2 gauF_2 := by with_reducible exact WX.spec gauX_2 (by kernel_rfl)
@[reducible] noncomputable def gauX_0 : WX (gauT1 gauS_0) := .mk _ (by with_reducible exact fun w mg mb fns C doc pm cdv L g K => (X1.tup K (Tns.cons (b := false) (i := 2) (by kernel_rfl) (Tns.cons (b := false) (i := 3) (by kernel_rfl) (Tns.nil))) (Ev.tup (Evs.cons (Ev.int) (Evs.cons (Ev.int) (Evs.nil) (by kernel_rfl)) (by kernel_rfl))) (hs := by kernel_rfl) (hw := by kernel_rfl)))
noncomputable def gauF_0 : PS → Option (Fl × PS) := by with_reducible refine (?g : {f : PS → Option (Fl × PS)} → {h : gauT1 gauS_0 f} → gauX_0 = .mk f h → PS → Option (Fl × PS)) rfl; exact fun {f} {h} _ => f
theorem gauW_0 : gauT1 gauS_0 gauF_0 := by with_reducible exact WX.spec gauX_0 (by kernel_rfl)
@[reducible] noncomputable def gauX : WX (gauT [gauS_0, gauS_1, gauS_2]) := .mk _ (by with_reducible exact fun w mg mb fns C doc pm cdv L g K => (Xs.cons (gauW_0 w mg mb fns C doc pm cdv L g K) (Xs.cons (gauW_1 w mg mb fns C doc pm cdv L g K) (Xs.cons (gauW_2 w mg mb fns C doc pm cdv L g K) (Xs.nil)))))
noncomputable def gauF : PS → Option (Fl × PS) := by with_reducible refine (?g : {f : PS → Option (Fl × PS)} → {h : gauT [gauS_0, gauS_1, gauS_2] f} → gauX = .mk f h → PS → Option (Fl × PS)) rfl; exact fun {f} {h} _ => f
theorem gauBi : dGauB = [gauS_0, gauS_1, gauS_2] := by kernel_rfl
theorem gauW : gauT dGauB gauF := by rw [gauBi]; with_reducible exact WX.spec gauX (by kernel_rfl)
end Mine
end
section
open PySem PySem.W PyProof.Rows PySem.Calls
set_option maxHeartbeats 0
namespace Mine
@[reducible] noncomputable def fl1 (v : Nat → Value) : List FnD := [dStr (v 0) (v 1) (v 2), dEll (v 3) (v 4) (v 5), dTyp (v 6) (v 7) (v 8), dB1 (v 9) (v 10) (v 11), dB3 (v 12) (v 13) (v 14), dFal (v 15) (v 16) (v 17), dGau (v 18) (v 19) (v 20)]
@[reducible] noncomputable def gL (w : World) (mg mb : Str → Option Value) (v : Nat → Value) : Gd := gd1 w mg mb (fl1 v)
section
variable {w : World} {mg mb : Str → Option Value} {v : Nat → Value} {C : Cx} {V : Vw} {p pos : Pos}
theorem sp_acc (K : COk1 (gL w mg mb v) C) (VV : VG V) {es : List Expr} {f : PS → Option (List PV × PS)} (hx : V.env.kindOf (Str.ofString "_Accumulator") = some .globalImplicit) (H : Evs (gL w mg mb v) C V es f) (hlv : decide (3 ≤ C.lv) = true := by rfl) :
    Ev (gL w mg mb v) C V (.Call (.Name (Str.ofString "_Accumulator") p) es [] pos) (fun σ => fbf f σ fun vs σ => cNew vs σ) :=
  Ev.newAcc K VV ack1 newk (of_decide_eq_true hlv) hx (by kernel_rfl) (by decide) H
noncomputable abbrev fLenA := cLenA (fcall dAL alF)
theorem sp_len (K : COk1 (gL w mg mb v) C) (VV : VG V) {es : List Expr} {f : PS → Option (List PV × PS)} (hx : V.env.kindOf (Str.ofString "len") = some .globalImplicit) (H : Evs (gL w mg mb v) C V es f) (hlv : decide (4 ≤ C.lv) = true := by rfl) :
    Ev (gL w mg mb v) C V (.Call (.Name (Str.ofString "len") p) es [] pos) (fun σ => fbf f σ fun vs σ => fLenA vs σ) :=
  Ev.callB (g_len K VV hx) H (Cl.lenA (f := 82) K (by kernel_rfl) (by kernel_rfl) (Cl.fn (K.sub (A' := C.A.in1) (by have := of_decide_eq_true hlv; omega) (Nat.le_add_right _ _) rfl rfl (by show C.A.units + 1 ≤ _; omega)) aL_fn (by show 0 < C.lv - 2; have := of_decide_eq_true hlv; omega) fun L g K' => alW K'))
theorem sp_psh (K : COk1 (gL w mg mb v) C) (_VV : VG V) {o : Expr} {es : List Expr} {ap : Pos} {fo : PS → Option (PV × PS)} {f : PS → Option (List PV × PS)} (ho : Ev (gL w mg mb v) C V o fo) (H : Evs (gL w mg mb v) C V es f)
    (hbase : attributeBase o (Str.ofString "push") V.env (eval o V.env) = eval o V.env := by rfl) (hl : decide (es.length < 30) = true := by rfl) (hline : (ap.endLine == pos.line) = true := by rfl) (hlv : decide (0 < C.lv) = true := by rfl) :
    Ev (gL w mg mb v) C V (.Call (.Attribute o (Str.ofString "push") ap) es [] pos) (fun σ => fbf fo σ fun v σ => if isAcc v σ = true then fbf f σ fun us σ => fcall dPush pushF (v :: us) σ else none) :=
  sp_push K (of_decide_eq_true hlv) ho H hbase hl hline
theorem sp_pop (K : COk1 (gL w mg mb v) C) (_VV : VG V) {o : Expr} {es : List Expr} {ap : Pos} {fo : PS → Option (PV × PS)} {f : PS → Option (List PV × PS)} (ho : Ev (gL w mg mb v) C V o fo) (H : Evs (gL w mg mb v) C V es f)
    (hbase : attributeBase o (Str.ofString "pop") V.env (eval o V.env) = eval o V.env := by rfl) (hl : decide (es.length < 30) = true := by rfl) (hline : (ap.endLine == pos.line) = true := by rfl) (hlv : decide (1 < C.lv) = true := by rfl) :
    Ev (gL w mg mb v) C V (.Call (.Attribute o (Str.ofString "pop") ap) es [] pos) (fun σ => fbf fo σ fun v σ => if isAcc v σ = true then fbf f σ fun us σ => cPop (v :: us) σ else none) := by
  obtain ⟨fo', h1, h2, _⟩ := K.gd.fn dPop (.tail _ (.head _))
  exact Ev.accM K ack1 (by kernel_rfl) (by kernel_rfl) h1 h2 (by decide) (by decide) ho H (clPop K (of_decide_eq_true hlv)) hbase hl hline
theorem sp_pc (K : COk1 (gL w mg mb v) C) (_VV : VG V) {o : Expr} {es : List Expr} {ap : Pos} {fo : PS → Option (PV × PS)} {f : PS → Option (List PV × PS)} (ho : Ev (gL w mg mb v) C V o fo) (H : Evs (gL w mg mb v) C V es f)
    (hbase : attributeBase o (Str.ofString "part_count") V.env (eval o V.env) = eval o V.env := by rfl) (hl : decide (es.length < 30) = true := by rfl) (hline : (ap.endLine == pos.line) = true := by rfl) (hlv : decide (0 < C.lv) = true := by rfl) :
    Ev (gL w mg mb v) C V (.Call (.Attribute o (Str.ofString "part_count") ap) es [] pos) (fun σ => fbf fo σ fun v σ => if isAcc v σ = true then fbf f σ fun us σ => cPc (v :: us) σ else none) :=
  Ev.pc K (of_decide_eq_true hlv) ho H hbase hl hline
theorem ofStr : FnOk (gL w mg mb v) (dStr (v 0) (v 1) (v 2)) where
  obj := .tail _ (.tail _ (.tail _ (.tail _ (.tail _ (.head _)))))
  kinds := fnChk_kinds (by kernel_rfl)
  nodup := fnChk_nodup (by kernel_rfl)
  nocell := fnChk_nocell (by kernel_rfl)
  co := rfl
  gen := rfl
  kind := rfl
  bind := fun s xs _ h => by
    obtain ⟨a, b, rfl⟩ := ls2 h
    exact BindsTo.of_eq rfl
theorem ofEll : FnOk (gL w mg mb v) (dEll (v 3) (v 4) (v 5)) where
  obj := .tail _ (.tail _ (.tail _ (.tail _ (.tail _ (.tail _ (.head _))))))
  kinds := fnChk_kinds (by kernel_rfl)
  nodup := fnChk_nodup (by kernel_rfl)
  nocell := fnChk_nocell (by kernel_rfl)
  co := rfl
  gen := rfl
  kind := rfl
  bind := fun s xs _ h => by
    obtain ⟨a, b, rfl⟩ := ls2 h
    exact BindsTo.of_eq rfl
theorem ofTyp : FnOk (gL w mg mb v) (dTyp (v 6) (v 7) (v 8)) where
  obj := .tail _ (.tail _ (.tail _ (.tail _ (.tail _ (.tail _ (.tail _ (.head _)))))))
  kinds := fnChk_kinds (by kernel_rfl)
  nodup := fnChk_nodup (by kernel_rfl)
  nocell := fnChk_nocell (by kernel_rfl)
  co := rfl
  gen := rfl
  kind := rfl
  bind := fun s xs _ h => by
    obtain ⟨a, b, rfl⟩ := ls2 h
    exact BindsTo.of_eq rfl
theorem ofB1 : FnOk (gL w mg mb v) (dB1 (v 9) (v 10) (v 11)) where
  obj := .tail _ (.tail _ (.tail _ (.tail _ (.tail _ (.tail _ (.tail _ (.tail _ (.head _))))))))
  kinds := fnChk_kinds (by kernel_rfl)
  nodup := fnChk_nodup (by kernel_rfl)
  nocell := fnChk_nocell (by kernel_rfl)
  co := rfl
  gen := rfl
  kind := rfl
  bind := fun s xs _ h => by
    obtain ⟨a, rfl⟩ := ls1 h
    exact BindsTo.of_eq rfl
theorem ofB3 : FnOk (gL w mg mb v) (dB3 (v 12) (v 13) (v 14)) where
  obj := .tail _ (.tail _ (.tail _ (.tail _ (.tail _ (.tail _ (.tail _ (.tail _ (.tail _ (.head _)))))))))
  kinds := fnChk_kinds (by kernel_rfl)
  nodup := fnChk_nodup (by kernel_rfl)
  nocell := fnChk_nocell (by kernel_rfl)
  co := rfl
  gen := rfl
  kind := rfl
  bind := fun s xs _ h => by
    obtain ⟨a, rfl⟩ := ls1 h
    exact BindsTo.of_eq rfl
theorem ofFal : FnOkC (gL w mg mb v) (dFal (v 15) (v 16) (v 17)) "word" where
  obj := .tail _ (.tail _ (.tail _ (.tail _ (.tail _ (.tail _ (.tail _ (.tail _ (.tail _ (.tail _ (.head _))))))))))
  pn := rfl
  rn := rfl
  cl := rfl
  kx := show (dFal .none .none .none).scope.names.lookup ("word" : Str) = some .cell by decide
  cells := fun n => by kernel_rfl
  co := rfl
  gen := rfl
  kind := rfl
  bind := fun s v _ => BindsTo.of_eq rfl
theorem ofGau : FnOk (gL w mg mb v) (dGau (v 18) (v 19) (v 20)) where
  obj := .tail _ (.tail _ (.tail _ (.tail _ (.tail _ (.tail _ (.tail _ (.tail _ (.tail _ (.tail _ (.tail _ (.head _)))))))))))
  kinds := fnChk_kinds (by kernel_rfl)
  nodup := fnChk_nodup (by kernel_rfl)
  nocell := fnChk_nocell (by kernel_rfl)
  co := rfl
  gen := rfl
  kind := rfl
  bind := fun s xs _ h => by
    obtain ⟨a, b, rfl⟩ := ls2 h
    exact BindsTo.of_eq rfl
end
theorem fcall_congr {d d' : FnD} {F : PS → Option (Fl × PS)} (h1 : d.pn = d'.pn) (h2 : d.rn = d'.rn) : fcall d F = fcall d' F := by
  funext vs σ
  unfold fcall
  rw [h1, h2]
noncomputable abbrev cStrcoll := fcall (dStr .none .none .none) strF
noncomputable abbrev cEll := fcall (dEll .none .none .none) ellF
noncomputable abbrev cTyp := fcall (dTyp .none .none .none) typF
noncomputable abbrev cB1 := fcall (dB1 .none .none .none) b1F
noncomputable abbrev cB3 := fcall (dB3 .none .none .none) b3F
noncomputable abbrev cFal := fcall (dFal .none .none .none) falF
noncomputable abbrev cGau := fcall (dGau .none .none .none) gauF
section
variable {w : World} {mg mb : Str → Option Value} {v : Nat → Value} {C : Cx} (K : COk1 (gL w mg mb v) C) (hlv : 0 < C.lv)
include K hlv
theorem clStr : Cl (gL w mg mb v) C (.ref 28) cStrcoll := by
  have h := Cl.fn (d := dStr (v 0) (v 1) (v 2)) (F := strF) K ofStr hlv fun L g K' => by with_reducible exact strW _ C (v 0) (v 1) (v 2) L g K'
  rw [fcall_congr (d := dStr (v 0) (v 1) (v 2)) (d' := dStr .none .none .none) rfl rfl] at h
  exact h
theorem clEll : Cl (gL w mg mb v) C (.ref 35) cEll := by
  have h := Cl.fn (d := dEll (v 3) (v 4) (v 5)) (F := ellF) K ofEll hlv fun L g K' => by with_reducible exact ellW w mg mb (fl1 v) C (v 3) (v 4) (v 5) L g K'
  rw [fcall_congr (d := dEll (v 3) (v 4) (v 5)) (d' := dEll .none .none .none) rfl rfl] at h
  exact h
theorem clTyp : Cl (gL w mg mb v) C (.ref 190) cTyp := by
  have h := Cl.fn (d := dTyp (v 6) (v 7) (v 8)) (F := typF) K ofTyp hlv fun L g K' => by with_reducible exact typW w mg mb (fl1 v) C (v 6) (v 7) (v 8) L g K'
  rw [fcall_congr (d := dTyp (v 6) (v 7) (v 8)) (d' := dTyp .none .none .none) rfl rfl] at h
  exact h
theorem clB1 : Cl (gL w mg mb v) C (.ref 137) cB1 := by
  have h := Cl.fn (d := dB1 (v 9) (v 10) (v 11)) (F := b1F) K ofB1 hlv fun L g K' => by with_reducible exact b1W w mg mb (fl1 v) C (v 9) (v 10) (v 11) L g K'
  rw [fcall_congr (d := dB1 (v 9) (v 10) (v 11)) (d' := dB1 .none .none .none) rfl rfl] at h
  exact h
theorem clB3 : Cl (gL w mg mb v) C (.ref 183) cB3 := by
  have h := Cl.fn (d := dB3 (v 12) (v 13) (v 14)) (F := b3F) K ofB3 hlv fun L g K' => by with_reducible exact b3W w mg mb (fl1 v) C (v 12) (v 13) (v 14) L g K'
  rw [fcall_congr (d := dB3 (v 12) (v 13) (v 14)) (d' := dB3 .none .none .none) rfl rfl] at h
  exact h
theorem clFal : Cl (gL w mg mb v) C (.ref 195) cFal := by
  have h := Cl.fnC (d := dFal (v 15) (v 16) (v 17)) (F := falF) K ofFal hlv fun L g K' => by with_reducible exact falW w mg mb (fl1 v) C (v 15) (v 16) (v 17) L g K'
  rw [fcall_congr (d := dFal (v 15) (v 16) (v 17)) (d' := dFal .none .none .none) rfl rfl] at h
  exact h
theorem clGau : Cl (gL w mg mb v) C (.ref 202) cGau := by
  have h := Cl.fn (d := dGau (v 18) (v 19) (v 20)) (F := gauF) K ofGau hlv fun L g K' => by with_reducible exact gauW w mg mb (fl1 v) C (v 18) (v 19) (v 20) L g K'
  rw [fcall_congr (d := dGau (v 18) (v 19) (v 20)) (d' := dGau .none .none .none) rfl rfl] at h
  exact h
end
noncomputable def dLawP : Arguments := fnP (stAt 18)
noncomputable def dLawB : List Stmt := fnB (stAt 18)
noncomputable def dLawS : Scope := fnS (stAt 18)
noncomputable def lawV : List (String × Bool) := [("script", false), ("numbers", false), ("k", false), ("x", false), ("letters", false), ("meant", false), ("n", false), ("typed", false), ("place", false), ("row", false), ("front", false), ("great", false), ("said", false), ("q", false), ("first", false), ("longer", false), ("shorter", false), ("todo", false), ("told", false), ("blanks", false), ("text", false), ("found", false), ("page", false), ("falls", false), ("side", false), ("due", false), ("j", false), ("sums", false), ("r", false), ("power", false)]
@[reducible] noncomputable def cxL (C : Cx) (a : Addr) (cd : Value) (L : Addr) (g : Heap) : Cx := { C with h₀ := g, L := L, fenv := envX (Str.ofString "law") dLawS L a cd (cellsFrom (L + 1) dLawS.names []), nm := lawV.map fun p => (Str.ofString p.1, p.2), lv := 8 }
section
variable {w : World} {mg mb : Str → Option Value} {v : Nat → Value}
theorem inStr : dStr (v 0) (v 1) (v 2) ∈ (gL w mg mb v).fns := .tail _ (.tail _ (.tail _ (.tail _ (.tail _ (.head _)))))
theorem inEll : dEll (v 3) (v 4) (v 5) ∈ (gL w mg mb v).fns := .tail _ (.tail _ (.tail _ (.tail _ (.tail _ (.tail _ (.head _))))))
theorem inTyp : dTyp (v 6) (v 7) (v 8) ∈ (gL w mg mb v).fns := .tail _ (.tail _ (.tail _ (.tail _ (.tail _ (.tail _ (.tail _ (.head _)))))))
theorem inB1 : dB1 (v 9) (v 10) (v 11) ∈ (gL w mg mb v).fns := .tail _ (.tail _ (.tail _ (.tail _ (.tail _ (.tail _ (.tail _ (.tail _ (.head _))))))))
theorem inB3 : dB3 (v 12) (v 13) (v 14) ∈ (gL w mg mb v).fns := .tail _ (.tail _ (.tail _ (.tail _ (.tail _ (.tail _ (.tail _ (.tail _ (.tail _ (.head _)))))))))
theorem inFal : dFal (v 15) (v 16) (v 17) ∈ (gL w mg mb v).fns := .tail _ (.tail _ (.tail _ (.tail _ (.tail _ (.tail _ (.tail _ (.tail _ (.tail _ (.tail _ (.head _))))))))))
theorem inGau : dGau (v 18) (v 19) (v 20) ∈ (gL w mg mb v).fns := .tail _ (.tail _ (.tail _ (.tail _ (.tail _ (.tail _ (.tail _ (.tail _ (.tail _ (.tail _ (.tail _ (.head _)))))))))))
end
@[reducible] noncomputable def lawT1 (s : Stmt) (f : PS → Option (Fl × PS)) : Prop := ∀ (w : World) (mg : Str → Option Value) (mb : Str → Option Value) (v : Nat → Value) (C : Cx) (a : Addr) (cd : Value) (L : Addr) (g : Heap) (K : COk1 (gL w mg mb v) (cxL C a cd L g)), X1 (gL w mg mb v) (cxL C a cd L g) s f
@[reducible] noncomputable def lawT (s : List Stmt) (f : PS → Option (Fl × PS)) : Prop := ∀ (w : World) (mg : Str → Option Value) (mb : Str → Option Value) (v : Nat → Value) (C : Cx) (a : Addr) (cd : Value) (L : Addr) (g : Heap) (K : COk1 (gL w mg mb v) (cxL C a cd L g)), Xs (gL w mg mb v) (cxL C a cd L g) s f
noncomputable abbrev lawS_18 : Stmt := pick (s := nthS dLawB 18) (t := .Assign _ _ _) rfl
noncomputable abbrev lawS_6 : Stmt := pick (s := nthS dLawB 6) (t := .Assign _ _ _) rfl
noncomputable abbrev lawS_10 : Stmt := pick (s := nthS dLawB 10) (t := .If _ _ _ _) rfl
noncomputable abbrev lawS_8 : Stmt := pick (s := nthS dLawB 8) (t := .Assign _ _ _) rfl
noncomputable abbrev lawS_20 : Stmt := pick (s := nthS dLawB 20) (t := .Return _ _) rfl
noncomputable abbrev lawS_11 : Stmt := pick (s := nthS dLawB 11) (t := .Assign _ _ _) rfl
noncomputable abbrev lawS_0 : Stmt := pick (s := nthS dLawB 0) (t := .Assign _ _ _) rfl
noncomputable abbrev lawS_2 : Stmt := pick (s := nthS dLawB 2) (t := .Assign _ _ _) rfl
noncomputable abbrev lawS_1 : Stmt := pick (s := nthS dLawB 1) (t := .For _ _ _ _ _) rfl
noncomputable abbrev lawS_17 : Stmt := pick (s := nthS dLawB 17) (t := .Assign _ _ _) rfl
noncomputable abbrev lawS_7 : Stmt := pick (s := nthS dLawB 7) (t := .If _ _ _ _) rfl
noncomputable abbrev lawS_13 : Stmt := pick (s := nthS dLawB 13) (t := .Assign _ _ _) rfl
noncomputable abbrev lawS_5 : Stmt := pick (s := nthS dLawB 5) (t := .For _ _ _ _ _) rfl
noncomputable abbrev lawS_15 : Stmt := pick (s := nthS dLawB 15) (t := .While _ _ _ _) rfl
noncomputable abbrev lawS_9 : Stmt := pick (s := nthS dLawB 9) (t := .Assign _ _ _) rfl
noncomputable abbrev lawS_12 : Stmt := pick (s := nthS dLawB 12) (t := .Assign _ _ _) rfl
noncomputable abbrev lawS_19 : Stmt := pick (s := nthS dLawB 19) (t := .For _ _ _ _ _) rfl
noncomputable abbrev lawS_4 : Stmt := pick (s := nthS dLawB 4) (t := .Assign _ _ _) rfl
noncomputable abbrev lawS_16 : Stmt := pick (s := nthS dLawB 16) (t := .If _ _ _ _) rfl
noncomputable abbrev lawS_3 : Stmt := pick (s := nthS dLawB 3) (t := .For _ _ _ _ _) rfl
noncomputable abbrev lawS_14 : Stmt := pick (s := nthS dLawB 14) (t := .Expr _ _) rfl
noncomputable abbrev lawS_10t_0 : Stmt := pick (s := nthS (sBody lawS_10) 0) (t := .Return _ _) rfl
noncomputable abbrev lawS_1b_0 : Stmt := pick (s := nthS (sBody lawS_1) 0) (t := .AugAssign _ _ _ _) rfl
noncomputable abbrev lawS_7t_0 : Stmt := pick (s := nthS (sBody lawS_7) 0) (t := .Return _ _) rfl
noncomputable abbrev lawS_5b_0 : Stmt := pick (s := nthS (sBody lawS_5) 0) (t := .If _ _ _ _) rfl
noncomputable abbrev lawS_15b_0 : Stmt := pick (s := nthS (sBody lawS_15) 0) (t := .Assign _ _ _) rfl
noncomputable abbrev lawS_15b_1 : Stmt := pick (s := nthS (sBody lawS_15) 1) (t := .If _ _ _ _) rfl
noncomputable abbrev lawS_19b_1 : Stmt := pick (s := nthS (sBody lawS_19) 1) (t := .AugAssign _ _ _ _) rfl
noncomputable abbrev lawS_19b_0 : Stmt := pick (s := nthS (sBody lawS_19) 0) (t := .Assign _ _ _) rfl
noncomputable abbrev lawS_16t_0 : Stmt := pick (s := nthS (sBody lawS_16) 0) (t := .Return _ _) rfl
noncomputable abbrev lawS_3b_1 : Stmt := pick (s := nthS (sBody lawS_3) 1) (t := .Assign _ _ _) rfl
noncomputable abbrev lawS_3b_0 : Stmt := pick (s := nthS (sBody lawS_3) 0) (t := .AugAssign _ _ _ _) rfl
noncomputable abbrev lawS_5b_0t_0 : Stmt := pick (s := nthS (sBody lawS_5b_0) 0) (t := .Return _ _) rfl
noncomputable abbrev lawS_15b_1e_1 : Stmt := pick (s := nthS (sElse lawS_15b_1) 1) (t := .If _ _ _ _) rfl
noncomputable abbrev lawS_15b_1t_0 : Stmt := pick (s := nthS (sBody lawS_15b_1) 0) (t := .For _ _ _ _ _) rfl
noncomputable abbrev lawS_15b_1e_2 : Stmt := pick (s := nthS (sElse lawS_15b_1) 2) (t := .If _ _ _ _) rfl
noncomputable abbrev lawS_15b_1e_0 : Stmt := pick (s := nthS (sElse lawS_15b_1) 0) (t := .Assign _ _ _) rfl
noncomputable abbrev lawS_15b_1e_1t_0 : Stmt := pick (s := nthS (sBody lawS_15b_1e_1) 0) (t := .Return _ _) rfl
noncomputable abbrev lawS_15b_1t_0b_0 : Stmt := pick (s := nthS (sBody lawS_15b_1t_0) 0) (t := .Expr _ _) rfl
noncomputable abbrev lawS_15b_1e_2t_0 : Stmt := pick (s := nthS (sBody lawS_15b_1e_2) 0) (t := .Assign _ _ _) rfl
noncomputable abbrev lawS_15b_1e_2t_2 : Stmt := pick (s := nthS (sBody lawS_15b_1e_2) 2) (t := .AugAssign _ _ _ _) rfl
noncomputable abbrev lawS_15b_1e_2t_1 : Stmt := pick (s := nthS (sBody lawS_15b_1e_2) 1) (t := .For _ _ _ _ _) rfl
noncomputable abbrev lawS_15b_1e_2t_1b_0 : Stmt := pick (s := nthS (sBody lawS_15b_1e_2t_1) 0) (t := .Assign _ _ _) rfl
noncomputable abbrev lawS_15b_1e_2t_1b_2 : Stmt := pick (s := nthS (sBody lawS_15b_1e_2t_1) 2) (t := .Expr _ _) rfl
noncomputable abbrev lawS_15b_1e_2t_1b_1 : Stmt := pick (s := nthS (sBody lawS_15b_1e_2t_1) 1) (t := .If _ _ _ _) rfl
noncomputable abbrev lawS_15b_1e_2t_1b_3 : Stmt := pick (s := nthS (sBody lawS_15b_1e_2t_1) 3) (t := .AugAssign _ _ _ _) rfl
noncomputable abbrev lawS_15b_1e_2t_1b_1t_0 : Stmt := pick (s := nthS (sBody lawS_15b_1e_2t_1b_1) 0) (t := .Return _ _) rfl
@[reducible] noncomputable def lawX_18 : WX (lawT1 lawS_18) := .mk _ (by with_reducible exact fun w mg mb v C a cd L g K => (X1.assign K (i := 27) (b := false) (by kernel_rfl) (Ev.bin (Ev.callB (g_sum K (VG.f K) (by kernel_rfl)) (Evs.cons (Ev.callU K (VG.f K) (inFal) (by kernel_rfl) (by kernel_rfl) (by kernel_rfl) (Evs.cons (Ev.var K (i := 15) (b := false) (by kernel_rfl) (hd := by kernel_rfl)) (Evs.nil) (by kernel_rfl)) (clFal K (Nat.succ_pos (7)))) (Evs.nil) (by kernel_rfl)) (Cl.sum K)) (Ev.callB (g_sum K (VG.f K) (by kernel_rfl)) (Evs.cons (Ev.callU K (VG.f K) (inFal) (by kernel_rfl) (by kernel_rfl) (by kernel_rfl) (Evs.cons (Ev.var K (i := 16) (b := false) (by kernel_rfl) (hd := by kernel_rfl)) (Evs.nil) (by kernel_rfl)) (clFal K (Nat.succ_pos (7)))) (Evs.nil) (by kernel_rfl)) (Cl.sum K)) (Op2.add)) (hs := by kernel_rfl)))
noncomputable def lawF_18 : PS → Option (Fl × PS) := by with_reducible refine (?g : {f : PS → Option (Fl × PS)} → {h : lawT1 lawS_18 f} → lawX_18 = .mk f h → PS → Option (Fl × PS)) rfl; exact fun {f} {h} _ => f
theorem lawW_18 : lawT1 lawS_18 lawF_18 := by with_reducible exact WX.spec lawX_18 (by kernel_rfl)
@[reducible] noncomputable def lawX_6 : WX (lawT1 lawS_6) := .mk _ (by with_reducible exact fun w mg mb v C a cd L g K => (X1.assign K (i := 9) (b := false) (by kernel_rfl) (Ev.meth PySem.F.plainAttrs_str PySem.F.slot_str_join PySem.F.type_str_join (Ev.str ([]) (hl := by kernel_rfl)) (Evs.cons (Ev.compT K 200 (Ev.var K (i := 7) (b := false) (by kernel_rfl) (hd := by kernel_rfl)) (fun Cn v => (Cts.one (Ts.not (Ts.val (Ev.callU K (VG.c K (by kernel_rfl)) (inB1) (by kernel_rfl) (by kernel_rfl) (by kernel_rfl) (Evs.cons (Ev.cv (by kernel_rfl) (by kernel_rfl) (hd := by kernel_rfl)) (Evs.nil) (by kernel_rfl)) (clB1 K (Nat.succ_pos (7)))) (hi := by kernel_rfl))))) (fun Cn v => (Ev.callU K (VG.c K (by kernel_rfl)) (inB3) (by kernel_rfl) (by kernel_rfl) (by kernel_rfl) (Evs.cons (Ev.cv (by kernel_rfl) (by kernel_rfl) (hd := by kernel_rfl)) (Evs.nil) (by kernel_rfl)) (clB3 K (Nat.succ_pos (7))))) (by kernel_rfl) (by kernel_rfl) (by intros; kernel_rfl)) (Evs.nil) (by kernel_rfl)) (Cl.joinB K) (hbase := by kernel_rfl) (hl := by kernel_rfl) (hline := by kernel_rfl)) (hs := by kernel_rfl)))
noncomputable def lawF_6 : PS → Option (Fl × PS) := by with_reducible refine (?g : {f : PS → Option (Fl × PS)} → {h : lawT1 lawS_6 f} → lawX_6 = .mk f h → PS → Option (Fl × PS)) rfl; exact fun {f} {h} _ => f
theorem lawW_6 : lawT1 lawS_6 lawF_6 := by with_reducible exact WX.spec lawX_6 (by kernel_rfl)
@[reducible] noncomputable def lawX_10t_0 : WX (lawT1 lawS_10t_0) := .mk _ (by with_reducible exact fun w mg mb v C a cd L g K => (X1.ret (Ev.bool (b := false))))
noncomputable def lawF_10t_0 : PS → Option (Fl × PS) := by with_reducible refine (?g : {f : PS → Option (Fl × PS)} → {h : lawT1 lawS_10t_0 f} → lawX_10t_0 = .mk f h → PS → Option (Fl × PS)) rfl; exact fun {f} {h} _ => f
theorem lawW_10t_0 : lawT1 lawS_10t_0 lawF_10t_0 := by with_reducible exact WX.spec lawX_10t_0 (by kernel_rfl)
@[reducible] noncomputable def lawX_10 : WX (lawT1 lawS_10) := .mk _ (by with_reducible exact fun w mg mb v C a cd L g K => (X1.fin ([10, 11, 12, 1005]) (X1.ite (Ts.or (Tss.cons (Ts.cmp (Ev.var K (i := 12) (b := false) (by kernel_rfl) (hd := by kernel_rfl)) (Ev.lst (Evs.cons (Ev.int) (Evs.cons (Ev.un (Ev.int) (Op1.neg)) (Evs.cons (Ev.int) (Evs.cons (Ev.int) (Evs.cons (Ev.un (Ev.int) (Op1.neg)) (Evs.nil) (by kernel_rfl)) (by kernel_rfl)) (by kernel_rfl)) (by kernel_rfl)) (by kernel_rfl))) (Op2.neA K) (hm := by kernel_rfl)) (Tss.cons (Ts.cmp (Ev.compT K 200 (Ev.var K (i := 12) (b := false) (by kernel_rfl) (hd := by kernel_rfl)) (fun Cn v => (Cts.one (Ts.val (Ev.callB (g_isi K (VG.c K (by kernel_rfl)) (by kernel_rfl)) (Evs.cons (Ev.cv (by kernel_rfl) (by kernel_rfl) (hd := by kernel_rfl)) (Evs.cons (g_bool K (VG.c K (by kernel_rfl)) (by kernel_rfl)) (Evs.nil) (by kernel_rfl)) (by kernel_rfl)) (Cl.isBool)) (hi := by kernel_rfl)))) (fun Cn v => (Ev.cv (by kernel_rfl) (by kernel_rfl) (hd := by kernel_rfl))) (by kernel_rfl) (by kernel_rfl) (by intros; kernel_rfl)) (Ev.lst (Evs.nil)) (Op2.neA K) (hm := by kernel_rfl)) (Tss.nil)))) (Xs.cons (lawW_10t_0 w mg mb v C a cd L g K) (Xs.nil)) (Xs.nil))))
noncomputable def lawF_10 : PS → Option (Fl × PS) := by with_reducible refine (?g : {f : PS → Option (Fl × PS)} → {h : lawT1 lawS_10 f} → lawX_10 = .mk f h → PS → Option (Fl × PS)) rfl; exact fun {f} {h} _ => f
theorem lawW_10 : lawT1 lawS_10 lawF_10 := by with_reducible exact WX.spec lawX_10 (by kernel_rfl)
@[reducible] noncomputable def lawX_8 : WX (lawT1 lawS_8) := .mk _ (by with_reducible exact fun w mg mb v C a cd L g K => (X1.tupS K (names := [Str.ofString "front", Str.ofString "great"]) (Tnb.cons (b := false) (i := 11) (by kernel_rfl) (Tnb.cons (b := false) (i := 10) (by kernel_rfl) (Tnb.nil))) (Ev.tup (Evs.cons (Ev.slice K (Ev.var K (i := 9) (b := false) (by kernel_rfl) (hd := by kernel_rfl)) (Prt.none) (Prt.some (Ev.bin (Ev.sub K (Ev.var K (i := 1) (b := false) (by kernel_rfl) (hd := by kernel_rfl)) (Ev.int) (hsl := by intros; kernel_rfl)) (Ev.int) (Op2.mod))) (Prt.none)) (Evs.cons (Ev.bin (Ev.callB (g_chr K (VG.f K) (by kernel_rfl)) (Evs.cons (Ev.bin (Ev.callB (g_ord K (VG.f K) (by kernel_rfl)) (Evs.cons (Ev.sub K (Ev.var K (i := 9) (b := false) (by kernel_rfl) (hd := by kernel_rfl)) (Ev.int) (hsl := by intros; kernel_rfl)) (Evs.nil) (by kernel_rfl)) (Cl.ord)) (Ev.int) (Op2.sub)) (Evs.nil) (by kernel_rfl)) (Cl.chr)) (Ev.slice K (Ev.var K (i := 9) (b := false) (by kernel_rfl) (hd := by kernel_rfl)) (Prt.some (Ev.int)) (Prt.none) (Prt.none)) (Op2.add)) (Evs.nil) (by kernel_rfl)) (by kernel_rfl))) (hs := by kernel_rfl) (hw := by kernel_rfl)))
noncomputable def lawF_8 : PS → Option (Fl × PS) := by with_reducible refine (?g : {f : PS → Option (Fl × PS)} → {h : lawT1 lawS_8 f} → lawX_8 = .mk f h → PS → Option (Fl × PS)) rfl; exact fun {f} {h} _ => f
theorem lawW_8 : lawT1 lawS_8 lawF_8 := by with_reducible exact WX.spec lawX_8 (by kernel_rfl)
@[reducible] noncomputable def lawX_20 : WX (lawT1 lawS_20) := .mk _ (by with_reducible exact fun w mg mb v C a cd L g K => (X1.ret (Ev.cmp (Ev.var K (i := 18) (b := false) (by kernel_rfl) (hd := by kernel_rfl)) (Ev.var K (i := 25) (b := false) (by kernel_rfl) (hd := by kernel_rfl)) (Op2.eqA K) (hm := by kernel_rfl))))
noncomputable def lawF_20 : PS → Option (Fl × PS) := by with_reducible refine (?g : {f : PS → Option (Fl × PS)} → {h : lawT1 lawS_20 f} → lawX_20 = .mk f h → PS → Option (Fl × PS)) rfl; exact fun {f} {h} _ => f
theorem lawW_20 : lawT1 lawS_20 lawF_20 := by with_reducible exact WX.spec lawX_20 (by kernel_rfl)
@[reducible] noncomputable def lawX_11 : WX (lawT1 lawS_11) := .mk _ (by with_reducible exact fun w mg mb v C a cd L g K => (X1.tupS K (names := [Str.ofString "q", Str.ofString "first"]) (Tnb.cons (b := false) (i := 14) (by kernel_rfl) (Tnb.cons (b := false) (i := 13) (by kernel_rfl) (Tnb.nil))) (Ev.tup (Evs.cons (Ev.bin (Ev.int) (Ev.bin (Ev.sub K (Ev.var K (i := 1) (b := false) (by kernel_rfl) (hd := by kernel_rfl)) (Ev.int) (hsl := by intros; kernel_rfl)) (Ev.int) (Op2.mod)) (Op2.add)) (Evs.cons (Ev.bin (Ev.bin (Ev.sub K (Ev.var K (i := 1) (b := false) (by kernel_rfl) (hd := by kernel_rfl)) (Ev.int) (hsl := by intros; kernel_rfl)) (Ev.int) (Op2.fdivB)) (Ev.int) (Op2.mod)) (Evs.nil) (by kernel_rfl)) (by kernel_rfl))) (hs := by kernel_rfl) (hw := by kernel_rfl)))
noncomputable def lawF_11 : PS → Option (Fl × PS) := by with_reducible refine (?g : {f : PS → Option (Fl × PS)} → {h : lawT1 lawS_11 f} → lawX_11 = .mk f h → PS → Option (Fl × PS)) rfl; exact fun {f} {h} _ => f
theorem lawW_11 : lawT1 lawS_11 lawF_11 := by with_reducible exact WX.spec lawX_11 (by kernel_rfl)
@[reducible] noncomputable def lawX_0 : WX (lawT1 lawS_0) := .mk _ (by with_reducible exact fun w mg mb v C a cd L g K => (X1.assign K (i := 1) (b := false) (by kernel_rfl) (Ev.lst (Evs.cons (Ev.int) (Evs.cons (Ev.int) (Evs.cons (Ev.int) (Evs.cons (Ev.int) (Evs.cons (Ev.int) (Evs.cons (Ev.int) (Evs.cons (Ev.int) (Evs.cons (Ev.int) (Evs.nil) (by kernel_rfl)) (by kernel_rfl)) (by kernel_rfl)) (by kernel_rfl)) (by kernel_rfl)) (by kernel_rfl)) (by kernel_rfl)) (by kernel_rfl))) (hs := by kernel_rfl)))
noncomputable def lawF_0 : PS → Option (Fl × PS) := by with_reducible refine (?g : {f : PS → Option (Fl × PS)} → {h : lawT1 lawS_0 f} → lawX_0 = .mk f h → PS → Option (Fl × PS)) rfl; exact fun {f} {h} _ => f
theorem lawW_0 : lawT1 lawS_0 lawF_0 := by with_reducible exact WX.spec lawX_0 (by kernel_rfl)
@[reducible] noncomputable def lawX_2 : WX (lawT1 lawS_2) := .mk _ (by with_reducible exact fun w mg mb v C a cd L g K => (X1.tup K (Tns.cons (b := false) (i := 4) (by kernel_rfl) (Tns.cons (b := false) (i := 5) (by kernel_rfl) (Tns.nil))) (Ev.tup (Evs.cons (Ev.str ([97, 98, 102, 107, 109, 112]) (hl := by kernel_rfl)) (Evs.cons (Ev.str ([]) (hl := by kernel_rfl)) (Evs.nil) (by kernel_rfl)) (by kernel_rfl))) (hs := by kernel_rfl) (hw := by kernel_rfl)))
noncomputable def lawF_2 : PS → Option (Fl × PS) := by with_reducible refine (?g : {f : PS → Option (Fl × PS)} → {h : lawT1 lawS_2 f} → lawX_2 = .mk f h → PS → Option (Fl × PS)) rfl; exact fun {f} {h} _ => f
theorem lawW_2 : lawT1 lawS_2 lawF_2 := by with_reducible exact WX.spec lawX_2 (by kernel_rfl)
@[reducible] noncomputable def lawX_1b_0 : WX (lawT1 lawS_1b_0) := .mk _ (by with_reducible exact fun w mg mb v C a cd L g K => (X1.fin ([]) (X1.augSub K (Ev.var K (i := 1) (b := false) (by kernel_rfl) (hd := by kernel_rfl)) (Ev.bin (Ev.var K (i := 2) (b := false) (by kernel_rfl) (hd := by kernel_rfl)) (Ev.int) (Op2.mod)) (Ev.bin (Ev.var K (i := 3) (b := false) (by kernel_rfl) (hd := by kernel_rfl)) (Ev.bin (Ev.int) (Ev.int) (Op2.pow)) (Op2.mod)) (Op2.iadd) (hst := by intros; kernel_rfl))))
noncomputable def lawF_1b_0 : PS → Option (Fl × PS) := by with_reducible refine (?g : {f : PS → Option (Fl × PS)} → {h : lawT1 lawS_1b_0 f} → lawX_1b_0 = .mk f h → PS → Option (Fl × PS)) rfl; exact fun {f} {h} _ => f
theorem lawW_1b_0 : lawT1 lawS_1b_0 lawF_1b_0 := by with_reducible exact WX.spec lawX_1b_0 (by kernel_rfl)
@[reducible] noncomputable def lawX_1 : WX (lawT1 lawS_1) := .mk _ (by with_reducible exact fun w mg mb v C a cd L g K => (X1.fin ([0, 2, 3]) (X1.enum K (bi := false) (bv := false) (ii := 2) (iv := 3) (200) (by kernel_rfl) (by kernel_rfl) (g_enum K (VG.f K) (by kernel_rfl)) (Ev.slice K (Ev.var K (i := 0) (b := false) (by kernel_rfl) (hd := by kernel_rfl)) (Prt.none) (Prt.some (Ev.int)) (Prt.none)) (by kernel_rfl) (Xs.cons (lawW_1b_0 w mg mb v C a cd L g K) (Xs.nil)) (hs := by intros; kernel_rfl))))
noncomputable def lawF_1 : PS → Option (Fl × PS) := by with_reducible refine (?g : {f : PS → Option (Fl × PS)} → {h : lawT1 lawS_1 f} → lawX_1 = .mk f h → PS → Option (Fl × PS)) rfl; exact fun {f} {h} _ => f
theorem lawW_1 : lawT1 lawS_1 lawF_1 := by with_reducible exact WX.spec lawX_1 (by kernel_rfl)
@[reducible] noncomputable def lawX_17 : WX (lawT1 lawS_17) := .mk _ (by with_reducible exact fun w mg mb v C a cd L g K => (X1.tupS K (names := [Str.ofString "due", Str.ofString "j", Str.ofString "k"]) (Tnb.cons (b := false) (i := 2) (by kernel_rfl) (Tnb.cons (b := false) (i := 26) (by kernel_rfl) (Tnb.cons (b := false) (i := 25) (by kernel_rfl) (Tnb.nil)))) (Ev.tup (Evs.cons (Ev.int) (Evs.cons (sp_len K (VG.f K) (by kernel_rfl) (Evs.cons (Ev.callU K (VG.f K) (inFal) (by kernel_rfl) (by kernel_rfl) (by kernel_rfl) (Evs.cons (Ev.var K (i := 15) (b := false) (by kernel_rfl) (hd := by kernel_rfl)) (Evs.nil) (by kernel_rfl)) (clFal K (Nat.succ_pos (7)))) (Evs.nil) (by kernel_rfl)) (hlv := by kernel_rfl)) (Evs.cons (sp_len K (VG.f K) (by kernel_rfl) (Evs.cons (Ev.callU K (VG.f K) (inFal) (by kernel_rfl) (by kernel_rfl) (by kernel_rfl) (Evs.cons (Ev.var K (i := 16) (b := false) (by kernel_rfl) (hd := by kernel_rfl)) (Evs.nil) (by kernel_rfl)) (clFal K (Nat.succ_pos (7)))) (Evs.nil) (by kernel_rfl)) (hlv := by kernel_rfl)) (Evs.nil) (by kernel_rfl)) (by kernel_rfl)) (by kernel_rfl))) (hs := by kernel_rfl) (hw := by kernel_rfl)))
noncomputable def lawF_17 : PS → Option (Fl × PS) := by with_reducible refine (?g : {f : PS → Option (Fl × PS)} → {h : lawT1 lawS_17 f} → lawX_17 = .mk f h → PS → Option (Fl × PS)) rfl; exact fun {f} {h} _ => f
theorem lawW_17 : lawT1 lawS_17 lawF_17 := by with_reducible exact WX.spec lawX_17 (by kernel_rfl)
@[reducible] noncomputable def lawX_7t_0 : WX (lawT1 lawS_7t_0) := .mk _ (by with_reducible exact fun w mg mb v C a cd L g K => (X1.ret (Ev.bool (b := false))))
noncomputable def lawF_7t_0 : PS → Option (Fl × PS) := by with_reducible refine (?g : {f : PS → Option (Fl × PS)} → {h : lawT1 lawS_7t_0 f} → lawX_7t_0 = .mk f h → PS → Option (Fl × PS)) rfl; exact fun {f} {h} _ => f
theorem lawW_7t_0 : lawT1 lawS_7t_0 lawF_7t_0 := by with_reducible exact WX.spec lawX_7t_0 (by kernel_rfl)
@[reducible] noncomputable def lawX_7 : WX (lawT1 lawS_7) := .mk _ (by with_reducible exact fun w mg mb v C a cd L g K => (X1.fin ([5, 7, 1003, 1004]) (X1.ite (Ts.cmp (Ev.var K (i := 9) (b := false) (by kernel_rfl) (hd := by kernel_rfl)) (Ev.var K (i := 5) (b := false) (by kernel_rfl) (hd := by kernel_rfl)) (Op2.neA K) (hm := by kernel_rfl)) (Xs.cons (lawW_7t_0 w mg mb v C a cd L g K) (Xs.nil)) (Xs.nil))))
noncomputable def lawF_7 : PS → Option (Fl × PS) := by with_reducible refine (?g : {f : PS → Option (Fl × PS)} → {h : lawT1 lawS_7 f} → lawX_7 = .mk f h → PS → Option (Fl × PS)) rfl; exact fun {f} {h} _ => f
theorem lawW_7 : lawT1 lawS_7 lawF_7 := by with_reducible exact WX.spec lawX_7 (by kernel_rfl)
@[reducible] noncomputable def lawX_13 : WX (lawT1 lawS_13) := .mk _ (by with_reducible exact fun w mg mb v C a cd L g K => (X1.tupS K (names := [Str.ofString "todo", Str.ofString "told"]) (Tnb.cons (b := false) (i := 18) (by kernel_rfl) (Tnb.cons (b := false) (i := 17) (by kernel_rfl) (Tnb.nil))) (Ev.tup (Evs.cons (sp_acc K (VG.f K) (by kernel_rfl) (Evs.cons (Ev.var K (i := 14) (b := false) (by kernel_rfl) (hd := by kernel_rfl)) (Evs.nil) (by kernel_rfl)) (hlv := by kernel_rfl)) (Evs.cons (Ev.int) (Evs.nil) (by kernel_rfl)) (by kernel_rfl))) (hs := by kernel_rfl) (hw := by kernel_rfl)))
noncomputable def lawF_13 : PS → Option (Fl × PS) := by with_reducible refine (?g : {f : PS → Option (Fl × PS)} → {h : lawT1 lawS_13 f} → lawX_13 = .mk f h → PS → Option (Fl × PS)) rfl; exact fun {f} {h} _ => f
theorem lawW_13 : lawT1 lawS_13 lawF_13 := by with_reducible exact WX.spec lawX_13 (by kernel_rfl)
@[reducible] noncomputable def lawX_5b_0t_0 : WX (lawT1 lawS_5b_0t_0) := .mk _ (by with_reducible exact fun w mg mb v C a cd L g K => (X1.ret (Ev.bool (b := false))))
noncomputable def lawF_5b_0t_0 : PS → Option (Fl × PS) := by with_reducible refine (?g : {f : PS → Option (Fl × PS)} → {h : lawT1 lawS_5b_0t_0 f} → lawX_5b_0t_0 = .mk f h → PS → Option (Fl × PS)) rfl; exact fun {f} {h} _ => f
theorem lawW_5b_0t_0 : lawT1 lawS_5b_0t_0 lawF_5b_0t_0 := by with_reducible exact WX.spec lawX_5b_0t_0 (by kernel_rfl)
@[reducible] noncomputable def lawX_5b_0 : WX (lawT1 lawS_5b_0) := .mk _ (by with_reducible exact fun w mg mb v C a cd L g K => (X1.fin ([]) (X1.ite (Ts.cmp (Ev.callU K (VG.f K) (inB1) (by kernel_rfl) (by kernel_rfl) (by kernel_rfl) (Evs.cons (Ev.sub K (Ev.var K (i := 7) (b := false) (by kernel_rfl) (hd := by kernel_rfl)) (Ev.var K (i := 8) (b := false) (by kernel_rfl) (hd := by kernel_rfl)) (hsl := by intros; kernel_rfl)) (Evs.nil) (by kernel_rfl)) (clB1 K (Nat.succ_pos (7)))) (Ev.cmp (Ev.bin (Ev.var K (i := 8) (b := false) (by kernel_rfl) (hd := by kernel_rfl)) (Ev.int) (Op2.mod)) (Ev.int) (Op2.eqA K) (hm := by kernel_rfl)) (Op2.isNot) (hm := by kernel_rfl)) (Xs.cons (lawW_5b_0t_0 w mg mb v C a cd L g K) (Xs.nil)) (Xs.nil))))
noncomputable def lawF_5b_0 : PS → Option (Fl × PS) := by with_reducible refine (?g : {f : PS → Option (Fl × PS)} → {h : lawT1 lawS_5b_0 f} → lawX_5b_0 = .mk f h → PS → Option (Fl × PS)) rfl; exact fun {f} {h} _ => f
theorem lawW_5b_0 : lawT1 lawS_5b_0 lawF_5b_0 := by with_reducible exact WX.spec lawX_5b_0 (by kernel_rfl)
@[reducible] noncomputable def lawX_5 : WX (lawT1 lawS_5) := .mk _ (by with_reducible exact fun w mg mb v C a cd L g K => (X1.fin ([8]) (X1.forC K ([]) (200) (Ev.callT (g_range K (VG.f K) (by kernel_rfl)) (Evs.cons (sp_len K (VG.f K) (by kernel_rfl) (Evs.cons (Ev.var K (i := 7) (b := false) (by kernel_rfl) (hd := by kernel_rfl)) (Evs.nil) (by kernel_rfl)) (hlv := by kernel_rfl)) (Evs.nil) (by kernel_rfl)) (Cl.range)) (Tg.name K (i := 8) (b := false) (by kernel_rfl)) (Xs.cons (lawW_5b_0 w mg mb v C a cd L g K) (Xs.nil)) (hg := by intros; kernel_rfl) (hs := by intros; kernel_rfl))))
noncomputable def lawF_5 : PS → Option (Fl × PS) := by with_reducible refine (?g : {f : PS → Option (Fl × PS)} → {h : lawT1 lawS_5 f} → lawX_5 = .mk f h → PS → Option (Fl × PS)) rfl; exact fun {f} {h} _ => f
theorem lawW_5 : lawT1 lawS_5 lawF_5 := by with_reducible exact WX.spec lawX_5 (by kernel_rfl)
@[reducible] noncomputable def lawX_15b_0 : WX (lawT1 lawS_15b_0) := .mk _ (by with_reducible exact fun w mg mb v C a cd L g K => (X1.tup K (Tns.cons (b := false) (i := 19) (by kernel_rfl) (Tns.cons (b := false) (i := 20) (by kernel_rfl) (Tns.nil))) (sp_pop K (VG.f K) (Ev.var K (i := 17) (b := false) (by kernel_rfl) (hd := by kernel_rfl)) (Evs.nil) (hbase := by kernel_rfl) (hl := by kernel_rfl) (hline := by kernel_rfl) (hlv := by kernel_rfl)) (hs := by kernel_rfl) (hw := by kernel_rfl)))
noncomputable def lawF_15b_0 : PS → Option (Fl × PS) := by with_reducible refine (?g : {f : PS → Option (Fl × PS)} → {h : lawT1 lawS_15b_0 f} → lawX_15b_0 = .mk f h → PS → Option (Fl × PS)) rfl; exact fun {f} {h} _ => f
theorem lawW_15b_0 : lawT1 lawS_15b_0 lawF_15b_0 := by with_reducible exact WX.spec lawX_15b_0 (by kernel_rfl)
@[reducible] noncomputable def lawX_15b_1e_1t_0 : WX (lawT1 lawS_15b_1e_1t_0) := .mk _ (by with_reducible exact fun w mg mb v C a cd L g K => (X1.ret (Ev.bool (b := false))))
noncomputable def lawF_15b_1e_1t_0 : PS → Option (Fl × PS) := by with_reducible refine (?g : {f : PS → Option (Fl × PS)} → {h : lawT1 lawS_15b_1e_1t_0 f} → lawX_15b_1e_1t_0 = .mk f h → PS → Option (Fl × PS)) rfl; exact fun {f} {h} _ => f
theorem lawW_15b_1e_1t_0 : lawT1 lawS_15b_1e_1t_0 lawF_15b_1e_1t_0 := by with_reducible exact WX.spec lawX_15b_1e_1t_0 (by kernel_rfl)
@[reducible] noncomputable def lawX_15b_1e_1 : WX (lawT1 lawS_15b_1e_1) := .mk _ (by with_reducible exact fun w mg mb v C a cd L g K => (X1.fin ([]) (X1.ite (Ts.cmp (Ev.var K (i := 21) (b := false) (by kernel_rfl) (hd := by kernel_rfl)) (Ev.cmp (Ev.meth PySem.F.plainAttrs_str PySem.F.slot_str_find PySem.F.type_str_find (Ev.var K (i := 20) (b := false) (by kernel_rfl) (hd := by kernel_rfl)) (Evs.cons (Ev.sub K (Ev.var K (i := 16) (b := false) (by kernel_rfl) (hd := by kernel_rfl)) (Ev.int) (hsl := by intros; kernel_rfl)) (Evs.nil) (by kernel_rfl)) (Cl.find) (hbase := by kernel_rfl) (hl := by kernel_rfl) (hline := by kernel_rfl)) (Ev.meth PySem.F.plainAttrs_str PySem.F.slot_str_find PySem.F.type_str_find (Ev.var K (i := 20) (b := false) (by kernel_rfl) (hd := by kernel_rfl)) (Evs.cons (Ev.sub K (Ev.var K (i := 16) (b := false) (by kernel_rfl) (hd := by kernel_rfl)) (Ev.un (Ev.int) (Op1.neg)) (hsl := by intros; kernel_rfl)) (Evs.nil) (by kernel_rfl)) (Cl.find) (hbase := by kernel_rfl) (hl := by kernel_rfl) (hline := by kernel_rfl)) (Op2.le) (hm := by kernel_rfl)) (Op2.isNot) (hm := by kernel_rfl)) (Xs.cons (lawW_15b_1e_1t_0 w mg mb v C a cd L g K) (Xs.nil)) (Xs.nil))))
noncomputable def lawF_15b_1e_1 : PS → Option (Fl × PS) := by with_reducible refine (?g : {f : PS → Option (Fl × PS)} → {h : lawT1 lawS_15b_1e_1 f} → lawX_15b_1e_1 = .mk f h → PS → Option (Fl × PS)) rfl; exact fun {f} {h} _ => f
theorem lawW_15b_1e_1 : lawT1 lawS_15b_1e_1 lawF_15b_1e_1 := by with_reducible exact WX.spec lawX_15b_1e_1 (by kernel_rfl)
@[reducible] noncomputable def lawX_15b_1t_0b_0 : WX (lawT1 lawS_15b_1t_0b_0) := .mk _ (by with_reducible exact fun w mg mb v C a cd L g K => (X1.fin ([]) (X1.expr (sp_psh K (VG.f K) (Ev.var K (i := 17) (b := false) (by kernel_rfl) (hd := by kernel_rfl)) (Evs.cons (Ev.bin (Ev.var K (i := 19) (b := false) (by kernel_rfl) (hd := by kernel_rfl)) (Ev.str ([32]) (hl := by kernel_rfl)) (Op2.add)) (Evs.cons (Ev.bin (Ev.bin (Ev.slice K (Ev.var K (i := 20) (b := false) (by kernel_rfl) (hd := by kernel_rfl)) (Prt.none) (Prt.some (Ev.var K (i := 8) (b := false) (by kernel_rfl) (hd := by kernel_rfl))) (Prt.none)) (Ev.sub K (Ev.var K (i := 16) (b := false) (by kernel_rfl) (hd := by kernel_rfl)) (sp_len K (VG.f K) (by kernel_rfl) (Evs.cons (Ev.var K (i := 19) (b := false) (by kernel_rfl) (hd := by kernel_rfl)) (Evs.nil) (by kernel_rfl)) (hlv := by kernel_rfl)) (hsl := by intros; kernel_rfl)) (Op2.add)) (Ev.slice K (Ev.var K (i := 20) (b := false) (by kernel_rfl) (hd := by kernel_rfl)) (Prt.some (Ev.var K (i := 8) (b := false) (by kernel_rfl) (hd := by kernel_rfl))) (Prt.none) (Prt.none)) (Op2.add)) (Evs.nil) (by kernel_rfl)) (by kernel_rfl)) (hbase := by kernel_rfl) (hl := by kernel_rfl) (hline := by kernel_rfl) (hlv := by kernel_rfl)) (hi := by kernel_rfl) (hs := by kernel_rfl))))
noncomputable def lawF_15b_1t_0b_0 : PS → Option (Fl × PS) := by with_reducible refine (?g : {f : PS → Option (Fl × PS)} → {h : lawT1 lawS_15b_1t_0b_0 f} → lawX_15b_1t_0b_0 = .mk f h → PS → Option (Fl × PS)) rfl; exact fun {f} {h} _ => f
theorem lawW_15b_1t_0b_0 : lawT1 lawS_15b_1t_0b_0 lawF_15b_1t_0b_0 := by with_reducible exact WX.spec lawX_15b_1t_0b_0 (by kernel_rfl)
@[reducible] noncomputable def lawX_15b_1t_0 : WX (lawT1 lawS_15b_1t_0) := .mk _ (by with_reducible exact fun w mg mb v C a cd L g K => (X1.fin ([8]) (X1.forC K ([8]) (200) (Ev.callT (g_range K (VG.f K) (by kernel_rfl)) (Evs.cons (Ev.bin (sp_len K (VG.f K) (by kernel_rfl) (Evs.cons (Ev.var K (i := 20) (b := false) (by kernel_rfl) (hd := by kernel_rfl)) (Evs.nil) (by kernel_rfl)) (hlv := by kernel_rfl)) (Ev.int) (Op2.add)) (Evs.nil) (by kernel_rfl)) (Cl.range)) (Tg.name K (i := 8) (b := false) (by kernel_rfl)) (Xs.cons (lawW_15b_1t_0b_0 w mg mb v C a cd L g K) (Xs.nil)) (hg := by intros; kernel_rfl) (hs := by intros; kernel_rfl))))
noncomputable def lawF_15b_1t_0 : PS → Option (Fl × PS) := by with_reducible refine (?g : {f : PS → Option (Fl × PS)} → {h : lawT1 lawS_15b_1t_0 f} → lawX_15b_1t_0 = .mk f h → PS → Option (Fl × PS)) rfl; exact fun {f} {h} _ => f
theorem lawW_15b_1t_0 : lawT1 lawS_15b_1t_0 lawF_15b_1t_0 := by with_reducible exact WX.spec lawX_15b_1t_0 (by kernel_rfl)
@[reducible] noncomputable def lawX_15b_1e_2t_0 : WX (lawT1 lawS_15b_1e_2t_0) := .mk _ (by with_reducible exact fun w mg mb v C a cd L g K => (X1.tupS K (names := [Str.ofString "page", Str.ofString "falls"]) (Tnb.cons (b := false) (i := 23) (by kernel_rfl) (Tnb.cons (b := false) (i := 22) (by kernel_rfl) (Tnb.nil))) (Ev.tup (Evs.cons (sp_acc K (VG.f K) (by kernel_rfl) (Evs.cons (Ev.var K (i := 14) (b := false) (by kernel_rfl) (hd := by kernel_rfl)) (Evs.nil) (by kernel_rfl)) (hlv := by kernel_rfl)) (Evs.cons (Ev.int) (Evs.nil) (by kernel_rfl)) (by kernel_rfl))) (hs := by kernel_rfl) (hw := by kernel_rfl)))
noncomputable def lawF_15b_1e_2t_0 : PS → Option (Fl × PS) := by with_reducible refine (?g : {f : PS → Option (Fl × PS)} → {h : lawT1 lawS_15b_1e_2t_0 f} → lawX_15b_1e_2t_0 = .mk f h → PS → Option (Fl × PS)) rfl; exact fun {f} {h} _ => f
theorem lawW_15b_1e_2t_0 : lawT1 lawS_15b_1e_2t_0 lawF_15b_1e_2t_0 := by with_reducible exact WX.spec lawX_15b_1e_2t_0 (by kernel_rfl)
@[reducible] noncomputable def lawX_15b_1e_2t_2 : WX (lawT1 lawS_15b_1e_2t_2) := .mk _ (by with_reducible exact fun w mg mb v C a cd L g K => (X1.fin ([]) (X1.aug K (i := 18) (b := false) (by kernel_rfl) (Ev.bin (Ev.int) (Ev.bin (Ev.bin (Ev.bin (Ev.bin (Ev.int) (Ev.var K (i := 23) (b := false) (by kernel_rfl) (hd := by kernel_rfl)) (Op2.mulL)) (sp_len K (VG.f K) (by kernel_rfl) (Evs.cons (Ev.var K (i := 22) (b := false) (by kernel_rfl) (hd := by kernel_rfl)) (Evs.nil) (by kernel_rfl)) (hlv := by kernel_rfl)) (Op2.add)) (Ev.var K (i := 14) (b := false) (by kernel_rfl) (hd := by kernel_rfl)) (Op2.sub)) (Ev.int) (Op2.sub)) (Op2.pow)) (Op2.iadd))))
noncomputable def lawF_15b_1e_2t_2 : PS → Option (Fl × PS) := by with_reducible refine (?g : {f : PS → Option (Fl × PS)} → {h : lawT1 lawS_15b_1e_2t_2 f} → lawX_15b_1e_2t_2 = .mk f h → PS → Option (Fl × PS)) rfl; exact fun {f} {h} _ => f
theorem lawW_15b_1e_2t_2 : lawT1 lawS_15b_1e_2t_2 lawF_15b_1e_2t_2 := by with_reducible exact WX.spec lawX_15b_1e_2t_2 (by kernel_rfl)
@[reducible] noncomputable def lawX_15b_1e_2t_1b_0 : WX (lawT1 lawS_15b_1e_2t_1b_0) := .mk _ (by with_reducible exact fun w mg mb v C a cd L g K => (X1.assign K (i := 24) (b := false) (by kernel_rfl) (Ev.ife (Ts.cmp (Ev.var K (i := 8) (b := false) (by kernel_rfl) (hd := by kernel_rfl)) (Ev.int) (Op2.gt) (hm := by kernel_rfl)) (Ev.callU K (VG.f K) (inStr) (by kernel_rfl) (by kernel_rfl) (by kernel_rfl) (Evs.cons (Ev.slice K (Ev.var K (i := 20) (b := false) (by kernel_rfl) (hd := by kernel_rfl)) (Prt.some (Ev.bin (Ev.var K (i := 8) (b := false) (by kernel_rfl) (hd := by kernel_rfl)) (Ev.int) (Op2.sub))) (Prt.none) (Prt.none)) (Evs.cons (Ev.slice K (Ev.var K (i := 20) (b := false) (by kernel_rfl) (hd := by kernel_rfl)) (Prt.some (Ev.var K (i := 8) (b := false) (by kernel_rfl) (hd := by kernel_rfl))) (Prt.none) (Prt.none)) (Evs.nil) (by kernel_rfl)) (by kernel_rfl)) (clStr K (Nat.succ_pos (7)))) (Ev.un (Ev.int) (Op1.neg))) (hs := by kernel_rfl)))
noncomputable def lawF_15b_1e_2t_1b_0 : PS → Option (Fl × PS) := by with_reducible refine (?g : {f : PS → Option (Fl × PS)} → {h : lawT1 lawS_15b_1e_2t_1b_0 f} → lawX_15b_1e_2t_1b_0 = .mk f h → PS → Option (Fl × PS)) rfl; exact fun {f} {h} _ => f
theorem lawW_15b_1e_2t_1b_0 : lawT1 lawS_15b_1e_2t_1b_0 lawF_15b_1e_2t_1b_0 := by with_reducible exact WX.spec lawX_15b_1e_2t_1b_0 (by kernel_rfl)
@[reducible] noncomputable def lawX_15b_1e_2t_1b_2 : WX (lawT1 lawS_15b_1e_2t_1b_2) := .mk _ (by with_reducible exact fun w mg mb v C a cd L g K => (X1.fin ([]) (X1.expr (sp_psh K (VG.f K) (Ev.var K (i := 22) (b := false) (by kernel_rfl) (hd := by kernel_rfl)) (Evs.cons (Ev.ife (Ts.cmp (Ev.var K (i := 24) (b := false) (by kernel_rfl) (hd := by kernel_rfl)) (Ev.int) (Op2.eqA K) (hm := by kernel_rfl)) (Ev.bin (Ev.str ([32]) (hl := by kernel_rfl)) (Ev.var K (i := 8) (b := false) (by kernel_rfl) (hd := by kernel_rfl)) (Op2.mulL)) (Ev.str ([]) (hl := by kernel_rfl))) (Evs.cons (Ev.sub K (Ev.var K (i := 20) (b := false) (by kernel_rfl) (hd := by kernel_rfl)) (Ev.var K (i := 8) (b := false) (by kernel_rfl) (hd := by kernel_rfl)) (hsl := by intros; kernel_rfl)) (Evs.nil) (by kernel_rfl)) (by kernel_rfl)) (hbase := by kernel_rfl) (hl := by kernel_rfl) (hline := by kernel_rfl) (hlv := by kernel_rfl)) (hi := by kernel_rfl) (hs := by kernel_rfl))))
noncomputable def lawF_15b_1e_2t_1b_2 : PS → Option (Fl × PS) := by with_reducible refine (?g : {f : PS → Option (Fl × PS)} → {h : lawT1 lawS_15b_1e_2t_1b_2 f} → lawX_15b_1e_2t_1b_2 = .mk f h → PS → Option (Fl × PS)) rfl; exact fun {f} {h} _ => f
theorem lawW_15b_1e_2t_1b_2 : lawT1 lawS_15b_1e_2t_1b_2 lawF_15b_1e_2t_1b_2 := by with_reducible exact WX.spec lawX_15b_1e_2t_1b_2 (by kernel_rfl)
@[reducible] noncomputable def lawX_15b_1e_2t_1b_1t_0 : WX (lawT1 lawS_15b_1e_2t_1b_1t_0) := .mk _ (by with_reducible exact fun w mg mb v C a cd L g K => (X1.ret (Ev.bool (b := false))))
noncomputable def lawF_15b_1e_2t_1b_1t_0 : PS → Option (Fl × PS) := by with_reducible refine (?g : {f : PS → Option (Fl × PS)} → {h : lawT1 lawS_15b_1e_2t_1b_1t_0 f} → lawX_15b_1e_2t_1b_1t_0 = .mk f h → PS → Option (Fl × PS)) rfl; exact fun {f} {h} _ => f
theorem lawW_15b_1e_2t_1b_1t_0 : lawT1 lawS_15b_1e_2t_1b_1t_0 lawF_15b_1e_2t_1b_1t_0 := by with_reducible exact WX.spec lawX_15b_1e_2t_1b_1t_0 (by kernel_rfl)
@[reducible] noncomputable def lawX_15b_1e_2t_1b_1 : WX (lawT1 lawS_15b_1e_2t_1b_1) := .mk _ (by with_reducible exact fun w mg mb v C a cd L g K => (X1.fin ([]) (X1.ite (Ts.or (Tss.cons (Ts.cmp (Ev.var K (i := 24) (b := false) (by kernel_rfl) (hd := by kernel_rfl)) (Ev.tup (Evs.cons (Ev.un (Ev.int) (Op1.neg)) (Evs.cons (Ev.int) (Evs.nil) (by kernel_rfl)) (by kernel_rfl))) (Op2.notIn) (hm := by kernel_rfl)) (Tss.cons (Ts.val (Ev.callB (g_isi K (VG.f K) (by kernel_rfl)) (Evs.cons (Ev.var K (i := 24) (b := false) (by kernel_rfl) (hd := by kernel_rfl)) (Evs.cons (g_bool K (VG.f K) (by kernel_rfl)) (Evs.nil) (by kernel_rfl)) (by kernel_rfl)) (Cl.isBool)) (hi := by kernel_rfl)) (Tss.nil)))) (Xs.cons (lawW_15b_1e_2t_1b_1t_0 w mg mb v C a cd L g K) (Xs.nil)) (Xs.nil))))
noncomputable def lawF_15b_1e_2t_1b_1 : PS → Option (Fl × PS) := by with_reducible refine (?g : {f : PS → Option (Fl × PS)} → {h : lawT1 lawS_15b_1e_2t_1b_1 f} → lawX_15b_1e_2t_1b_1 = .mk f h → PS → Option (Fl × PS)) rfl; exact fun {f} {h} _ => f
theorem lawW_15b_1e_2t_1b_1 : lawT1 lawS_15b_1e_2t_1b_1 lawF_15b_1e_2t_1b_1 := by with_reducible exact WX.spec lawX_15b_1e_2t_1b_1 (by kernel_rfl)
@[reducible] noncomputable def lawX_15b_1e_2t_1b_3 : WX (lawT1 lawS_15b_1e_2t_1b_3) := .mk _ (by with_reducible exact fun w mg mb v C a cd L g K => (X1.fin ([]) (X1.aug K (i := 23) (b := false) (by kernel_rfl) (Ev.bin (Ev.bin (Ev.var K (i := 24) (b := false) (by kernel_rfl) (hd := by kernel_rfl)) (Ev.int) (Op2.add)) (Ev.int) (Op2.fdivB)) (Op2.iadd))))
noncomputable def lawF_15b_1e_2t_1b_3 : PS → Option (Fl × PS) := by with_reducible refine (?g : {f : PS → Option (Fl × PS)} → {h : lawT1 lawS_15b_1e_2t_1b_3 f} → lawX_15b_1e_2t_1b_3 = .mk f h → PS → Option (Fl × PS)) rfl; exact fun {f} {h} _ => f
theorem lawW_15b_1e_2t_1b_3 : lawT1 lawS_15b_1e_2t_1b_3 lawF_15b_1e_2t_1b_3 := by with_reducible exact WX.spec lawX_15b_1e_2t_1b_3 (by kernel_rfl)
@[reducible] noncomputable def lawX_15b_1e_2t_1 : WX (lawT1 lawS_15b_1e_2t_1) := .mk _ (by with_reducible exact fun w mg mb v C a cd L g K => (X1.fin ([8, 24]) (X1.forC K ([8, 24]) (200) (Ev.callT (g_range K (VG.f K) (by kernel_rfl)) (Evs.cons (Ev.int) (Evs.nil) (by kernel_rfl)) (Cl.range)) (Tg.name K (i := 8) (b := false) (by kernel_rfl)) (Xs.cons (lawW_15b_1e_2t_1b_0 w mg mb v C a cd L g K) (Xs.cons (lawW_15b_1e_2t_1b_1 w mg mb v C a cd L g K) (Xs.cons (lawW_15b_1e_2t_1b_2 w mg mb v C a cd L g K) (Xs.cons (lawW_15b_1e_2t_1b_3 w mg mb v C a cd L g K) (Xs.nil))))) (hg := by intros; kernel_rfl) (hs := by intros; kernel_rfl))))
noncomputable def lawF_15b_1e_2t_1 : PS → Option (Fl × PS) := by with_reducible refine (?g : {f : PS → Option (Fl × PS)} → {h : lawT1 lawS_15b_1e_2t_1 f} → lawX_15b_1e_2t_1 = .mk f h → PS → Option (Fl × PS)) rfl; exact fun {f} {h} _ => f
theorem lawW_15b_1e_2t_1 : lawT1 lawS_15b_1e_2t_1 lawF_15b_1e_2t_1 := by with_reducible exact WX.spec lawX_15b_1e_2t_1 (by kernel_rfl)
@[reducible] noncomputable def lawX_15b_1e_2 : WX (lawT1 lawS_15b_1e_2) := .mk _ (by with_reducible exact fun w mg mb v C a cd L g K => (X1.fin ([]) (X1.ite (Ts.val (Ev.var K (i := 21) (b := false) (by kernel_rfl) (hd := by kernel_rfl)) (hi := by kernel_rfl)) (Xs.cons (lawW_15b_1e_2t_0 w mg mb v C a cd L g K) (Xs.cons (lawW_15b_1e_2t_1 w mg mb v C a cd L g K) (Xs.cons (lawW_15b_1e_2t_2 w mg mb v C a cd L g K) (Xs.nil)))) (Xs.nil))))
noncomputable def lawF_15b_1e_2 : PS → Option (Fl × PS) := by with_reducible refine (?g : {f : PS → Option (Fl × PS)} → {h : lawT1 lawS_15b_1e_2 f} → lawX_15b_1e_2 = .mk f h → PS → Option (Fl × PS)) rfl; exact fun {f} {h} _ => f
theorem lawW_15b_1e_2 : lawT1 lawS_15b_1e_2 lawF_15b_1e_2 := by with_reducible exact WX.spec lawX_15b_1e_2 (by kernel_rfl)
@[reducible] noncomputable def lawX_15b_1e_0 : WX (lawT1 lawS_15b_1e_0) := .mk _ (by with_reducible exact fun w mg mb v C a cd L g K => (X1.assign K (i := 21) (b := false) (by kernel_rfl) (Ev.callU K (VG.f K) (inEll) (by kernel_rfl) (by kernel_rfl) (by kernel_rfl) (Evs.cons (Ev.bin (Ev.bin (Ev.str ([46, 46, 46]) (hl := by kernel_rfl)) (Ev.meth PySem.F.plainAttrs_str PySem.F.slot_str_join PySem.F.type_str_join (Ev.str ([46, 46, 46]) (hl := by kernel_rfl)) (Evs.cons (Ev.var K (i := 16) (b := false) (by kernel_rfl) (hd := by kernel_rfl)) (Evs.nil) (by kernel_rfl)) (Cl.joinB K) (hbase := by kernel_rfl) (hl := by kernel_rfl) (hline := by kernel_rfl)) (Op2.add)) (Ev.str ([46, 46, 46]) (hl := by kernel_rfl)) (Op2.add)) (Evs.cons (Ev.var K (i := 20) (b := false) (by kernel_rfl) (hd := by kernel_rfl)) (Evs.nil) (by kernel_rfl)) (by kernel_rfl)) (clEll K (Nat.succ_pos (7)))) (hs := by kernel_rfl)))
noncomputable def lawF_15b_1e_0 : PS → Option (Fl × PS) := by with_reducible refine (?g : {f : PS → Option (Fl × PS)} → {h : lawT1 lawS_15b_1e_0 f} → lawX_15b_1e_0 = .mk f h → PS → Option (Fl × PS)) rfl; exact fun {f} {h} _ => f
theorem lawW_15b_1e_0 : lawT1 lawS_15b_1e_0 lawF_15b_1e_0 := by with_reducible exact WX.spec lawX_15b_1e_0 (by kernel_rfl)
@[reducible] noncomputable def lawX_15b_1 : WX (lawT1 lawS_15b_1) := .mk _ (by with_reducible exact fun w mg mb v C a cd L g K => (X1.fin ([]) (X1.ite (Ts.cmp (sp_len K (VG.f K) (by kernel_rfl) (Evs.cons (Ev.var K (i := 19) (b := false) (by kernel_rfl) (hd := by kernel_rfl)) (Evs.nil) (by kernel_rfl)) (hlv := by kernel_rfl)) (Ev.var K (i := 13) (b := false) (by kernel_rfl) (hd := by kernel_rfl)) (Op2.lt) (hm := by kernel_rfl)) (Xs.cons (lawW_15b_1t_0 w mg mb v C a cd L g K) (Xs.nil)) (Xs.cons (lawW_15b_1e_0 w mg mb v C a cd L g K) (Xs.cons (lawW_15b_1e_1 w mg mb v C a cd L g K) (Xs.cons (lawW_15b_1e_2 w mg mb v C a cd L g K) (Xs.nil)))))))
noncomputable def lawF_15b_1 : PS → Option (Fl × PS) := by with_reducible refine (?g : {f : PS → Option (Fl × PS)} → {h : lawT1 lawS_15b_1 f} → lawX_15b_1 = .mk f h → PS → Option (Fl × PS)) rfl; exact fun {f} {h} _ => f
theorem lawW_15b_1 : lawT1 lawS_15b_1 lawF_15b_1 := by with_reducible exact WX.spec lawX_15b_1 (by kernel_rfl)
@[reducible] noncomputable def lawX_15 : WX (lawT1 lawS_15) := .mk _ (by with_reducible exact fun w mg mb v C a cd L g K => (X1.fin ([]) (X1.whileC ([8, 19, 20, 21, 22, 23, 24]) (200) (Ts.cmp (sp_pc K (VG.f K) (Ev.var K (i := 17) (b := false) (by kernel_rfl) (hd := by kernel_rfl)) (Evs.nil) (hbase := by kernel_rfl) (hl := by kernel_rfl) (hline := by kernel_rfl) (hlv := by kernel_rfl)) (Ev.int) (Op2.gt) (hm := by kernel_rfl)) (Xs.cons (lawW_15b_0 w mg mb v C a cd L g K) (Xs.cons (lawW_15b_1 w mg mb v C a cd L g K) (Xs.nil))))))
noncomputable def lawF_15 : PS → Option (Fl × PS) := by with_reducible refine (?g : {f : PS → Option (Fl × PS)} → {h : lawT1 lawS_15 f} → lawX_15 = .mk f h → PS → Option (Fl × PS)) rfl; exact fun {f} {h} _ => f
theorem lawW_15 : lawT1 lawS_15 lawF_15 := by with_reducible exact WX.spec lawX_15 (by kernel_rfl)
@[reducible] noncomputable def lawX_9 : WX (lawT1 lawS_9) := .mk _ (by with_reducible exact fun w mg mb v C a cd L g K => (X1.assign K (i := 12) (b := false) (by kernel_rfl) (Ev.lst (Evs.cons (Ev.callU K (VG.f K) (inStr) (by kernel_rfl) (by kernel_rfl) (by kernel_rfl) (Evs.cons (Ev.var K (i := 9) (b := false) (by kernel_rfl) (hd := by kernel_rfl)) (Evs.cons (Ev.var K (i := 9) (b := false) (by kernel_rfl) (hd := by kernel_rfl)) (Evs.nil) (by kernel_rfl)) (by kernel_rfl)) (clStr K (Nat.succ_pos (7)))) (Evs.cons (Ev.callU K (VG.f K) (inStr) (by kernel_rfl) (by kernel_rfl) (by kernel_rfl) (Evs.cons (Ev.var K (i := 10) (b := false) (by kernel_rfl) (hd := by kernel_rfl)) (Evs.cons (Ev.var K (i := 9) (b := false) (by kernel_rfl) (hd := by kernel_rfl)) (Evs.nil) (by kernel_rfl)) (by kernel_rfl)) (clStr K (Nat.succ_pos (7)))) (Evs.cons (Ev.callU K (VG.f K) (inStr) (by kernel_rfl) (by kernel_rfl) (by kernel_rfl) (Evs.cons (Ev.var K (i := 9) (b := false) (by kernel_rfl) (hd := by kernel_rfl)) (Evs.cons (Ev.var K (i := 10) (b := false) (by kernel_rfl) (hd := by kernel_rfl)) (Evs.nil) (by kernel_rfl)) (by kernel_rfl)) (clStr K (Nat.succ_pos (7)))) (Evs.cons (Ev.callU K (VG.f K) (inStr) (by kernel_rfl) (by kernel_rfl) (by kernel_rfl) (Evs.cons (Ev.var K (i := 9) (b := false) (by kernel_rfl) (hd := by kernel_rfl)) (Evs.cons (Ev.var K (i := 11) (b := false) (by kernel_rfl) (hd := by kernel_rfl)) (Evs.nil) (by kernel_rfl)) (by kernel_rfl)) (clStr K (Nat.succ_pos (7)))) (Evs.cons (Ev.callU K (VG.f K) (inStr) (by kernel_rfl) (by kernel_rfl) (by kernel_rfl) (Evs.cons (Ev.var K (i := 11) (b := false) (by kernel_rfl) (hd := by kernel_rfl)) (Evs.cons (Ev.var K (i := 9) (b := false) (by kernel_rfl) (hd := by kernel_rfl)) (Evs.nil) (by kernel_rfl)) (by kernel_rfl)) (clStr K (Nat.succ_pos (7)))) (Evs.nil) (by kernel_rfl)) (by kernel_rfl)) (by kernel_rfl)) (by kernel_rfl)) (by kernel_rfl))) (hs := by kernel_rfl)))
noncomputable def lawF_9 : PS → Option (Fl × PS) := by with_reducible refine (?g : {f : PS → Option (Fl × PS)} → {h : lawT1 lawS_9 f} → lawX_9 = .mk f h → PS → Option (Fl × PS)) rfl; exact fun {f} {h} _ => f
theorem lawW_9 : lawT1 lawS_9 lawF_9 := by with_reducible exact WX.spec lawX_9 (by kernel_rfl)
@[reducible] noncomputable def lawX_12 : WX (lawT1 lawS_12) := .mk _ (by with_reducible exact fun w mg mb v C a cd L g K => (X1.tupS K (names := [Str.ofString "longer", Str.ofString "shorter"]) (Tnb.cons (b := false) (i := 16) (by kernel_rfl) (Tnb.cons (b := false) (i := 15) (by kernel_rfl) (Tnb.nil))) (Ev.tup (Evs.cons (Ev.slice K (Ev.var K (i := 9) (b := false) (by kernel_rfl) (hd := by kernel_rfl)) (Prt.none) (Prt.some (Ev.bin (Ev.int) (Ev.var K (i := 13) (b := false) (by kernel_rfl) (hd := by kernel_rfl)) (Op2.sub))) (Prt.none)) (Evs.cons (Ev.slice K (Ev.var K (i := 9) (b := false) (by kernel_rfl) (hd := by kernel_rfl)) (Prt.some (Ev.bin (Ev.int) (Ev.var K (i := 13) (b := false) (by kernel_rfl) (hd := by kernel_rfl)) (Op2.sub))) (Prt.none) (Prt.none)) (Evs.nil) (by kernel_rfl)) (by kernel_rfl))) (hs := by kernel_rfl) (hw := by kernel_rfl)))
noncomputable def lawF_12 : PS → Option (Fl × PS) := by with_reducible refine (?g : {f : PS → Option (Fl × PS)} → {h : lawT1 lawS_12 f} → lawX_12 = .mk f h → PS → Option (Fl × PS)) rfl; exact fun {f} {h} _ => f
theorem lawW_12 : lawT1 lawS_12 lawF_12 := by with_reducible exact WX.spec lawX_12 (by kernel_rfl)
@[reducible] noncomputable def lawX_19b_1 : WX (lawT1 lawS_19b_1) := .mk _ (by with_reducible exact fun w mg mb v C a cd L g K => (X1.fin ([]) (X1.aug K (i := 25) (b := false) (by kernel_rfl) (Ev.bin (Ev.bin (Ev.var K (i := 29) (b := false) (by kernel_rfl) (hd := by kernel_rfl)) (Ev.callU K (VG.f K) (inGau) (by kernel_rfl) (by kernel_rfl) (by kernel_rfl) (Evs.cons (Ev.bin (Ev.bin (Ev.bin (Ev.int) (Ev.var K (i := 13) (b := false) (by kernel_rfl) (hd := by kernel_rfl)) (Op2.sub)) (Ev.var K (i := 26) (b := false) (by kernel_rfl) (hd := by kernel_rfl)) (Op2.sub)) (Ev.var K (i := 2) (b := false) (by kernel_rfl) (hd := by kernel_rfl)) (Op2.add)) (Evs.cons (Ev.bin (Ev.var K (i := 28) (b := false) (by kernel_rfl) (hd := by kernel_rfl)) (Ev.var K (i := 26) (b := false) (by kernel_rfl) (hd := by kernel_rfl)) (Op2.sub)) (Evs.nil) (by kernel_rfl)) (by kernel_rfl)) (clGau K (Nat.succ_pos (7)))) (Op2.mulL)) (Ev.callU K (VG.f K) (inGau) (by kernel_rfl) (by kernel_rfl) (by kernel_rfl) (Evs.cons (Ev.bin (Ev.bin (Ev.var K (i := 13) (b := false) (by kernel_rfl) (hd := by kernel_rfl)) (Ev.var K (i := 2) (b := false) (by kernel_rfl) (hd := by kernel_rfl)) (Op2.sub)) (Ev.var K (i := 26) (b := false) (by kernel_rfl) (hd := by kernel_rfl)) (Op2.add)) (Evs.cons (Ev.bin (Ev.var K (i := 28) (b := false) (by kernel_rfl) (hd := by kernel_rfl)) (Ev.var K (i := 2) (b := false) (by kernel_rfl) (hd := by kernel_rfl)) (Op2.sub)) (Evs.nil) (by kernel_rfl)) (by kernel_rfl)) (clGau K (Nat.succ_pos (7)))) (Op2.mulL)) (Op2.iadd))))
noncomputable def lawF_19b_1 : PS → Option (Fl × PS) := by with_reducible refine (?g : {f : PS → Option (Fl × PS)} → {h : lawT1 lawS_19b_1 f} → lawX_19b_1 = .mk f h → PS → Option (Fl × PS)) rfl; exact fun {f} {h} _ => f
theorem lawW_19b_1 : lawT1 lawS_19b_1 lawF_19b_1 := by with_reducible exact WX.spec lawX_19b_1 (by kernel_rfl)
@[reducible] noncomputable def lawX_19b_0 : WX (lawT1 lawS_19b_0) := .mk _ (by with_reducible exact fun w mg mb v C a cd L g K => (X1.assign K (i := 29) (b := false) (by kernel_rfl) (Ev.bin (Ev.int) (Ev.bin (Ev.bin (Ev.bin (Ev.int) (Ev.var K (i := 28) (b := false) (by kernel_rfl) (hd := by kernel_rfl)) (Op2.mulL)) (Ev.var K (i := 27) (b := false) (by kernel_rfl) (hd := by kernel_rfl)) (Op2.add)) (Ev.bin (Ev.bin (Ev.var K (i := 28) (b := false) (by kernel_rfl) (hd := by kernel_rfl)) (Ev.var K (i := 26) (b := false) (by kernel_rfl) (hd := by kernel_rfl)) (Op2.sub)) (Ev.bin (Ev.var K (i := 28) (b := false) (by kernel_rfl) (hd := by kernel_rfl)) (Ev.var K (i := 2) (b := false) (by kernel_rfl) (hd := by kernel_rfl)) (Op2.sub)) (Op2.mulL)) (Op2.add)) (Op2.pow)) (hs := by kernel_rfl)))
noncomputable def lawF_19b_0 : PS → Option (Fl × PS) := by with_reducible refine (?g : {f : PS → Option (Fl × PS)} → {h : lawT1 lawS_19b_0 f} → lawX_19b_0 = .mk f h → PS → Option (Fl × PS)) rfl; exact fun {f} {h} _ => f
theorem lawW_19b_0 : lawT1 lawS_19b_0 lawF_19b_0 := by with_reducible exact WX.spec lawX_19b_0 (by kernel_rfl)
@[reducible] noncomputable def lawX_19 : WX (lawT1 lawS_19) := .mk _ (by with_reducible exact fun w mg mb v C a cd L g K => (X1.fin ([28, 29]) (X1.forC K ([28, 29]) (200) (Ev.callT (g_range K (VG.f K) (by kernel_rfl)) (Evs.cons (Ev.callB (g_max K (VG.f K) (by kernel_rfl)) (Evs.cons (Ev.var K (i := 26) (b := false) (by kernel_rfl) (hd := by kernel_rfl)) (Evs.cons (Ev.var K (i := 2) (b := false) (by kernel_rfl) (hd := by kernel_rfl)) (Evs.nil) (by kernel_rfl)) (by kernel_rfl)) (Cl.max K)) (Evs.cons (Ev.int) (Evs.nil) (by kernel_rfl)) (by kernel_rfl)) (Cl.range)) (Tg.name K (i := 28) (b := false) (by kernel_rfl)) (Xs.cons (lawW_19b_0 w mg mb v C a cd L g K) (Xs.cons (lawW_19b_1 w mg mb v C a cd L g K) (Xs.nil))) (hg := by intros; kernel_rfl) (hs := by intros; kernel_rfl))))
noncomputable def lawF_19 : PS → Option (Fl × PS) := by with_reducible refine (?g : {f : PS → Option (Fl × PS)} → {h : lawT1 lawS_19 f} → lawX_19 = .mk f h → PS → Option (Fl × PS)) rfl; exact fun {f} {h} _ => f
theorem lawW_19 : lawT1 lawS_19 lawF_19 := by with_reducible exact WX.spec lawX_19 (by kernel_rfl)
@[reducible] noncomputable def lawX_4 : WX (lawT1 lawS_4) := .mk _ (by with_reducible exact fun w mg mb v C a cd L g K => (X1.assign K (i := 7) (b := false) (by kernel_rfl) (Ev.callU K (VG.f K) (inTyp) (by kernel_rfl) (by kernel_rfl) (by kernel_rfl) (Evs.cons (Ev.var K (i := 5) (b := false) (by kernel_rfl) (hd := by kernel_rfl)) (Evs.cons (Ev.sub K (Ev.var K (i := 1) (b := false) (by kernel_rfl) (hd := by kernel_rfl)) (Ev.int) (hsl := by intros; kernel_rfl)) (Evs.nil) (by kernel_rfl)) (by kernel_rfl)) (clTyp K (Nat.succ_pos (7)))) (hs := by kernel_rfl)))
noncomputable def lawF_4 : PS → Option (Fl × PS) := by with_reducible refine (?g : {f : PS → Option (Fl × PS)} → {h : lawT1 lawS_4 f} → lawX_4 = .mk f h → PS → Option (Fl × PS)) rfl; exact fun {f} {h} _ => f
theorem lawW_4 : lawT1 lawS_4 lawF_4 := by with_reducible exact WX.spec lawX_4 (by kernel_rfl)
@[reducible] noncomputable def lawX_16t_0 : WX (lawT1 lawS_16t_0) := .mk _ (by with_reducible exact fun w mg mb v C a cd L g K => (X1.ret (Ev.bool (b := false))))
noncomputable def lawF_16t_0 : PS → Option (Fl × PS) := by with_reducible refine (?g : {f : PS → Option (Fl × PS)} → {h : lawT1 lawS_16t_0 f} → lawX_16t_0 = .mk f h → PS → Option (Fl × PS)) rfl; exact fun {f} {h} _ => f
theorem lawW_16t_0 : lawT1 lawS_16t_0 lawF_16t_0 := by with_reducible exact WX.spec lawX_16t_0 (by kernel_rfl)
@[reducible] noncomputable def lawX_16 : WX (lawT1 lawS_16) := .mk _ (by with_reducible exact fun w mg mb v C a cd L g K => (X1.fin ([]) (X1.ite (Ts.or (Tss.cons (Ts.cmp (sp_pop K (VG.f K) (Ev.var K (i := 17) (b := false) (by kernel_rfl) (hd := by kernel_rfl)) (Evs.nil) (hbase := by kernel_rfl) (hl := by kernel_rfl) (hline := by kernel_rfl) (hlv := by kernel_rfl)) (Ev.tup (Evs.cons (Ev.str ([]) (hl := by kernel_rfl)) (Evs.cons (Ev.str ([]) (hl := by kernel_rfl)) (Evs.nil) (by kernel_rfl)) (by kernel_rfl))) (Op2.neA K) (hm := by kernel_rfl)) (Tss.cons (Ts.cmp (sp_len K (VG.f K) (by kernel_rfl) (Evs.cons (Ev.var K (i := 17) (b := false) (by kernel_rfl) (hd := by kernel_rfl)) (Evs.nil) (by kernel_rfl)) (hlv := by kernel_rfl)) (Ev.var K (i := 14) (b := false) (by kernel_rfl) (hd := by kernel_rfl)) (Op2.neA K) (hm := by kernel_rfl)) (Tss.nil)))) (Xs.cons (lawW_16t_0 w mg mb v C a cd L g K) (Xs.nil)) (Xs.nil))))
noncomputable def lawF_16 : PS → Option (Fl × PS) := by with_reducible refine (?g : {f : PS → Option (Fl × PS)} → {h : lawT1 lawS_16 f} → lawX_16 = .mk f h → PS → Option (Fl × PS)) rfl; exact fun {f} {h} _ => f
theorem lawW_16 : lawT1 lawS_16 lawF_16 := by with_reducible exact WX.spec lawX_16 (by kernel_rfl)
@[reducible] noncomputable def lawX_3b_1 : WX (lawT1 lawS_3b_1) := .mk _ (by with_reducible exact fun w mg mb v C a cd L g K => (X1.assign K (i := 4) (b := false) (by kernel_rfl) (Ev.replS (Ev.var K (i := 4) (b := false) (by kernel_rfl) (hd := by kernel_rfl)) (Ev.var K (i := 5) (b := false) (by kernel_rfl) (hd := by kernel_rfl)) (Ev.un (Ev.int) (Op1.neg)) (Evs.cons (Ev.sub K (Ev.var K (i := 5) (b := false) (by kernel_rfl) (hd := by kernel_rfl)) (Ev.un (Ev.int) (Op1.neg)) (hsl := by intros; kernel_rfl)) (Evs.cons (Ev.str ([]) (hl := by kernel_rfl)) (Evs.nil) (by kernel_rfl)) (by kernel_rfl)) (hsl := by intros; kernel_rfl) (hbase := by kernel_rfl) (hline := by kernel_rfl)) (hs := by kernel_rfl)))
noncomputable def lawF_3b_1 : PS → Option (Fl × PS) := by with_reducible refine (?g : {f : PS → Option (Fl × PS)} → {h : lawT1 lawS_3b_1 f} → lawX_3b_1 = .mk f h → PS → Option (Fl × PS)) rfl; exact fun {f} {h} _ => f
theorem lawW_3b_1 : lawT1 lawS_3b_1 lawF_3b_1 := by with_reducible exact WX.spec lawX_3b_1 (by kernel_rfl)
@[reducible] noncomputable def lawX_3b_0 : WX (lawT1 lawS_3b_0) := .mk _ (by with_reducible exact fun w mg mb v C a cd L g K => (X1.fin ([]) (X1.aug K (i := 5) (b := false) (by kernel_rfl) (Ev.sub K (Ev.var K (i := 4) (b := false) (by kernel_rfl) (hd := by kernel_rfl)) (Ev.bin (Ev.var K (i := 6) (b := false) (by kernel_rfl) (hd := by kernel_rfl)) (sp_len K (VG.f K) (by kernel_rfl) (Evs.cons (Ev.var K (i := 4) (b := false) (by kernel_rfl) (hd := by kernel_rfl)) (Evs.nil) (by kernel_rfl)) (hlv := by kernel_rfl)) (Op2.mod)) (hsl := by intros; kernel_rfl)) (Op2.iadd))))
noncomputable def lawF_3b_0 : PS → Option (Fl × PS) := by with_reducible refine (?g : {f : PS → Option (Fl × PS)} → {h : lawT1 lawS_3b_0 f} → lawX_3b_0 = .mk f h → PS → Option (Fl × PS)) rfl; exact fun {f} {h} _ => f
theorem lawW_3b_0 : lawT1 lawS_3b_0 lawF_3b_0 := by with_reducible exact WX.spec lawX_3b_0 (by kernel_rfl)
@[reducible] noncomputable def lawX_3 : WX (lawT1 lawS_3) := .mk _ (by with_reducible exact fun w mg mb v C a cd L g K => (X1.fin ([4, 6]) (X1.forC K ([]) (200) (Ev.slice K (Ev.var K (i := 1) (b := false) (by kernel_rfl) (hd := by kernel_rfl)) (Prt.none) (Prt.some (Ev.int)) (Prt.none)) (Tg.name K (i := 6) (b := false) (by kernel_rfl)) (Xs.cons (lawW_3b_0 w mg mb v C a cd L g K) (Xs.cons (lawW_3b_1 w mg mb v C a cd L g K) (Xs.nil))) (hg := by intros; kernel_rfl) (hs := by intros; kernel_rfl))))
noncomputable def lawF_3 : PS → Option (Fl × PS) := by with_reducible refine (?g : {f : PS → Option (Fl × PS)} → {h : lawT1 lawS_3 f} → lawX_3 = .mk f h → PS → Option (Fl × PS)) rfl; exact fun {f} {h} _ => f
theorem lawW_3 : lawT1 lawS_3 lawF_3 := by with_reducible exact WX.spec lawX_3 (by kernel_rfl)
@[reducible] noncomputable def lawX_14 : WX (lawT1 lawS_14) := .mk _ (by with_reducible exact fun w mg mb v C a cd L g K => (X1.fin ([1, 9, 1002]) (X1.expr (sp_psh K (VG.f K) (Ev.var K (i := 17) (b := false) (by kernel_rfl) (hd := by kernel_rfl)) (Evs.cons (Ev.str ([]) (hl := by kernel_rfl)) (Evs.cons (Ev.var K (i := 15) (b := false) (by kernel_rfl) (hd := by kernel_rfl)) (Evs.nil) (by kernel_rfl)) (by kernel_rfl)) (hbase := by kernel_rfl) (hl := by kernel_rfl) (hline := by kernel_rfl) (hlv := by kernel_rfl)) (hi := by kernel_rfl) (hs := by kernel_rfl))))
noncomputable def lawF_14 : PS → Option (Fl × PS) := by with_reducible refine (?g : {f : PS → Option (Fl × PS)} → {h : lawT1 lawS_14 f} → lawX_14 = .mk f h → PS → Option (Fl × PS)) rfl; exact fun {f} {h} _ => f
theorem lawW_14 : lawT1 lawS_14 lawF_14 := by with_reducible exact WX.spec lawX_14 (by kernel_rfl)
@[reducible] noncomputable def lawX : WX (lawT [lawS_0, lawS_1, lawS_2, lawS_3, lawS_4, lawS_5, lawS_6, lawS_7, lawS_8, lawS_9, lawS_10, lawS_11, lawS_12, lawS_13, lawS_14, lawS_15, lawS_16, lawS_17, lawS_18, lawS_19, lawS_20]) := .mk _ (by with_reducible exact fun w mg mb v C a cd L g K => (Xs.cons (lawW_0 w mg mb v C a cd L g K) (Xs.cons (lawW_1 w mg mb v C a cd L g K) (Xs.cons (lawW_2 w mg mb v C a cd L g K) (Xs.cons (lawW_3 w mg mb v C a cd L g K) (Xs.cons (lawW_4 w mg mb v C a cd L g K) (Xs.cons (lawW_5 w mg mb v C a cd L g K) (Xs.cons (lawW_6 w mg mb v C a cd L g K) (Xs.cons (lawW_7 w mg mb v C a cd L g K) (Xs.cons (lawW_8 w mg mb v C a cd L g K) (Xs.cons (lawW_9 w mg mb v C a cd L g K) (Xs.cons (lawW_10 w mg mb v C a cd L g K) (Xs.cons (lawW_11 w mg mb v C a cd L g K) (Xs.cons (lawW_12 w mg mb v C a cd L g K) (Xs.cons (lawW_13 w mg mb v C a cd L g K) (Xs.cons (lawW_14 w mg mb v C a cd L g K) (Xs.cons (lawW_15 w mg mb v C a cd L g K) (Xs.cons (lawW_16 w mg mb v C a cd L g K) (Xs.cons (lawW_17 w mg mb v C a cd L g K) (Xs.cons (lawW_18 w mg mb v C a cd L g K) (Xs.cons (lawW_19 w mg mb v C a cd L g K) (Xs.cons (lawW_20 w mg mb v C a cd L g K) (Xs.nil)))))))))))))))))))))))
noncomputable def lawF : PS → Option (Fl × PS) := by with_reducible refine (?g : {f : PS → Option (Fl × PS)} → {h : lawT [lawS_0, lawS_1, lawS_2, lawS_3, lawS_4, lawS_5, lawS_6, lawS_7, lawS_8, lawS_9, lawS_10, lawS_11, lawS_12, lawS_13, lawS_14, lawS_15, lawS_16, lawS_17, lawS_18, lawS_19, lawS_20] f} → lawX = .mk f h → PS → Option (Fl × PS)) rfl; exact fun {f} {h} _ => f
theorem lawBi : dLawB = [lawS_0, lawS_1, lawS_2, lawS_3, lawS_4, lawS_5, lawS_6, lawS_7, lawS_8, lawS_9, lawS_10, lawS_11, lawS_12, lawS_13, lawS_14, lawS_15, lawS_16, lawS_17, lawS_18, lawS_19, lawS_20] := by kernel_rfl
theorem lawW : lawT dLawB lawF := by rw [lawBi]; with_reducible exact WX.spec lawX (by kernel_rfl)
end Mine
end
section
open PySem PySem.W PyProof.Rows PySem.Calls
set_option maxHeartbeats 0
namespace Mine
noncomputable def st1 (xs : List Int) : PS := ⟨some (.flist (xs.map .int)) :: List.replicate 29 none, [.tab 77, .tab 84]⟩
noncomputable def recAt (k : Nat) : DefRec := ((recsOf qv)[k]?).getD ⟨Str.empty, dLawP, [], dLawS, default⟩
theorem recAt_mem {k : Nat} (h : decide (k < 9) = true := by rfl) : recAt k ∈ recsOf qv := by
  have hl : (recsOf qv).length = 9 := by kernel_rfl
  have hk : k < (recsOf qv).length := by rw [hl]; exact of_decide_eq_true h
  unfold recAt
  rw [List.getElem?_eq_getElem hk]
  exact List.getElem_mem hk
theorem def1 : defOf qv "law" = some (recAt 8, []) := by kernel_rfl
section
variable {w : World} {mg mb : Str → Option Value} {h : Heap} {mean : ExcName → Option Value}
theorem fnAt (T : Top qv (looseW qv lsv) mean mg mb h) (X : (K1 w.params).In h) {k : Nat} {a : Addr} (hk : decide (k < 9) = true) (hn : nsIn (K1 w.params) mainGlobals (recAt k).name = some (some (.ref a))) :
    ∃ doc pm cd o, h.get? a = some o ∧ o.data = .func (docDef (recAt k).name (recAt k).params (recAt k).body (recAt k).scope pm cd doc) ∧ h.CodeRec cd (recAt k).name := by
  obtain ⟨a', o, pm, cd, doc, h1, h2, h3, h4⟩ := T.fn _ (recAt_mem hk)
  have := mg_of X T.g hn
  rw [h1] at this
  cases this
  exact ⟨doc, pm, cd, o, h2, h3, h4⟩
theorem gd_fns (T : Top qv (looseW qv lsv) mean mg mb h) (X : (K1 w.params).In h) : ∃ v : Nat → Value, ∀ d ∈ (gL w mg mb v).fns, ∃ fo, h.get? d.f = some fo ∧ fo.data = .func d.fd ∧ h.CodeRec d.cdv d.qual := by
  obtain ⟨s1, s2, s3, so, sh, sd, sc⟩ := fnAt T X (k := 1) (a := 28) rfl (by kernel_rfl)
  obtain ⟨e1, e2, e3, eo, eh, ed, ec⟩ := fnAt T X (k := 2) (a := 35) rfl (by kernel_rfl)
  obtain ⟨b1, b2, b3, bo, bh, bd, bc⟩ := fnAt T X (k := 3) (a := 137) rfl (by kernel_rfl)
  obtain ⟨m1, m2, m3, mo, mh, md, mc⟩ := fnAt T X (k := 4) (a := 183) rfl (by kernel_rfl)
  obtain ⟨t1, t2, t3, to, th, td, tc⟩ := fnAt T X (k := 5) (a := 190) rfl (by kernel_rfl)
  obtain ⟨f1, f2, f3, fo, fh, fd, fc⟩ := fnAt T X (k := 6) (a := 195) rfl (by kernel_rfl)
  obtain ⟨g1, g2, g3, go, gh, gd, gc⟩ := fnAt T X (k := 7) (a := 202) rfl (by kernel_rfl)
  exact ⟨fun i => ([s1, s2, s3, e1, e2, e3, t1, t2, t3, b1, b2, b3, m1, m2, m3, f1, f2, f3, g1, g2, g3] : List Value).getD i .none,
    List.forall_mem_cons.mpr ⟨⟨_, X 59 _ rfl, by kernel_rfl, codeRec_of X (by kernel_rfl)⟩,
    List.forall_mem_cons.mpr ⟨⟨_, X 75 _ rfl, by kernel_rfl, codeRec_of X (by kernel_rfl)⟩,
    List.forall_mem_cons.mpr ⟨⟨_, X 52 _ rfl, by kernel_rfl, codeRec_of X (by kernel_rfl)⟩,
    List.forall_mem_cons.mpr ⟨⟨_, X 82 _ rfl, by kernel_rfl, codeRec_of X (by kernel_rfl)⟩,
    List.forall_mem_cons.mpr ⟨⟨_, X 112 _ rfl, by kernel_rfl, codeRec_of X (by kernel_rfl)⟩,
    List.forall_mem_cons.mpr ⟨⟨_, sh, sd.trans (by kernel_rfl), sc⟩,
    List.forall_mem_cons.mpr ⟨⟨_, eh, ed.trans (by kernel_rfl), ec⟩,
    List.forall_mem_cons.mpr ⟨⟨_, th, td.trans (by kernel_rfl), tc⟩,
    List.forall_mem_cons.mpr ⟨⟨_, bh, bd.trans (by kernel_rfl), bc⟩,
    List.forall_mem_cons.mpr ⟨⟨_, mh, md.trans (by kernel_rfl), mc⟩,
    List.forall_mem_cons.mpr ⟨⟨_, fh, fd.trans (by kernel_rfl), fc⟩,
    List.forall_mem_cons.mpr ⟨⟨_, gh, gd.trans (by kernel_rfl), gc⟩,
    fun _ h => nomatch h⟩⟩⟩⟩⟩⟩⟩⟩⟩⟩⟩⟩⟩
end
end Mine
end
section
open PySem PySem.W PyProof.Rows PySem.Calls
set_option maxHeartbeats 0
namespace Mine
theorem memOf {β : Type} : ∀ {l : List (Addr × β)} {a : Addr} {b : β}, l.lookup a = some b → (a, b) ∈ l
  | [], _, _, h => by cases h
  | (k, v) :: l, a, b, h => by
    rw [List.lookup_cons] at h
    split at h
    · rename_i q
      have : a = k := by simpa using q
      cases h; subst this; exact .head _
    · exact .tail _ (memOf h)
theorem gd_hide {G : Gd} {h : Heap} {l : Addr} {vs : List Value} {P₁ P₂ : Addr} (X : GdOk G h) (h1 : h.get? P₁ = some (tabO [])) (h2 : h.get? P₂ = some (tabO [])) (hl : h.get? l = some (listO vs 0))
    (hK : ∀ p ∈ G.K, p.1 ≠ P₁ ∧ p.1 ≠ P₂ ∧ p.2.cls ≠ .type "list") : GdOk G (hideAll h [P₁, P₂, l]) := by
  have keep : ∀ b o, h.get? b = some o → b ∉ [P₁, P₂, l] → (hideAll h [P₁, P₂, l]).get? b = some o := fun b o e n => hideAll_get _ e n
  have dk : ∀ b o, h.get? b = some o → (∀ d, o.data = .seq d 0 → False) → (∀ vs, o.data = .fields vs → vs ≠ #[]) → (hideAll h [P₁, P₂, l]).get? b = some o := fun b o e n1 n2 => keep b o e fun hm => by
    simp only [List.mem_cons, List.not_mem_nil, or_false] at hm
    rcases hm with rfl | rfl | rfl
    · rw [h1] at e; cases e; exact n2 _ rfl rfl
    · rw [h2] at e; cases e; exact n2 _ rfl rfl
    · rw [hl] at e; cases e; exact n1 _ rfl
  refine ⟨fun b o e => ?_, ?_, ?_, ?_, X.bi, fun d hd => ?_⟩
  · have hm := memOf e
    obtain ⟨k1, k2, k3⟩ := hK _ hm
    refine keep b o (X.frag b o e) fun hm' => ?_
    simp only [List.mem_cons, List.not_mem_nil, or_false] at hm'
    rcases hm' with q | q | q
    · exact k1 q
    · exact k2 q
    · have := X.frag b o e
      rw [q, hl] at this
      cases this
      exact k3 rfl
  · obtain ⟨o, es, ep, ho, hd, r⟩ := X.g
    exact ⟨o, es, ep, dk _ _ ho (fun d q => by rw [q] at hd; cases hd) (fun d q => by rw [q] at hd; cases hd), hd, r⟩
  · obtain ⟨o, es, ep, ho, hd, r⟩ := X.b
    exact ⟨o, es, ep, dk _ _ ho (fun d q => by rw [q] at hd; cases hd) (fun d q => by rw [q] at hd; cases hd), hd, r⟩
  · obtain ⟨mc, ⟨o, es, ep, ho, hd, r⟩, z⟩ := X.nolimit
    exact ⟨mc, ⟨o, es, ep, dk _ _ ho (fun d q => by rw [q] at hd; cases hd) (fun d q => by rw [q] at hd; cases hd), hd, r⟩, z⟩
  · obtain ⟨fo, a, b, c⟩ := X.fn d hd
    refine ⟨fo, dk _ _ a (fun d q => by rw [q] at b; cases b) (fun d q => by rw [q] at b; cases b), b, ?_⟩
    obtain ⟨c', o, vs', t, e1, e2, e3, e4⟩ := c
    refine ⟨c', o, vs', t, e1, dk _ _ e2 ?_ ?_, e3, e4⟩
    · rintro d q; rw [q] at e3; cases e3
    · rintro d q rfl; rw [q] at e3; cases e3; cases e4
end Mine
end
section
open PySem PySem.W PyProof.Rows PySem.Calls
set_option maxHeartbeats 0
namespace Mine
theorem args_open {args : List WData} (hpre : (Challenge.rw_wr0042_02.row.toRowW).claim.pre args = true) : ∃ xs : List Int, args = [.list (xs.map .int)] ∧ xs.length ≤ 63 := by
  have hsh := (pre_splitW hpre).1
  have hcond := (pre_splitW hpre).2
  obtain ⟨d, r, rfl, h1, h2⟩ := hasAllW_cons hsh
  obtain rfl := hasAllW_nil h2
  obtain ⟨ys, rfl, h3⟩ := hasW_list h1
  obtain ⟨ns, rfl⟩ := items_int h3
  refine ⟨ns, rfl, ?_⟩
  clear hsh h1 h2 h3 hpre
  have h4 := (holds_andW hcond).1
  clear hcond
  have hcond' := condW_of h4 (by wtm_val)
  simp at hcond'
  omega
theorem well_int {P : Params} {h : Heap} {v : Value} {i : Int} (x : Well P h v (.int i)) : ∃ t, v = .int i t := by
  cases x; exact ⟨_, rfl⟩
theorem wellAll_cons {P : Params} {h : Heap} {vs : List Value} {d : WData} {ds : List WData} (x : WellAll P h vs (d :: ds)) : ∃ v r, vs = v :: r ∧ Well P h v d ∧ WellAll P h r ds := by
  cases x with | cons a b => exact ⟨_, _, rfl, a, b⟩
theorem ints_well {P : Params} {h : Heap} {W : Wd} (xs : List Int) : ∀ (vs : List Value), WellAll P h vs (xs.map .int) → VRels W (xs.map .int) vs := by
  induction xs with
  | nil => intro vs x; cases x; exact .nil
  | cons i xs ih =>
    intro vs x
    obtain ⟨v, r, rfl, a, b⟩ := wellAll_cons x
    obtain ⟨t, rfl⟩ := well_int a
    exact .cons (.int i t) (ih r b)
theorem cells_are (L : Nat) : cellsFrom (L + 1) dLawS.names [] = [] := by kernel_rfl
section
variable {prog : Program} {w : World} {A : Around} {s : Shared}
theorem enter_cells {R : Result → Shared → Prop} {a : Addr} {o : Obj} {fd : FuncData} {body : List Stmt} {n : Str} {v : Value}
    (hroom : A.depth < recursionLimit) (ho : s.heap.get? a = some o) (hdata : o.data = .func fd) (hlim : s.heap.NoLimit) (hcd : s.heap.CodeRec fd.code fd.qualname)
    (hbody : fd.body = .stmts body) (hbind : bindArgs fd ⟨[v], []⟩ = pure [(n, v)]) (hclo : fd.closure = []) (hkind : fd.scope.names.lookup n = some .local)
    (h : ∀ s₁, 0 < s₁.toks → InCallC s (callEnvC fd s.heap.objs.size a).locals (fun y => if y = n then some v else none) (callEnvC fd s.heap.objs.size a).cells (fun _ => none) s₁ →
      wpAny (model prog w) (A.deeper (callEnvC fd s.heap.objs.size a)) (execs body (callEnvC fd s.heap.objs.size a)) (fun f s' => R (.ok (.ret (match f with | .ret v => v | _ => .none))) s')
        (fun e s' => wpAny (model prog w) (A.deeper (callEnvC fd s.heap.objs.size a)) (leaving (callEnvC fd s.heap.objs.size a) e) (fun _ s'' => R (.error e) s'') (fun e' s'' => R (.error e') s'') s') s₁)
    (hco : fd.scope.isCoroutine = false) (hgen : fd.scope.isGenerator = false) (hk : fd.scope.kind = .function) :
    codeAny (model prog w) A (.call (.ref a) ⟨[v], []⟩) R s := by
  refine codeAny_call_function hroom ho hdata hco hgen hbody hcd ?_
  rw [hbind, hclo]
  refine wpAny_pure ?_
  simp only [newFunctionEnv, Option.isSome_none, Bool.false_eq_true, if_false]
  refine wpAny_bind (wpAny_alloc ?_)
  refine wpAny_bind (wpAny_layCells _ (fun name kind cells => by cases hkc : kind == NameKind.cell <;> simp [hkc]) _ _ _ _ ?_)
  have ok := cellsFrom_ok fd.scope.names (s.heap.push { cls := .type "frame", data := .dict #[] }) (s.heap.objs.size + 1) [] ⟨fun _ _ hm => (nomatch hm), List.Pairwise.nil⟩ (by rw [Heap.size_push]; exact Nat.le_refl _)
  rw [Heap.size_push] at ok
  rw [show ({ s with heap := s.heap.push { cls := .type "frame", data := .dict #[] } } : Shared).heap.objs.size = s.heap.objs.size + 1 from Heap.size_push ..]
  have X₀ : InCallC s s.heap.objs.size (fun _ => none) (cellsFrom (s.heap.objs.size + 1) fd.scope.names []) (fun _ => none) { s with heap := pushCells (s.heap.push { cls := .type "frame", data := .dict #[] }) fd.scope.names } :=
    ⟨⟨⟨_, _, rfl⟩, (Heap.Ns.new s.heap (.type "frame")).keeps (pushCells_keeps _ _), fun b o e => pushCells_keeps _ _ b o (Heap.get?_push_of_some _ e), Nat.le_refl _⟩,
      fun n c hc => (ok.empty n c (mem_of_lookup hc)).1, ok.apart, fun n c hm => (ok.empty n c hm).2⟩
  refine wpAny_bind ?_
  rw [List.forIn_cons]
  refine wpAny_bind (wpAny_bind (wpAny_storeName_local (env := newEnv fd.scope s.heap.objs.size fd.globals (cellsFrom (s.heap.objs.size + 1) fd.scope.names []) (fd.qualname ++ ".<locals>.") (some a) fd.code none fd.builtins) hkind X₀.toInCall.ns (fun h' hn' hs' => ?_) (by show (fd.scope.kind == .class || (fd.scope.kind == .module && _)) = false; rw [hk]; rfl)))
  refine wpAny_pure ?_
  dsimp only
  rw [List.forIn_nil]
  refine wpAny_pure (wpAny_pure ?_)
  have hX : InCallC s s.heap.objs.size (fun y => if y = n then some v else none) (cellsFrom (s.heap.objs.size + 1) fd.scope.names []) (fun _ => none) { s with heap := h', toks := s.toks + 1 } := by
    refine ⟨⟨⟨_, _, rfl⟩, hn', fun b o e => hs'.extBut b o (Nat.ne_of_lt (Heap.lt_size e)) (X₀.toInCall.keep b o e), Nat.le_refl _⟩, fun k c hc => (X₀.cell k c hc).sameBut hs' (Nat.ne_of_gt (X₀.above k c (mem_of_lookup hc))), X₀.apart, X₀.above⟩
  exact ⟨hlim.keeps hX.toInCall.keep, codeAny_func (h _ (Nat.succ_pos _) hX)⟩
end
end Mine
end
section
open PySem PySem.W PyProof.Rows PySem.Calls
set_option maxHeartbeats 0
namespace Mine
theorem srel_none {W : Wd} {cl : List (Str × Addr)} {m : Str → Option Value} {cs : Led} : ∀ {nm : List (Str × Bool)}, (∀ x, (x, true) ∈ nm → ∃ c o, cl.lookup x = some c ∧ (c, o) ∈ cs ∧ o.data = .cell none) → SRel W cl m cs nm (nm.map fun _ => none)
  | [], _ => .nil
  | (x, false) :: nm, h => .loc (fun _ e => nomatch e) (srel_none fun y hy => h y (.tail _ hy))
  | (x, true) :: nm, h => by
    obtain ⟨c, o, h1, h2, h3⟩ := h x (.head _)
    exact .cel h1 h2 h3 (fun _ e => nomatch e) (srel_none fun y hy => h y (.tail _ hy))
theorem cells_mem {cm : Str → Option Value} : ∀ {cl : List (Str × Addr)} {cs : Led}, CellsAre cm cl cs → ∀ {x c}, (x, c) ∈ cl → ∃ o, (c, o) ∈ cs ∧ o.data = .cell (cm x)
  | _, _, .cons h r, x, c, hm => by
    rcases List.mem_cons.mp hm with e | hm
    · cases e; exact ⟨_, .head _, h⟩
    · obtain ⟨o, h1, h2⟩ := cells_mem r hm
      exact ⟨o, .tail _ h1, h2⟩
theorem cells_addr {cm : Str → Option Value} : ∀ {cl : List (Str × Addr)} {cs : Led}, CellsAre cm cl cs → cs.map (·.1) = cl.map (·.2)
  | _, _, .nil => rfl
  | _, _, .cons h r => by rw [List.map_cons, List.map_cons, cells_addr r]
theorem rec8 : recAt 8 = ⟨"law", dLawP, dLawB, dLawS, (recAt 8).pos⟩ := by kernel_rfl
theorem kinds_ok : (lawV.all fun p => dLawS.names.lookup (Str.ofString p.1) == some (if p.2 then NameKind.cell else .local)) = true := by kernel_rfl
theorem kAddr (P : Params) : ((K1 P).all fun p => p.1 != 77 && p.1 != 84 && p.2.cls != .type "list") = true := by kernel_rfl
theorem K1_of {P : Params} {h : Heap} (X : (K1T P).In h) : (K1 P).In h := fun a o e => by
  refine X a o ?_
  have hm := memOf e
  have := List.all_eq_true.mp (kAddr P) _ hm
  simp only [Bool.and_eq_true, bne_iff_ne] at this
  show ((77, _) :: (84, _) :: K1 P).lookup a = some o
  rw [List.lookup_cons, show (a == 77) = false by simpa using this.1.1, List.lookup_cons, show (a == 84) = false by simpa using this.1.2]
  exact e
end Mine
end
section
open PySem PySem.W PyProof.Rows PySem.Calls
set_option maxHeartbeats 0
namespace Mine
noncomputable def cx0 (w : World) (g : Heap) (L fa : Addr) (cd : Value) (os : OsState) : Cx :=
  { A := callerA.deeper (envX (Str.ofString "law") dLawS L fa cd (cellsFrom (L + 1) dLawS.names [])), A₀ := callerA, base := g, outer := [], h₀ := g, L := L, fenv := envX (Str.ofString "law") dLawS L fa cd (cellsFrom (L + 1) dLawS.names []), nm := [], ac := ⟨115, w.params, pg, w⟩, os := os, lv := 8 }
theorem cell_inj (L : Nat) (x y : Str) (c : Addr) (h1 : (cellsFrom (L + 1) dLawS.names []).lookup x = some c) (_h2 : (cellsFrom (L + 1) dLawS.names []).lookup y = some c) : y = x := by
  rw [cells_are] at h1
  cases h1
theorem cell_ex (L : Nat) (x : Str) (h : (x, true) ∈ lawV.map fun p => (Str.ofString p.1, p.2)) : ∃ c, (cellsFrom (L + 1) dLawS.names []).lookup x = some c ∧ (x, c) ∈ cellsFrom (L + 1) dLawS.names [] := by
  have : ((lawV.map fun p => (Str.ofString p.1, p.2)).all fun p => !p.2) = true := by decide
  have := List.all_eq_true.mp this _ h
  cases this
theorem cx0_ok {w : World} {mg mb : Str → Option Value} {v : Nat → Value} {g : Heap} {L fa : Addr} {cd : Value} {os : OsState} (G : GdOk (gL w mg mb v) g) : COk1 (gL w mg mb v) (cxL (cx0 w g L fa cd os) fa cd L g) where
  below := below_caller g
  frames := Around.frames_deeper rfl
  frame := rfl
  kind := rfl
  handled := rfl
  nm := by
    show ((lawV.map fun p => (Str.ofString p.1, p.2)).map (·.1)).Nodup
    decide
  globals := rfl
  builtins := rfl
  locals := rfl
  gd := G
  cells := by
    intro x b hm
    obtain ⟨p, hp, e⟩ := List.mem_map.mp (show (x, b) ∈ lawV.map fun p => (Str.ofString p.1, p.2) from hm)
    cases e
    have := List.all_eq_true.mp kinds_ok _ hp
    show List.lookup _ dLawS.names = _
    simpa using this
  room := by
    show 1 + claimMargin + 1 + 8 < recursionLimit
    decide
  units := by
    show 4 + 3 + 3 * 8 + 8 < cLine
    decide
  acp := rfl
  acC := rfl
  acP := rfl
  acw := rfl
  inj := cell_inj L
theorem nodup9 {l : Nat} (n1 : l ≠ 77) (n2 : l ≠ 84) : ([] ++ [77, 84, l] : List Addr).Nodup := by
  simp [Ne.symm n1, Ne.symm n2]
theorem rel_start {w : World} {s₁ : Shared} {h₂ g : Heap} {tk : Nat} {fa l : Addr} {cd : Value} {xs : List Int} {vs : List Value} (h77 : s₁.heap.get? 77 = some (tabO [])) (h84 : s₁.heap.get? 84 = some (tabO [])) (hl : s₁.heap.get? l = some (listO vs 0)) (hxs : ∀ W, VRels W (xs.map .int) vs)
    (hg₀ : hideAll s₁.heap [77, 84, l] = g) (hg : s₁.gens = #[]) (ht : 0 < tk)
    (X : InCallC s₁ s₁.heap.objs.size (fun y => if y = "script" then some (.ref l) else none) (cellsFrom (s₁.heap.objs.size + 1) dLawS.names []) (fun _ => none) { s₁ with heap := h₂, toks := tk }) :
    Rel (cxL (cx0 w g s₁.heap.objs.size fa cd s₁.os) fa cd s₁.heap.objs.size g) ⟨[77, 84], [(l, listO vs 0)]⟩ (st1 xs) [] { s₁ with heap := h₂, toks := tk } := by
  have hnd : ((cellsFrom (s₁.heap.objs.size + 1) dLawS.names []).map (·.1)).Nodup := by rw [cells_are]; exact List.nodup_nil
  obtain ⟨cells, N, Yc⟩ := Cl.news (h₀ := s₁.heap) (L := s₁.heap.objs.size) (h := h₂) (cs := cellsFrom (s₁.heap.objs.size + 1) dLawS.names []) (cm := fun _ => none) (Nat.le_refl _) fun n c hm => ⟨X.cell n c (lookup_of_mem_nodup hnd hm), X.above n c hm⟩
  have h0g : ∀ b o, g.get? b = some o → s₁.heap.get? b = some o := fun b o e => of_hideAll _ (hg₀ ▸ e)
  have nog : ∀ b, b ∈ [77, 84, l] → g.get? b = none := fun b hb => by rw [← hg₀]; exact hideAll_none _ hb
  have kp := X.toInCall.keep
  have lt77 := Heap.lt_size h77
  have lt84 := Heap.lt_size h84
  have ltl := Heap.lt_size hl
  have ne1 : l ≠ 77 := fun q => by rw [q, h77] at hl; cases hl
  have ne2 : l ≠ 84 := fun q => by rw [q, h84] at hl; cases hl
  refine ⟨⟨fun y => if y = "script" then some (.ref l) else none, cells, [(77, tabO []), (84, tabO [])], ⟨X.toInCall.ns, fun b o e => kp b o (h0g b o e), by rw [← hg₀]; exact Nat.le_of_eq (hideAll_size _ _)⟩, ?_, ?_, ?_, ?_, rfl⟩, AllBare.of_eq hg, rfl, ht⟩
  · intro p hp
    simp only [List.mem_append, List.mem_cons, List.not_mem_nil, or_false] at hp
    rcases hp with hp | (rfl | rfl) | rfl
    · obtain ⟨a1, a2, a3⟩ := N p hp
      refine ⟨a1, a2, ?_⟩
      show g.get? p.1 = none
      cases q : g.get? p.1 with
      | none => rfl
      | some o => have := h0g _ _ q; rw [show s₁.heap.get? p.1 = none from a3] at this; cases this
    · exact ⟨kp _ _ h77, Nat.ne_of_lt lt77, nog _ (by simp)⟩
    · exact ⟨kp _ _ h84, Nat.ne_of_lt lt84, nog _ (by simp)⟩
    · exact ⟨kp _ _ hl, Nat.ne_of_lt ltl, nog _ (by simp)⟩
  · have ca := cells_addr Yc
    rw [cells_are] at ca
    have e1 : (cells ++ (([(77, tabO []), (84, tabO [])] : Led) ++ (([(l, listO vs 0)] : Led) ++ []))).map (fun p : Addr × Obj => p.1) = cells.map (fun p : Addr × Obj => p.1) ++ [77, 84, l] := by rw [List.map_append]; rfl
    show ((cells ++ (([(77, tabO []), (84, tabO [])] : Led) ++ (([(l, listO vs 0)] : Led) ++ []))).map (fun p : Addr × Obj => p.1)).Nodup
    rw [e1, ca]
    exact nodup9 ne1 ne2
  · refine .loc (fun pv e => ?_) ?_
    · cases e
      exact ⟨.ref l, if_pos rfl, .flist _ vs 0 l (.head _) (hxs _)⟩
    · exact srel_none (nm := (lawV.tail.map fun p => (Str.ofString p.1, p.2))) fun x hx => by
        obtain ⟨c, h1, h2⟩ := cell_ex s₁.heap.objs.size x (.tail _ hx)
        obtain ⟨o, h3, h4⟩ := cells_mem Yc h2
        exact ⟨c, o, h1, h3, h4⟩
  · exact .cons (.tab 77 [] trivial) (.cons (.tab 84 [] trivial) .nil)
end Mine
end
section
open PySem PySem.W PyProof.Rows PySem.Calls
set_option maxHeartbeats 400000
namespace Mine
theorem old_end {C : Cx} {W : Wd} {σ : PS} {s₁ : Heap} {s' : Shared} {l P₁ P₂ : Addr} {vs : List Value} (R : Rel C W σ [] s') (hg : C.h₀ = hideAll s₁ [P₁, P₂, l])
    (h1 : s₁.get? P₁ = some (tabO [])) (h2 : s₁.get? P₂ = some (tabO [])) (hl : s₁.get? l = some (listO vs 0)) (hT : (l, listO vs 0) ∈ W.T) (hm : W.mu[0]? = some P₁ ∧ W.mu[1]? = some P₂)
    (i1 : isCodeTable s₁ P₁) (i2 : isCodeTable s₁ P₂) (m1 : ∃ po o, s'.heap.get? P₁ = some o ∧ ORel C.ac W po P₁ o ∧ po = .tab P₁) (m2 : ∃ po o, s'.heap.get? P₂ = some o ∧ ORel C.ac W po P₂ o ∧ po = .tab P₂) : OldK s₁ s'.heap := by
  have tb : ∀ {P}, (∃ po o, s'.heap.get? P = some o ∧ ORel C.ac W po P o ∧ po = .tab P) → ∃ ws, s'.heap.get? P = some (tabO ws) := by
    rintro P ⟨po, o, a, b, rfl⟩
    cases b with
    | tab _ ws _ => exact ⟨ws, a⟩
  obtain ⟨w1, t1⟩ := tb m1
  obtain ⟨w2, t2⟩ := tb m2
  have tl : s'.heap.get? l = some (listO vs 0) := R.getT hT
  have key : ∀ b o, s₁.get? b = some o → b ∉ [P₁, P₂, l] → s'.heap.get? b = some o := fun b o e hn => R.keep (hg ▸ hideAll_get _ e hn)
  refine ⟨fun b o e => ?_, fun b o e => ?_⟩
  · by_cases hb : b ∈ [P₁, P₂, l]
    · simp only [List.mem_cons, List.not_mem_nil, or_false] at hb
      rcases hb with rfl | rfl | rfl
      · rw [h1] at e; cases e
        exact .inr (.inl ⟨i1, rfl, #[], w1.toArray, rfl, by rw [t1]; simp [tabO]⟩)
      · rw [h2] at e; cases e
        exact .inr (.inl ⟨i2, rfl, #[], w2.toArray, rfl, by rw [t2]; simp [tabO]⟩)
      · rw [hl] at e; cases e
        exact .inl tl
    · exact .inl (key b o e hb)
  · by_cases hb : b ∈ [P₁, P₂, l]
    · simp only [List.mem_cons, List.not_mem_nil, or_false] at hb
      rcases hb with rfl | rfl | rfl
      · exact ⟨_, t1⟩
      · exact ⟨_, t2⟩
      · exact ⟨_, tl⟩
    · exact ⟨_, key b o e hb⟩
end Mine
end
section
open PySem PySem.W PyProof.Rows PySem.Calls
set_option maxHeartbeats 1000000
namespace Mine
noncomputable def PureL (F : PS → Option (Fl × PS)) : Prop := ∀ xs : List Int, xs.length ≤ 63 → ∃ σ', F (st1 xs) = some (.ret (.bool true), σ') ∧ σ'.mem[0]? = some (.tab 77) ∧ σ'.mem[1]? = some (.tab 84)
theorem run1 {w : World} {mg mb : Str → Option Value} {v : Nat → Value} {s₁ : Shared} {h₂ g : Heap} {tk : Nat} {fa l : Addr} {cd : Value} {xs : List Int} {vs : List Value} {Q : Flow → Shared → Prop} {E : Value → Shared → Prop} {F : PS → Option (Fl × PS)} {body : List Stmt} (hp : PureL F) (hlen : xs.length ≤ 63)
    (H : Xs (gL w mg mb v) (cxL (cx0 w g s₁.heap.objs.size fa cd s₁.os) fa cd s₁.heap.objs.size g) body F)
    (R : Rel (cxL (cx0 w g s₁.heap.objs.size fa cd s₁.os) fa cd s₁.heap.objs.size g) ⟨[77, 84], [(l, listO vs 0)]⟩ (st1 xs) [] { s₁ with heap := h₂, toks := tk })
    (XT : (K1T w.params).In s₁.heap) (hg₀ : hideAll s₁.heap [77, 84, l] = g) (hl : s₁.heap.get? l = some (listO vs 0)) (h : ∀ s', OldK s₁.heap s'.heap → s'.os = s₁.os → AllBare s'.gens → Q (.ret (.bool true)) s') :
    wpAny (model pg w) (callerA.deeper (envX (Str.ofString "law") dLawS s₁.heap.objs.size fa cd (cellsFrom (s₁.heap.objs.size + 1) dLawS.names []))) (execs body (envX (Str.ofString "law") dLawS s₁.heap.objs.size fa cd (cellsFrom (s₁.heap.objs.size + 1) dLawS.names []))) Q E { s₁ with heap := h₂, toks := tk } := by
  obtain ⟨σ', hF, t1, t2⟩ := hp xs hlen
  refine H _ _ _ _ _ _ _ _ hF R fun W' fl s' le R' fr => ?_
  cases fr with
  | ret _ y ry =>
    cases ry
    obtain ⟨⟨ex, hmu⟩, hT⟩ := le
    have u1 : W'.mu[0]? = some 77 := by rw [hmu]; rfl
    have u2 : W'.mu[1]? = some 84 := by rw [hmu]; rfl
    obtain ⟨o1, a1, b1⟩ := R'.getM t1 u1
    obtain ⟨o2, a2, b2⟩ := R'.getM t2 u2
    have h77 : s₁.heap.get? 77 = some (tabO []) := XT 77 _ rfl
    have h84 : s₁.heap.get? 84 = some (tabO []) := XT 84 _ rfl
    refine h s' (old_end R' hg₀.symm h77 h84 hl (hT _ (.head _)) ⟨u1, u2⟩ ?_ ?_ ⟨_, _, a1, b1, rfl⟩ ⟨_, _, a2, b2, rfl⟩) R'.os R'.bare
    · exact ⟨81, _, _, XT 81 _ rfl, rfl, rfl, rfl⟩
    · exact ⟨88, _, _, XT 88 _ rfl, rfl, rfl, rfl⟩
theorem env_is (pm cd doc : Value) (L fa : Addr) : callEnvC (docDef "law" dLawP dLawB dLawS pm cd doc) L fa = envX (Str.ofString "law") dLawS L fa cd (cellsFrom (L + 1) dLawS.names []) := rfl
theorem prog_is : (Challenge.rw_wr0042_02.row.toRowW).prog = pg := rfl
theorem post_ok (xs : List Int) : (Challenge.rw_wr0042_02.row.toRowW).claim.post [.list (xs.map .int)] (.bool true) [.list (xs.map .int)] = true :=
  postW_of (by rfl) (by wtm_val) (by first | rfl | simp | decide)
theorem entryL {F : PS → Option (Fl × PS)} {b : List Stmt} (hbd : dLawB = b) (H : ∀ (w : World) (mg mb : Str → Option Value) (v : Nat → Value) (C : Cx) (a : Addr) (cd : Value) (L : Addr) (g : Heap), COk1 (gL w mg mb v) (cxL C a cd L g) → Xs (gL w mg mb v) (cxL C a cd L g) b F) (hp : PureL F) :
    WalkO qv lsv (XL qv []) hk1.says (Challenge.rw_wr0042_02.row.toRowW) (recAt 8) [] fun f vs => PySem.call f vs := by
  intro w s₀ s₁ mg mb G Y fa o pm cd doc dV kV ho hd hcd hD hmg hg args vals as hpre hlay hrd hwl hlo
  obtain ⟨xs, rfl, hlen⟩ := args_open hpre
  have T := G.T
  have XT : (K1T w.params).In s₁.heap := kIn_of Y
  have XK := K1_of XT
  obtain ⟨v, hv⟩ := gd_fns T XK
  have gd : GdOk (gL w mg mb v) s₁.heap := ⟨XK, T.g, T.b, T.nolimit, T.builtins, hv⟩
  have h77 : s₁.heap.get? 77 = some (tabO []) := XT 77 _ rfl
  have h84 : s₁.heap.get? 84 = some (tabO []) := XT 84 _ rfl
  cases hwl with
  | cons hw1 hw2 => cases hw2 with
    | nil => cases hw1 with
      | @list l vs _ hl hxs =>
        have hl : s₁.heap.get? l = some (listO vs 0) := hl
        have gd₀ := gd_hide gd h77 h84 hl fun p hp => by
          have := List.all_eq_true.mp (kAddr w.params) p hp
          simpa [and_assoc] using this
        obtain rfl : dV = .none := by
          rcases hD.pos with ⟨_, e⟩ | ⟨e, _⟩
          · exact e
          · exact absurd (show (recAt 8).params.defaults = [] by kernel_rfl) e
        obtain rfl : kV = .none := by
          rcases hD.kw with ⟨_, e⟩ | ⟨e, _⟩
          · exact e
          · exact absurd rfl e
        rw [rec8] at hd hcd
        generalize hg₀ : hideAll s₁.heap [77, 84, l] = g at gd₀
        refine wpAny_call (enter_cells (fd := docDef "law" dLawP dLawB dLawS pm cd doc) (body := dLawB) (n := "script") (by decide) ho hd gd.nolimit hcd rfl rfl rfl (by kernel_rfl) (fun s₂ ht X => ?_) rfl rfl rfl)
        obtain ⟨h₂, tk, rfl⟩ := X.toInCall.same
        have X' : InCallC s₁ s₁.heap.objs.size (fun y => if y = "script" then some (.ref l) else none) (cellsFrom (s₁.heap.objs.size + 1) dLawS.names []) (fun _ => none) { s₁ with heap := h₂, toks := tk } := X
        have RR := rel_start (w := w) (fa := fa) (cd := cd) h77 h84 hl (fun W => ints_well xs _ hxs) hg₀ hg ht X'
        have KK : COk1 (gL w mg mb v) (cxL (cx0 w g s₁.heap.objs.size fa cd s₁.os) fa cd s₁.heap.objs.size g) := cx0_ok gd₀
        have HH := H w mg mb v (cx0 w g s₁.heap.objs.size fa cd s₁.os) fa cd s₁.heap.objs.size g KK
        rw [prog_is, env_is, hbd]
        refine run1 hp hlen HH RR XT hg₀ hl fun s' hK hos hb => ?_
        exact ⟨.inl ⟨.bool true, .bool true, [], rfl, fun cls => rfl, .bool true, post_ok xs, fun _ => ⟨List.nodup_nil, fun a h => nomatch h⟩⟩, hK, hos, hb⟩
end Mine
end
section
namespace Mine
noncomputable def base6 : List Nat := [97, 98, 102, 107, 109, 112]
noncomputable def rstep (l : List (List Nat × List Nat)) : List (List Nat × List Nat) := l.flatMap fun p => p.2.map fun c => (p.1 ++ [c], p.2.filter (· != c))
noncomputable def reach : Nat → List (List Nat × List Nat)
  | 0 => [([], base6)]
  | t + 1 => rstep (reach t)
noncomputable def rows6 : List (List Nat) := (reach 6).map (·.1)
noncomputable def insL (t : List Nat) (p c : Nat) : List Nat := t.take p ++ c :: t.drop p
noncomputable def firstOf : List Nat → Nat → Nat → Bool
  | x :: r, a, b => if Nat.beq x a then true else if Nat.beq x b then false else firstOf r a b
  | [], _, _ => false
end Mine
end
section
open PySem PySem.W PyProof.Rows PySem.Calls
set_option maxHeartbeats 400000
namespace Mine
noncomputable def pvi (xs : List Int) : List PV := xs.map .int
noncomputable def seqs : List (PS → Option (Fl × PS)) → PS → Option (Fl × PS)
  | [], σ => some (.next, σ)
  | f :: r, σ => fseq f (seqs r) σ
noncomputable def ffinC (ds : List Nat) (n0 : Nat) (σ : PS) : Option PS := if (σ.mem.take n0).all (belowO n0) = true then some (dropS ds (cutS n0 σ)) else none
theorem fb_eq {α β : Type} {m : Option (α × PS)} {k : α → PS → Option β} {a : α} {σ : PS} (h : m = some (a, σ)) : fb m k = k a σ := by rw [h]; rfl
theorem seqs_app {l₂ : List (PS → Option (Fl × PS))} {σ₁ : PS} : ∀ {l₁ : List (PS → Option (Fl × PS))} {σ : PS}, seqs l₁ σ = some (.next, σ₁) → seqs (l₁ ++ l₂) σ = seqs l₂ σ₁
  | [], σ, h => by
    have : σ = σ₁ := by simpa [seqs] using h
    rw [this]; rfl
  | f :: r, σ, h => by
    simp only [seqs, fseq, List.cons_append] at h ⊢
    split at h
    · exact seqs_app h
    · rename_i hn
      exact absurd h (hn σ₁)
theorem ffin_next {ds : List Nat} {f : PS → Option (Fl × PS)} {σ σ₁ σ₂ : PS} (h : f σ = some (.next, σ₁)) (hc : ffinC ds σ.mem.length σ₁ = some σ₂) : ffin ds f σ = some (.next, σ₂) := by
  unfold ffin
  rw [h]
  unfold ffinC at hc
  dsimp only
  split at hc
  · rename_i hall
    rw [if_pos hall]
    cases hc; rfl
  · cases hc
theorem fforC_step {ds : List Nat} {n0 : Nat} {nx : Nat → PS → Option (Option PV)} {st : PV → PS → Option PS} {b : PS → Option (Fl × PS)} {n i : Nat} {σ σ₁ σ₂ σ₃ : PS} {v : PV} (hn : nx i σ = some (some v)) (hs : st v σ = some σ₁) (hb : b σ₁ = some (.next, σ₂)) (hc : ffinC ds n0 σ₂ = some σ₃) :
    fforC ds n0 nx st b (n + 1) i σ = fforC ds n0 nx st b n (i + 1) σ₃ := by
  rw [fforC]
  rw [hn]
  dsimp only
  rw [hs]
  dsimp only
  rw [fb_eq hb]
  dsimp only
  unfold ffinC at hc
  split at hc
  · rename_i hall
    rw [if_pos hall]
    cases hc; rfl
  · cases hc
theorem fforC_done {ds : List Nat} {n0 : Nat} {nx : Nat → PS → Option (Option PV)} {st : PV → PS → Option PS} {b : PS → Option (Fl × PS)} {n i : Nat} {σ : PS} (hn : nx i σ = some none) : fforC ds n0 nx st b (n + 1) i σ = some (.next, σ) := by
  rw [fforC]
  rw [hn]
theorem nx_rng {a b : Int} {i : Nat} {σ : PS} (hs : Builtin.Range.small a b 1 = true) : nxOf (.rng a b 1) i σ = some (if a + i < b then some (.int (a + i)) else none) := by
  show (if (1 : Int) = 1 ∧ Builtin.Range.small a b 1 = true then some (if a + (i : Int) < b then some (PV.int (a + (i : Int))) else none) else none) = _
  rw [if_pos ⟨rfl, hs⟩]
theorem seqs_one {f : PS → Option (Fl × PS)} {σ σ₁ : PS} (h : f σ = some (.next, σ₁)) : seqs [f] σ = some (.next, σ₁) := by
  show fseq f _ σ = _
  unfold fseq
  rw [h]
  rfl
theorem fseq_next {f g : PS → Option (Fl × PS)} {σ σ₁ : PS} (h : f σ = some (.next, σ₁)) : fseq f g σ = g σ₁ := by unfold fseq; rw [h]
theorem fseq_ret {f g : PS → Option (Fl × PS)} {σ σ₁ : PS} {v : PV} (h : f σ = some (.ret v, σ₁)) : fseq f g σ = some (.ret v, σ₁) := by unfold fseq; rw [h]
theorem fcall_ret {d : FnD} {F : PS → Option (Fl × PS)} {vs : List PV} {σ σ' : PS} {v : PV} (hl : vs.length = d.pn.length) (h : F ⟨vs.map some ++ d.rn.map fun _ => none, σ.mem⟩ = some (.ret v, σ')) : fcall d F vs σ = some (v, ⟨σ.vars, σ'.mem⟩) := by
  unfold fcall
  rw [if_pos hl, h]
theorem natOf {f : Int} {n : Nat} (h0 : 0 ≤ f) (h1 : f < n) : ∃ k : Nat, k < n ∧ f = k := ⟨f.toNat, by omega, by omega⟩
theorem belowL_ints (n : Nat) : ∀ xs : List Int, belowL n (pvi xs) = true
  | [] => rfl
  | _ :: r => by
    show (true && belowL n (pvi r)) = true
    rw [belowL_ints n r]; rfl
theorem fenum_step {l a b n i : Nat} {f : PS → Option (Fl × PS)} {σ σ' : PS} {vs : List PV} {v : PV} (h1 : σ.mem[l]? = some (.list vs)) (h2 : vs[i]? = some v) (hb : f (fset b v (fset a (.int i) σ)) = some (.next, σ')) :
    fenum l a b f (n + 1) i σ = fenum l a b f n (i + 1) σ' := by
  rw [fenum, h1]; dsimp only; rw [h2]; dsimp only; rw [fb_eq hb]
theorem fenum_done {l a b n i : Nat} {f : PS → Option (Fl × PS)} {σ : PS} {vs : List PV} (h1 : σ.mem[l]? = some (.list vs)) (h2 : vs[i]? = none) : fenum l a b f (n + 1) i σ = some (.next, σ) := by
  rw [fenum, h1]; dsimp only; rw [h2]
noncomputable def stI (fl : PV) (k x : Option PV) (ns : List Int) (r : List PO) : PS := ⟨[some fl, some (.ref 2), k, x] ++ List.replicate 26 none, [.tab 77, .tab 84, .list (pvi ns)] ++ r⟩
noncomputable def stJ (ns : List Int) : PS := ⟨[none, some (.ref 2), none, none] ++ List.replicate 26 none, [.tab 77, .tab 84, .list (pvi ns)]⟩
theorem law0 (xs : List Int) : lawF_0 (st1 xs) = some (.next, stI (.flist (pvi xs)) none none [2, 4, 0, 1, 1, 0, 12, 1] []) := by kernel_rfl
theorem len8 : ∀ {l : List Int}, l.length = 8 → ∃ a b c d e f g h, l = [a, b, c, d, e, f, g, h]
  | [a, b, c, d, e, f, g, h], _ => ⟨a, b, c, d, e, f, g, h, rfl⟩
  | [], h => by simp at h
  | [_], h => by simp at h
  | [_, _], h => by simp at h
  | [_, _, _], h => by simp at h
  | [_, _, _, _], h => by simp at h
  | [_, _, _, _, _], h => by simp at h
  | [_, _, _, _, _, _], h => by simp at h
  | [_, _, _, _, _, _, _], h => by simp at h
  | _ :: _ :: _ :: _ :: _ :: _ :: _ :: _ :: _ :: _, h => by simp at h
theorem lcons {n : Nat} {l : List Nat} (h : l.length = n + 1) : ∃ a r, l = a :: r ∧ r.length = n := by
  induction l using listC with
  | nil => cases h
  | cons a r => exact ⟨a, r, rfl, Nat.succ.inj h⟩
theorem len6 {l : List Nat} (h : l.length = 6) : ∃ a b c d e f, l = [a, b, c, d, e, f] := by
  obtain ⟨a, l1, e1, h1⟩ := lcons h
  obtain ⟨b, l2, e2, h2⟩ := lcons h1
  obtain ⟨c, l3, e3, h3⟩ := lcons h2
  obtain ⟨d, l4, e4, h4⟩ := lcons h3
  obtain ⟨e, l5, e5, h5⟩ := lcons h4
  obtain ⟨f, l6, e6, h6⟩ := lcons h5
  rw [e1, e2, e3, e4, e5, e6, List.eq_nil_of_length_eq_zero h6]
  exact ⟨a, b, c, d, e, f, rfl⟩
theorem ltS {P : Nat → Prop} {n : Nat} (h : ∀ k, k < n → P k) (hn : P n) : ∀ k, k < n + 1 → P k := fun k hk => by
  rcases Nat.lt_succ_iff_lt_or_eq.mp hk with hk | rfl
  · exact h k hk
  · exact hn
theorem lt2C {motive : (p : Nat) → p < 2 → Prop} (h0 : ∀ h, motive 0 h) (h1 : ∀ h, motive 1 h) (p : Nat) (hp : p < 2) : motive p hp := ltS (P := fun p => ∀ h, motive p h) (ltS (fun _ h => absurd h (Nat.not_lt_zero _)) h0) h1 p hp hp
theorem lt6C {motive : (p : Nat) → p < 6 → Prop} (h0 : ∀ h, motive 0 h) (h1 : ∀ h, motive 1 h) (h2 : ∀ h, motive 2 h) (h3 : ∀ h, motive 3 h) (h4 : ∀ h, motive 4 h) (h5 : ∀ h, motive 5 h) (p : Nat) (hp : p < 6) : motive p hp := ltS (P := fun p => ∀ h, motive p h) (ltS (ltS (ltS (ltS (ltS (fun _ h => absurd h (Nat.not_lt_zero _)) h0) h1) h2) h3) h4) h5 p hp hp
theorem lt12C {motive : (p : Nat) → p < 12 → Prop} (h0 : ∀ h, motive 0 h) (h1 : ∀ h, motive 1 h) (h2 : ∀ h, motive 2 h) (h3 : ∀ h, motive 3 h) (h4 : ∀ h, motive 4 h) (h5 : ∀ h, motive 5 h) (h6 : ∀ h, motive 6 h) (h7 : ∀ h, motive 7 h) (h8 : ∀ h, motive 8 h) (h9 : ∀ h, motive 9 h) (h10 : ∀ h, motive 10 h) (h11 : ∀ h, motive 11 h) (p : Nat) (hp : p < 12) : motive p hp := ltS (P := fun p => ∀ h, motive p h) (ltS (ltS (ltS (ltS (ltS (ltS (ltS (ltS (ltS (ltS (ltS (fun _ h => absurd h (Nat.not_lt_zero _)) h0) h1) h2) h3) h4) h5) h6) h7) h8) h9) h10) h11 p hp hp
theorem cutI (fl : PV) (vs : List PV) (hf : belowV 4 fl = true) (hv : belowL 4 vs = true) (i x n0 n1 n2 n3 n4 n5 n6 n7 : Int) :
    ffinC [] 4 (stI fl (some (.int i)) (some (.int x)) [n0, n1, n2, n3, n4, n5, n6, n7] [.list vs]) = some (stI fl (some (.int i)) (some (.int x)) [n0, n1, n2, n3, n4, n5, n6, n7] [.list vs]) := by
  have h1 : (((stI fl (some (.int i)) (some (.int x)) [n0, n1, n2, n3, n4, n5, n6, n7] [.list vs]).mem.take 4).all (belowO 4)) = true := by
    refine Eq.trans (b := (belowL 4 vs && true)) (by kernel_rfl) (by rw [hv]; rfl)
  unfold ffinC
  rw [if_pos h1]
  refine congrArg some ?_
  refine Eq.trans (b := ⟨[if belowV 4 fl = true then some fl else none, some (.ref 2), some (.int i), some (.int x)] ++ List.replicate 26 none, (stI fl (some (.int i)) (some (.int x)) [n0, n1, n2, n3, n4, n5, n6, n7] [.list vs]).mem⟩) (by kernel_rfl) ?_
  rw [if_pos hf]
  rfl
theorem d8 : ∀ k : Nat, k < 8 → ((k : Int) = 0 ∨ (k : Int) = 1 ∨ (k : Int) = 2 ∨ (k : Int) = 3 ∨ (k : Int) = 4 ∨ (k : Int) = 5 ∨ (k : Int) = 6 ∨ (k : Int) = 7) := by decide
theorem l1b (fl : PV) (vs : List PV) (hf : belowV 4 fl = true) (hv : belowL 4 vs = true) (i : Nat) (x n0 n1 n2 n3 n4 n5 n6 n7 : Int) :
    ∃ ns', ns'.length = 8 ∧ fseq lawF_1b_0 (fun σ => some (Fl.next, σ)) (stI fl (some (.int i)) (some (.int x)) [n0, n1, n2, n3, n4, n5, n6, n7] [.list vs]) = some (.next, stI fl (some (.int i)) (some (.int x)) ns' [.list vs]) := by
  obtain ⟨k, hk, hkk⟩ : ∃ k : Int, (i : Int).fmod 8 = k ∧ (k = 0 ∨ k = 1 ∨ k = 2 ∨ k = 3 ∨ k = 4 ∨ k = 5 ∨ k = 6 ∨ k = 7) := by
    obtain ⟨j, hj, hk⟩ := natOf (n := 8) (Int.fmod_nonneg_of_pos (i : Int) (by decide)) (Int.fmod_lt_of_pos (i : Int) (by decide))
    exact ⟨j, hk, d8 j hj⟩
  refine ⟨[n0, n1, n2, n3, n4, n5, n6, n7].set k.toNat ([n0, n1, n2, n3, n4, n5, n6, n7].getD k.toNat 0 + x.fmod 1000000), by simp, ?_⟩
  have key : ∀ ns' : List Int, ns'.length = 8 → ns' = [n0, n1, n2, n3, n4, n5, n6, n7].set k.toNat ([n0, n1, n2, n3, n4, n5, n6, n7].getD k.toNat 0 + x.fmod 1000000) → lawF_1b_0 (stI fl (some (.int i)) (some (.int x)) [n0, n1, n2, n3, n4, n5, n6, n7] [.list vs]) = some (.next, stI fl (some (.int i)) (some (.int x)) ns' [.list vs]) := by
    intro ns' hl he
    refine ffin_next (σ₁ := stI fl (some (.int i)) (some (.int x)) ns' [.list vs]) ?_ ?_
    · refine (fb_eq (a := PV.ref 2) (σ := stI fl (some (.int i)) (some (.int x)) [n0, n1, n2, n3, n4, n5, n6, n7] [.list vs]) rfl).trans ?_
      refine (fb_eq (a := PV.int k) (σ := stI fl (some (.int i)) (some (.int x)) [n0, n1, n2, n3, n4, n5, n6, n7] [.list vs]) ?_).trans ?_
      · refine Eq.trans (b := some (PV.int ((i : Int).fmod 8), stI fl (some (.int i)) (some (.int x)) [n0, n1, n2, n3, n4, n5, n6, n7] [.list vs])) (by kernel_rfl) (by rw [hk])
      · subst he
        rcases hkk with rfl | rfl | rfl | rfl | rfl | rfl | rfl | rfl <;> kernel_rfl
    · obtain ⟨a0, a1, a2, a3, a4, a5, a6, a7, rfl⟩ := len8 hl
      exact cutI fl vs hf hv _ _ _ _ _ _ _ _ _ _
  unfold fseq
  rw [key _ (by simp) rfl]
theorem enumL (fl : PV) (xs : List Int) (hf : belowV 4 fl = true) : ∀ (m i n : Nat) (k x : Option PV) (ns : List Int), ns.length = 8 → i + m = xs.length →
    ∃ ns' k' x', ns'.length = 8 ∧ fenum 3 2 3 (fseq lawF_1b_0 fun σ => some (Fl.next, σ)) (n + m + 1) i (stI fl k x ns [.list (pvi xs)]) = some (.next, stI fl k' x' ns' [.list (pvi xs)]) := by
  intro m
  induction m with
  | zero => exact fun i n k x ns hn hi => ⟨ns, k, x, hn, fenum_done (vs := pvi xs) rfl (by simp [pvi]; omega)⟩
  | succ m ih =>
    intro i n k x ns hn hi
    obtain ⟨n0, n1, n2, n3, n4, n5, n6, n7, rfl⟩ := len8 hn
    have hlt : i < xs.length := by omega
    obtain ⟨ns', hl', hb⟩ := l1b fl (pvi xs) hf (belowL_ints 4 xs) i xs[i] n0 n1 n2 n3 n4 n5 n6 n7
    obtain ⟨ns2, k2, x2, h2, h3⟩ := ih (i + 1) n (some (.int i)) (some (.int xs[i])) ns' hl' (by omega)
    refine ⟨ns2, k2, x2, h2, ?_⟩
    rw [show n + (m + 1) + 1 = (n + m + 1) + 1 by omega]
    exact (fenum_step (vs := pvi xs) (v := .int xs[i]) rfl (by simp [pvi, hlt]) hb).trans h3
theorem fidx63 : ∀ n, n < 64 → fidx n none (some 63) = List.range n := by decide +kernel
theorem take63 (xs : List Int) (h : xs.length ≤ 63) : (fidx (pvi xs).length none (some 63)).filterMap ((pvi xs)[·]?) = pvi xs := by
  rw [fidx63 _ (by simp [pvi]; omega)]
  have := StrLaws.picks (pvi xs) (pvi xs).length 0 (by omega)
  simpa using this
theorem law1 (xs : List Int) (h : xs.length ≤ 63) : ∃ ns, ns.length = 8 ∧ lawF_1 (stI (.flist (pvi xs)) none none [2, 4, 0, 1, 1, 0, 12, 1] []) = some (.next, stJ ns) := by
  obtain ⟨ns', k', x', hl, he⟩ := enumL (.flist (pvi xs)) xs (belowL_ints 4 xs) xs.length 0 (199 - xs.length) none none [2, 4, 0, 1, 1, 0, 12, 1] rfl (by omega)
  rw [show 199 - xs.length + xs.length + 1 = 200 by omega] at he
  refine ⟨ns', hl, ffin_next (σ₁ := stI (.flist (pvi xs)) k' x' ns' [.list (pvi xs)]) ?_ ?_⟩
  · refine (fb_eq (a := PV.ref 3) (σ := stI (.flist (pvi xs)) none none [2, 4, 0, 1, 1, 0, 12, 1] [.list (pvi xs)]) ?_).trans he
    have : fsl (.flist (pvi xs)) none (some 63) none (stI (.flist (pvi xs)) none none [2, 4, 0, 1, 1, 0, 12, 1] []) = some (PV.ref 3, stI (.flist (pvi xs)) none none [2, 4, 0, 1, 1, 0, 12, 1] [.list (pvi xs)]) := by
      show (if (pvi xs).length ≤ 4096 then fnew (.list ((fidx (pvi xs).length none (some 63)).filterMap ((pvi xs)[·]?))) (stI (.flist (pvi xs)) none none [2, 4, 0, 1, 1, 0, 12, 1] []) else none) = _
      rw [if_pos (by simp [pvi]; omega), take63 xs h]
      rfl
    exact this
  · obtain ⟨a0, a1, a2, a3, a4, a5, a6, a7, rfl⟩ := len8 hl
    kernel_rfl
end Mine
end
section
open PySem PySem.W PyProof.Rows PySem.Calls
set_option maxHeartbeats 400000
namespace Mine
noncomputable def stR (L M : List Nat) (n : Option PV) (ns : List Int) (r : List PO) : PS := ⟨[none, some (.ref 2), none, none, some (.str L), some (.str M), n] ++ List.replicate 23 none, [.tab 77, .tab 84, .list (pvi ns)] ++ r⟩
theorem law2 (ns : List Int) : lawF_2 (stJ ns) = some (.next, stR base6 [] none ns []) := by kernel_rfl
theorem fgi_nat {L : List Nat} {j : Nat} {c : Nat} (hc : L[j]? = some c) (hl : L.length ≤ 64) (σ : PS) : fgi (.str L) (.int j) σ = some (.str [c], σ) := by
  have hj : j < L.length := (List.getElem?_eq_some_iff.mp hc).1
  have h1 : idxOk (j : Int) = true := by unfold idxOk; simp; omega
  have h2 : seqIndex? (j : Int) L.length = some j := by unfold seqIndex?; simp; omega
  show (if idxOk (j : Int) = true then (seqIndex? (j : Int) L.length).bind fun j => L[j]?.map fun c => (PV.str [c], σ) else none) = _
  rw [if_pos h1, h2, Option.bind_some, hc, Option.map_some]
theorem fLen_str {L : List Nat} (hl : L.length ≤ 64) (σ : PS) : fLenA [.str L] σ = some (.int (L.length : Nat), σ) := by
  show (if L.length ≤ 4096 then some (PV.int (L.length : Nat), σ) else none) = _
  rw [if_pos (by omega)]
noncomputable def subs (l : List Nat) : List (List Nat) := List.rec [[]] (fun a _ ih => ih ++ ih.map (a :: ·)) l
theorem repl_ok : ((subs base6).all fun L => L.all fun c => decide ((Txt.replace (mkS' L) (mkS' [c]) (Str.ofString "")).cps.toList = L.filter (· != c)) && ((mkS' [c] == Str.ofString "") == false)) = true := by decide +kernel
theorem subs_ok : ((subs base6).all fun L => L.all fun c => decide (L.filter (· != c) ∈ subs base6)) = true := by decide +kernel
theorem reach_sub : ∀ (t : Nat) (p : List Nat × List Nat), p ∈ reach t → p.2 ∈ subs base6 := by
  intro t
  induction t with
  | zero =>
    intro p hp
    rw [List.mem_singleton.mp hp]
    decide +kernel
  | succ t ih =>
    intro p hp
    obtain ⟨r, hr, h⟩ := List.mem_flatMap.mp hp
    obtain ⟨c, hc, rfl⟩ := List.mem_map.mp h
    exact of_decide_eq_true (List.all_eq_true.mp (List.all_eq_true.mp subs_ok _ (ih r hr)) c hc)
theorem reach_len : ∀ t, t < 7 → ((reach t).all fun p => decide (p.1.length = t) && decide (p.2.length = 6 - t)) = true := by decide +kernel
theorem cutR (L M : List Nat) (x : Int) (ns ms : List Int) : ffinC [] 4 (stR L M (some (.int x)) ns [.list (pvi ms)]) = some (stR L M (some (.int x)) ns [.list (pvi ms)]) := by
  unfold ffinC
  rw [if_pos (Eq.trans (b := (belowL 4 (pvi ns) && (belowL 4 (pvi ms) && true))) (by kernel_rfl) (by rw [belowL_ints, belowL_ints]; rfl))]
  kernel_rfl
theorem t3a (L M : List Nat) (x : Int) (ns ms : List Int) {j c : Nat} (hx : x.fmod (L.length : Nat) = (j : Int)) (hc : L[j]? = some c) (hl : L.length ≤ 64) (hm : M.length ≤ 64) :
    lawF_3b_0 (stR L M (some (.int x)) ns [.list (pvi ms)]) = some (.next, stR L (M ++ [c]) (some (.int x)) ns [.list (pvi ms)]) := by
  have h0 : 0 < L.length := by have := (List.getElem?_eq_some_iff.mp hc).1; omega
  refine ffin_next (σ₁ := stR L (M ++ [c]) (some (.int x)) ns [.list (pvi ms)]) ?_ (cutR _ _ _ _ _)
  refine (fb_eq (a := PV.str M) (σ := stR L M (some (.int x)) ns [.list (pvi ms)]) rfl).trans ?_
  refine (fb_eq (a := PV.str [c]) (σ := stR L M (some (.int x)) ns [.list (pvi ms)]) ?_).trans ?_
  · refine (fb_eq (a := PV.str L) (σ := stR L M (some (.int x)) ns [.list (pvi ms)]) rfl).trans ?_
    refine (fb_eq (a := PV.int (j : Int)) (σ := stR L M (some (.int x)) ns [.list (pvi ms)]) ?_).trans (fgi_nat hc hl _)
    refine (fb_eq (a := PV.int x) (σ := stR L M (some (.int x)) ns [.list (pvi ms)]) rfl).trans ?_
    refine (fb_eq (a := PV.int (L.length : Nat)) (σ := stR L M (some (.int x)) ns [.list (pvi ms)]) ?_).trans ?_
    · exact (fb_eq (a := [PV.str L]) (σ := stR L M (some (.int x)) ns [.list (pvi ms)]) rfl).trans (fLen_str hl _)
    · show (if 0 < ((L.length : Nat) : Int).natAbs then some (PV.int (x.fmod (L.length : Nat)), stR L M (some (.int x)) ns [.list (pvi ms)]) else none) = _
      rw [if_pos (by omega), hx]
  · refine (fb_eq (a := PV.str (M ++ [c])) (σ := stR L M (some (.int x)) ns [.list (pvi ms)]) ?_).trans rfl
    show (if (M ++ [c]).length ≤ 4096 then some (PV.str (M ++ [c]), stR L M (some (.int x)) ns [.list (pvi ms)]) else none) = _
    rw [if_pos (by simp; omega)]
theorem t3b (L M : List Nat) (x : Int) (ns : List Int) (r : List PO) {c : Nat} (hl : L.length ≤ 64) (hm : M.length ≤ 64) (hr : (Txt.replace (mkS' L) (mkS' [c]) (Str.ofString "")).cps.toList = L.filter (· != c)) (he : (mkS' [c] == Str.ofString "") = false) :
    lawF_3b_1 (stR L (M ++ [c]) (some (.int x)) ns r) = some (.next, stR (L.filter (· != c)) (M ++ [c]) (some (.int x)) ns r) := by
  refine (fb_eq (a := PV.str (L.filter (· != c))) (σ := stR L (M ++ [c]) (some (.int x)) ns r) ?_).trans rfl
  refine (fb_eq (a := PV.str L) (σ := stR L (M ++ [c]) (some (.int x)) ns r) rfl).trans ?_
  refine (fb_eq (a := PV.str (M ++ [c])) (σ := stR L (M ++ [c]) (some (.int x)) ns r) rfl).trans ?_
  refine (fb_eq (a := PV.int (-1)) (σ := stR L (M ++ [c]) (some (.int x)) ns r) rfl).trans ?_
  have h2 : seqIndex? (-1) (M ++ [c]).length = some M.length := by
    rw [seqIndex_neg (by omega) (by simp; omega)]; simp; omega
  unfold mReplC
  dsimp only
  rw [if_pos (by decide), h2, Option.bind_some]
  have h3 : (M ++ [c])[M.length]? = some c := by simp
  rw [h3, Option.bind_some]
  unfold mReplS
  dsimp only
  rw [if_pos ⟨by omega, by decide, he⟩, hr]
end Mine
end
section
open PySem PySem.W PyProof.Rows PySem.Calls
set_option maxHeartbeats 400000
namespace Mine
theorem reach_step {t : Nat} {M L : List Nat} {c : Nat} (h : (M, L) ∈ reach t) (hc : c ∈ L) : (M ++ [c], L.filter (· != c)) ∈ reach (t + 1) :=
  List.mem_flatMap.mpr ⟨(M, L), h, List.mem_map.mpr ⟨c, hc, rfl⟩⟩
theorem reach_lens {t : Nat} {M L : List Nat} (ht : t < 7) (h : (M, L) ∈ reach t) : M.length = t ∧ L.length = 6 - t := by
  have := List.all_eq_true.mp (reach_len t ht) _ h
  simpa using this
theorem reach_repl {t : Nat} {M L : List Nat} {c : Nat} (ht : t < 6) (h : (M, L) ∈ reach t) (hc : c ∈ L) : (Txt.replace (mkS' L) (mkS' [c]) (Str.ofString "")).cps.toList = L.filter (· != c) ∧ (mkS' [c] == Str.ofString "") = false := by
  have := List.all_eq_true.mp (List.all_eq_true.mp repl_ok _ (reach_sub t _ h)) c hc
  simp only [Bool.and_eq_true, decide_eq_true_eq] at this
  exact ⟨this.1, by simpa using this.2⟩
noncomputable def body3 : PS → Option (Fl × PS) := fseq lawF_3b_0 (fseq lawF_3b_1 fun σ => some (Fl.next, σ))
theorem turn3 {t : Nat} {M L : List Nat} (ht : t < 6) (h : (M, L) ∈ reach t) (x : Int) (ns ms : List Int) :
    ∃ M' L', (M', L') ∈ reach (t + 1) ∧ body3 (stR L M (some (.int x)) ns [.list (pvi ms)]) = some (.next, stR L' M' (some (.int x)) ns [.list (pvi ms)]) := by
  obtain ⟨h1, h2⟩ := reach_lens (by omega) h
  obtain ⟨j, hj, hx⟩ := natOf (n := L.length) (Int.fmod_nonneg_of_pos x (by omega)) (Int.fmod_lt_of_pos x (by omega))
  have hc : L[j]? = some L[j] := List.getElem?_eq_getElem hj
  have hm : L[j] ∈ L := List.getElem_mem hj
  obtain ⟨r1, r2⟩ := reach_repl ht h hm
  refine ⟨_, _, reach_step h hm, ?_⟩
  exact (fseq_next (t3a L M x ns ms hx hc (by omega) (by omega))).trans ((fseq_next (t3b L M x ns _ (by omega) (by omega) r1 r2)).trans rfl)
theorem loop3 (ns ms : List Int) (hms : ms.length = 6) : ∀ (m t : Nat) (M L : List Nat) (n : Option PV), t + m = 6 → (M, L) ∈ reach t →
    ∃ row n', (row, []) ∈ reach 6 ∧ fforC [] 4 (nxOf (.ref 3)) (fun v σ => some (fset 6 v σ)) body3 (193 + m + 1) t (stR L M n ns [.list (pvi ms)]) = some (.next, stR [] row n' ns [.list (pvi ms)]) := by
  intro m
  induction m with
  | zero =>
    intro t M L n hi h
    obtain rfl : t = 6 := by omega
    obtain ⟨h1, h2⟩ := reach_lens (by omega) h
    obtain rfl : L = [] := List.eq_nil_of_length_eq_zero (by omega)
    refine ⟨M, n, h, fforC_done ?_⟩
    show some ((pvi ms)[6]?) = some none
    rw [show (pvi ms)[6]? = none by simp [pvi, hms]]
  | succ m ih =>
    intro t M L n hi h
    have ht : t < ms.length := by omega
    obtain ⟨M', L', h1, h2⟩ := turn3 (by omega) h ms[t] ns ms
    obtain ⟨row, n', h3, h4⟩ := ih (t + 1) M' L' (some (.int ms[t])) (by omega) h1
    refine ⟨row, n', h3, Eq.trans ?_ h4⟩
    refine fforC_step (v := .int ms[t]) (σ₁ := stR L M (some (.int ms[t])) ns [.list (pvi ms)]) ?_ rfl h2 (cutR _ _ _ _ _)
    show some ((pvi ms)[t]?) = _
    rw [show (pvi ms)[t]? = some (.int ms[t]) by simp [pvi, ht]]
noncomputable def stS (row : List Nat) (ns : List Int) : PS := ⟨[none, some (.ref 2), none, none, none, some (.str row), none] ++ List.replicate 23 none, [.tab 77, .tab 84, .list (pvi ns)]⟩
theorem law3 (n0 n1 n2 n3 n4 n5 n6 n7 : Int) : ∃ row, (row, []) ∈ reach 6 ∧ lawF_3 (stR base6 [] none [n0, n1, n2, n3, n4, n5, n6, n7] []) = some (.next, stS row [n0, n1, n2, n3, n4, n5, n6, n7]) := by
  obtain ⟨row, n', h1, h2⟩ := loop3 [n0, n1, n2, n3, n4, n5, n6, n7] [n0, n1, n2, n3, n4, n5] rfl 6 0 [] base6 none rfl (.head _)
  refine ⟨row, h1, ffin_next (σ₁ := stR [] row n' [n0, n1, n2, n3, n4, n5, n6, n7] [.list (pvi [n0, n1, n2, n3, n4, n5])]) ?_ (by kernel_rfl)⟩
  refine (fb_eq (a := PV.ref 3) (σ := stR base6 [] none [n0, n1, n2, n3, n4, n5, n6, n7] [.list (pvi [n0, n1, n2, n3, n4, n5])]) (by kernel_rfl)).trans ?_
  exact h2
end Mine
end
section
open PySem PySem.W PyProof.Rows PySem.Calls
set_option maxHeartbeats 400000
namespace Mine
noncomputable def sgL : List (List Nat × PV) := [([109, 97], .int 13187), ([107, 97], .int 13188), ([107, 98], .int 13189), ([109, 98], .int 13190), ([107, 109], .int 13262), ([112, 97], .int 13184), ([112, 102], .int 13194)]
noncomputable def stM (ns : List Int) : List PO := [.tab 77, .tab 84, .list (pvi ns), .dict sgL]
noncomputable def stT (w : List Nat) (n : Int) (T : List Nat) (p : Nat) (pr bl : Option PV) (ns : List Int) : PS := ⟨[some (.str w), some (.int n), some (.ref 3), some (.str T), some (.int p), pr, bl], stM ns⟩
noncomputable def blkL : List Int := [0, 1, 2, 4, 7, 8, 9, 10, 11, 12]
noncomputable def signI (c r : Nat) : Int := if r < 2 then (c : Int) - 32 * r else 119711 + 52 * blkL.getD (r - 2) 0 + c
noncomputable def pairs7 : List (Nat × List Nat) := [(13187, [109, 97]), (13188, [107, 97]), (13189, [107, 98]), (13190, [109, 98]), (13262, [107, 109]), (13184, [112, 97]), (13194, [112, 102])]
noncomputable def pairsT : List (Nat × List Nat) := pairs7 ++ base6.flatMap fun c => (List.range 12).map fun r => ((signI c r).toNat, [c])
noncomputable def blanks11 : List Nat := [173, 847, 6150, 6155, 6156, 6157, 8203, 8204, 8205, 8288, 65279]
noncomputable def blankOf (f : Nat) : Nat := if f < 11 then blanks11.getD f 0 else 65013 + f
noncomputable def b1N : List Nat := (List.range 27).map blankOf
theorem mod_eq {n k f : Int} (h : n.fmod k = f) (hk : 0 < k.natAbs) (σ : PS) : oMod (.int n) (.int k) σ = some (.int f, σ) := by
  show (if 0 < k.natAbs then some (PV.int (n.fmod k), σ) else none) = _
  rw [if_pos hk, h]
theorem chr_ok {i : Int} (h0 : 0 ≤ i) (h1 : i ≤ 0x10FFFF) (σ : PS) : cChr [.int i] σ = some (.str [i.toNat], σ) := by
  show (if 0 ≤ i ∧ i ≤ 0x10FFFF then some (PV.str [i.toNat], σ) else none) = _
  rw [if_pos ⟨h0, h1⟩]
theorem mul_l {a b : Int} (h : Builtin.Int.intBits a ≤ 64) (σ : PS) : oMulL (.int a) (.int b) σ = some (.int (a * b), σ) := by
  show (if Builtin.Int.intBits b ≤ 64 ∨ Builtin.Int.intBits a ≤ 64 ∨ Builtin.Int.intBits a + Builtin.Int.intBits b ≤ 1000000 then some (PV.int (a * b), σ) else none) = _
  rw [if_pos (.inr (.inl h))]
theorem addS {A B : List Nat} (h : A.length + B.length ≤ 4096) (σ : PS) : oIAdd (.str A) (.str B) σ = some (.str (A ++ B), σ) := by
  show (if (A ++ B).length ≤ 4096 then some (PV.str (A ++ B), σ) else none) = _
  rw [if_pos (by simpa using h)]
theorem cutT (w : List Nat) (n : Int) (T : List Nat) (p : Nat) (pr : List Nat) (bl : Option Int) (ns : List Int) : ffinC [] 4 (stT w n T p (some (.str pr)) (bl.map .int) ns) = some (stT w n T p (some (.str pr)) (bl.map .int) ns) := by
  unfold ffinC
  rw [if_pos (Eq.trans (b := (belowL 4 (pvi ns) && (true))) (by kernel_rfl) (by rw [belowL_ints]; rfl))]
  cases bl <;> kernel_rfl
theorem ty2_0 (n : Int) (T : List Nat) (ns : List Int) {w : List Nat} {p : Nat} (hw : w.length = 6) (hp : p < 6) : typF_2b_0 (stT w n T p none none ns) = some (.next, stT w n T p (some (.str ((w.drop p).take 2))) none ns) := by
  obtain ⟨a, b, c, d, e, f, rfl⟩ := len6 hw
  induction p, hp using lt6C <;> kernel_rfl
theorem lookup_mem {k : List Nat} {v : PV} : ∀ {l : List (List Nat × PV)}, l.lookup k = some v → (k, v) ∈ l
  | [], h => by cases h
  | (a, b) :: l, h => by
    rw [List.lookup_cons] at h
    split at h
    · rename_i hk
      have := eq_of_beq hk
      cases h; subst this; exact .head _
    · exact .tail _ (lookup_mem h)
section
variable (w : List Nat) (n : Int) (T : List Nat) (p : Nat) (pr : List Nat) (bl : Option Int) (ns : List Int)
theorem ty2_1t {s : Nat} (hs : sgL.lookup pr = some (.int s)) (hs' : s ≤ 0x10FFFF) (hT : T.length ≤ 64) : fseq typF_2b_1t_0 (fseq typF_2b_1t_1 fun σ => some (.next, σ)) (stT w n T p (some (.str pr)) none ns) = some (.next, stT w n (T ++ [s]) (p + 1) (some (.str pr)) none ns) := by
  refine (fseq_next (σ₁ := stT w n (T ++ [s]) p (some (.str pr)) none ns) ?_).trans ?_
  · refine ffin_next (σ₁ := stT w n (T ++ [s]) p (some (.str pr)) none ns) ?_ (cutT w n _ p pr none ns)
    refine (fb_eq (a := PV.str T) (σ := stT w n T p (some (.str pr)) none ns) rfl).trans ?_
    refine (fb_eq (a := PV.str [s]) (σ := stT w n T p (some (.str pr)) none ns) ?_).trans ?_
    · refine (fb_eq (a := [PV.int s]) (σ := stT w n T p (some (.str pr)) none ns) ?_).trans ?_
      · refine (fb_eq (a := PV.int s) (σ := stT w n T p (some (.str pr)) none ns) ?_).trans rfl
        refine Eq.trans (b := (sgL.lookup pr).map fun v => (v, stT w n T p (some (.str pr)) none ns)) (by kernel_rfl) (by rw [hs]; rfl)
      · exact chr_ok (i := s) (by omega) (by omega) _
    · exact (fb_eq (addS (by simp; omega) _)).trans rfl
  · refine (fseq_next (σ₁ := stT w n (T ++ [s]) (p + 1) (some (.str pr)) none ns) ?_).trans rfl
    exact ffin_next (σ₁ := stT w n (T ++ [s]) (p + 1) (some (.str pr)) none ns) (by kernel_rfl) (cutT w n _ _ pr none ns)
theorem ty2_1s {r : Nat} {c : Nat} (hr : (n.fdiv 2).fmod 12 = (r : Int)) (hc : w[p]? = some c) (hw : w.length ≤ 64) (hr2 : r < 2) (h0 : 0 ≤ signI c r) (h1 : signI c r ≤ 0x10FFFF) (hT : T.length ≤ 64) :
    typF_2b_1e_0 (stT w n T p (some (.str pr)) none ns) = some (.next, stT w n (T ++ [(signI c r).toNat]) p (some (.str pr)) none ns) := by
  have e : signI c r = (c : Int) - 32 * r := if_pos hr2
  refine ffin_next (σ₁ := stT w n (T ++ [(signI c r).toNat]) p (some (.str pr)) none ns) ?_ (cutT w n _ p pr none ns)
  refine (fb_eq (a := true) (σ := stT w n T p (some (.str pr)) none ns) ?_).trans ?_
  · refine (fb_eq (a := PV.int r) (σ := stT w n T p (some (.str pr)) none ns) ?_).trans ?_
    · refine (fb_eq (a := PV.int (n.fdiv 2)) (σ := stT w n T p (some (.str pr)) none ns) (by kernel_rfl)).trans ?_
      exact mod_eq hr (by decide) _
    · induction r, hr2 using lt2C <;> kernel_rfl
  · refine (fseq_next (σ₁ := stT w n (T ++ [(signI c r).toNat]) p (some (.str pr)) none ns) ?_).trans rfl
    refine ffin_next (σ₁ := stT w n (T ++ [(signI c r).toNat]) p (some (.str pr)) none ns) ?_ (cutT w n _ p pr none ns)
    refine (fb_eq (a := PV.str T) (σ := stT w n T p (some (.str pr)) none ns) rfl).trans ?_
    refine (fb_eq (a := PV.str [(signI c r).toNat]) (σ := stT w n T p (some (.str pr)) none ns) ?_).trans ?_
    · refine (fb_eq (a := [PV.int (signI c r)]) (σ := stT w n T p (some (.str pr)) none ns) ?_).trans (chr_ok h0 h1 _)
      refine (fb_eq (a := PV.int (signI c r)) (σ := stT w n T p (some (.str pr)) none ns) ?_).trans rfl
      rw [e]
      refine (fb_eq (a := PV.int c) (σ := stT w n T p (some (.str pr)) none ns) ?_).trans ?_
      · refine (fb_eq (a := [PV.str [c]]) (σ := stT w n T p (some (.str pr)) none ns) ?_).trans rfl
        refine (fb_eq (a := PV.str [c]) (σ := stT w n T p (some (.str pr)) none ns) ?_).trans rfl
        exact fgi_nat hc hw _
      · refine (fb_eq (a := PV.int (32 * r)) (σ := stT w n T p (some (.str pr)) none ns) ?_).trans rfl
        refine (fb_eq (a := PV.int 32) (σ := stT w n T p (some (.str pr)) none ns) rfl).trans ?_
        refine (fb_eq (a := PV.int r) (σ := stT w n T p (some (.str pr)) none ns) ?_).trans ?_
        · refine (fb_eq (a := PV.int (n.fdiv 2)) (σ := stT w n T p (some (.str pr)) none ns) (by kernel_rfl)).trans ?_
          exact mod_eq hr (by decide) _
        · induction r, hr2 using lt2C <;> kernel_rfl
    · exact (fb_eq (addS (by simp; omega) _)).trans rfl
theorem ty2_1b {r : Nat} {c : Nat} (hr : (n.fdiv 2).fmod 12 = (r : Int)) (hc : w[p]? = some c) (hw : w.length ≤ 64) (hr2 : 2 ≤ r) (hr3 : r < 12) (h0 : 0 ≤ signI c r) (h1 : signI c r ≤ 0x10FFFF) (hT : T.length ≤ 64) :
    typF_2b_1e_0 (stT w n T p (some (.str pr)) none ns) = some (.next, stT w n (T ++ [(signI c r).toNat]) p (some (.str pr)) (some (.int (blkL.getD (r - 2) 0))) ns) := by
  have e : signI c r = 119711 + 52 * blkL.getD (r - 2) 0 + c := if_neg (by omega)
  refine ffin_next (σ₁ := stT w n (T ++ [(signI c r).toNat]) p (some (.str pr)) (some (.int (blkL.getD (r - 2) 0))) ns) ?_ (cutT w n _ p pr (some (blkL.getD (r - 2) 0)) ns)
  refine (fb_eq (a := false) (σ := stT w n T p (some (.str pr)) none ns) ?_).trans ?_
  · refine (fb_eq (a := PV.int r) (σ := stT w n T p (some (.str pr)) none ns) ?_).trans ?_
    · refine (fb_eq (a := PV.int (n.fdiv 2)) (σ := stT w n T p (some (.str pr)) none ns) (by kernel_rfl)).trans ?_
      exact mod_eq hr (by decide) _
    · refine (fb_eq (a := PV.int 2) (σ := stT w n T p (some (.str pr)) none ns) rfl).trans ?_
      refine Eq.trans (b := some (decide ((r : Int) < 2), stT w n T p (some (.str pr)) none ns)) (by kernel_rfl) ?_
      rw [decide_eq_false (by omega)]
  · refine (fseq_next (σ₁ := stT w n T p (some (.str pr)) (some (.int (blkL.getD (r - 2) 0))) ns) ?_).trans ?_
    · refine (fb_eq (a := PV.int (blkL.getD (r - 2) 0)) (σ := stT w n T p (some (.str pr)) none ns) ?_).trans rfl
      refine (fb_eq (a := PV.tup [.int 0, .int 1, .int 2, .int 4, .int 7, .int 8, .int 9, .int 10, .int 11, .int 12]) (σ := stT w n T p (some (.str pr)) none ns) (by kernel_rfl)).trans ?_
      refine (fb_eq (a := PV.int ((r : Int) - 2)) (σ := stT w n T p (some (.str pr)) none ns) ?_).trans ?_
      · refine (fb_eq (a := PV.int r) (σ := stT w n T p (some (.str pr)) none ns) ?_).trans (by kernel_rfl)
        refine (fb_eq (a := PV.int (n.fdiv 2)) (σ := stT w n T p (some (.str pr)) none ns) (by kernel_rfl)).trans ?_
        exact mod_eq hr (by decide) _
      · clear hr e h0 h1
        induction r, hr3 using lt12C <;> first | exact absurd hr2 (by decide) | kernel_rfl
    · generalize blkL.getD (r - 2) 0 = bl at e
      refine (fseq_next (σ₁ := stT w n (T ++ [(signI c r).toNat]) p (some (.str pr)) (some (.int bl)) ns) ?_).trans rfl
      refine ffin_next (σ₁ := stT w n (T ++ [(signI c r).toNat]) p (some (.str pr)) (some (.int bl)) ns) ?_ (cutT w n _ p pr (some bl) ns)
      refine (fb_eq (a := PV.str T) (σ := stT w n T p (some (.str pr)) (some (.int bl)) ns) rfl).trans ?_
      refine (fb_eq (a := PV.str [(signI c r).toNat]) (σ := stT w n T p (some (.str pr)) (some (.int bl)) ns) ?_).trans ?_
      · refine (fb_eq (a := [PV.int (signI c r)]) (σ := stT w n T p (some (.str pr)) (some (.int bl)) ns) ?_).trans (chr_ok h0 h1 _)
        refine (fb_eq (a := PV.int (signI c r)) (σ := stT w n T p (some (.str pr)) (some (.int bl)) ns) ?_).trans rfl
        rw [e]
        refine (fb_eq (a := PV.int (119711 + 52 * bl)) (σ := stT w n T p (some (.str pr)) (some (.int bl)) ns) ?_).trans ?_
        · refine (fb_eq (a := PV.int 119711) (σ := stT w n T p (some (.str pr)) (some (.int bl)) ns) rfl).trans ?_
          refine (fb_eq (a := PV.int (52 * bl)) (σ := stT w n T p (some (.str pr)) (some (.int bl)) ns) ?_).trans rfl
          refine (fb_eq (a := PV.int 52) (σ := stT w n T p (some (.str pr)) (some (.int bl)) ns) rfl).trans ?_
          refine (fb_eq (a := PV.int bl) (σ := stT w n T p (some (.str pr)) (some (.int bl)) ns) rfl).trans ?_
          exact mul_l (by decide) _
        refine (fb_eq (a := PV.int c) (σ := stT w n T p (some (.str pr)) (some (.int bl)) ns) ?_).trans rfl
        refine (fb_eq (a := [PV.str [c]]) (σ := stT w n T p (some (.str pr)) (some (.int bl)) ns) ?_).trans rfl
        refine (fb_eq (a := PV.str [c]) (σ := stT w n T p (some (.str pr)) (some (.int bl)) ns) ?_).trans rfl
        exact fgi_nat hc hw _
      · exact (fb_eq (addS (by simp; omega) _)).trans rfl
end
theorem sg_mem {pr : List Nat} {v : PV} (h : sgL.lookup pr = some v) : ∃ s, v = .int (s : Nat) ∧ (s, pr) ∈ pairs7 := by
  have := lookup_mem h
  simp only [sgL, List.mem_cons, Prod.mk.injEq, List.not_mem_nil, or_false] at this
  rcases this with ⟨rfl, rfl⟩ | ⟨rfl, rfl⟩ | ⟨rfl, rfl⟩ | ⟨rfl, rfl⟩ | ⟨rfl, rfl⟩ | ⟨rfl, rfl⟩ | ⟨rfl, rfl⟩
  · exact ⟨13187, rfl, by decide⟩
  · exact ⟨13188, rfl, by decide⟩
  · exact ⟨13189, rfl, by decide⟩
  · exact ⟨13190, rfl, by decide⟩
  · exact ⟨13262, rfl, by decide⟩
  · exact ⟨13184, rfl, by decide⟩
  · exact ⟨13194, rfl, by decide⟩
theorem p7 : ∀ q ∈ pairs7, q.1 ≤ 0x10FFFF ∧ q.2.length = 2 := by decide
theorem sgn : ∀ c ∈ base6, ∀ r < 12, 0 ≤ signI c r ∧ signI c r ≤ 0x10FFFF := by decide
theorem sgn_mem {c r : Nat} (hc : c ∈ base6) (hr : r < 12) : ((signI c r).toNat, [c]) ∈ pairsT :=
  List.mem_append_right _ (List.mem_flatMap.mpr ⟨c, hc, List.mem_map.mpr ⟨r, List.mem_range.mpr hr, rfl⟩⟩)
section
variable (w : List Nat) (n : Int) (T : List Nat) (p : Nat) (pr : List Nat) (ns : List Int)
theorem ty2_1 {c : Nat} (hpr : pr = (w.drop p).take 2) (hc : w[p]? = some c) (hb : c ∈ base6) (hw : w.length ≤ 64) (hT : T.length ≤ 64) :
    ∃ s m bl, (s, m) ∈ pairsT ∧ m = (w.drop p).take m.length ∧ 1 ≤ m.length ∧ typF_2b_1 (stT w n T p (some (.str pr)) none ns) = some (.next, stT w n (T ++ [s]) (p + m.length - 1) (some (.str pr)) (Option.map PV.int bl) ns) := by
  have hlow : (∃ s m bl, (s, m) ∈ pairsT ∧ m = (w.drop p).take m.length ∧ 1 ≤ m.length ∧ fseq typF_2b_1e_0 (fun σ => some (.next, σ)) (stT w n T p (some (.str pr)) none ns) = some (.next, stT w n (T ++ [s]) (p + m.length - 1) (some (.str pr)) (Option.map PV.int bl) ns)) := by
    obtain ⟨r, hr, hx⟩ := natOf (n := 12) (Int.fmod_nonneg_of_pos (n.fdiv 2) (by omega)) (Int.fmod_lt_of_pos (n.fdiv 2) (by omega))
    obtain ⟨h0, h1⟩ := sgn c hb r hr
    have hm : [c] = (w.drop p).take 1 := by
      obtain ⟨hp, hcc⟩ := List.getElem?_eq_some_iff.mp hc
      rw [List.drop_eq_getElem_cons hp, hcc]; rfl
    by_cases h2 : r < 2
    · exact ⟨_, _, none, sgn_mem hb hr, hm, Nat.le_refl 1, (fseq_next (ty2_1s w n T p pr ns hx hc hw h2 h0 h1 hT)).trans rfl⟩
    · exact ⟨_, _, some (blkL.getD (r - 2) 0), sgn_mem hb hr, hm, Nat.le_refl 1, (fseq_next (ty2_1b w n T p pr ns hx hc hw (by omega) hr h0 h1 hT)).trans rfl⟩
  obtain ⟨e, he⟩ : ∃ e, n.fmod 2 = e := ⟨_, rfl⟩
  have h1 : fbf (fun σ => fbf (fvar 1) σ fun a σ => fbf (fun σ => some (PV.int 2, σ)) σ fun b σ => oMod a b σ) (stT w n T p (some (.str pr)) none ns) (fun a σ => fbf (fun σ => some (PV.int 0, σ)) σ fun b σ => fb (oEqA a b σ) fTruth) = some (e == 0, stT w n T p (some (.str pr)) none ns) := by
    refine (fb_eq (a := PV.int e) (σ := stT w n T p (some (.str pr)) none ns) ?_).trans (by kernel_rfl)
    exact (fb_eq (a := PV.int n) (σ := stT w n T p (some (.str pr)) none ns) rfl).trans (mod_eq he (by decide) _)
  by_cases hev : e = 0
  · subst hev
    cases hl : sgL.lookup pr with
    | none =>
      obtain ⟨s, m, bl, a1, a2, a3, a4⟩ := hlow
      refine ⟨s, m, bl, a1, a2, a3, ?_⟩
      refine ffin_next (σ₁ := stT w n (T ++ [s]) (p + m.length - 1) (some (.str pr)) (Option.map PV.int bl) ns) ?_ (cutT w n _ _ pr bl ns)
      refine (fb_eq (a := false) (σ := stT w n T p (some (.str pr)) none ns) ?_).trans a4
      refine (fb_eq (a := true) (σ := stT w n T p (some (.str pr)) none ns) h1).trans ?_
      refine (fb_eq (a := false) (σ := stT w n T p (some (.str pr)) none ns) ?_).trans rfl
      refine Eq.trans (b := some ((sgL.lookup pr).isSome, stT w n T p (some (.str pr)) none ns)) (by kernel_rfl) (by rw [hl]; rfl)
    | some v =>
      obtain ⟨s, rfl, hs⟩ := sg_mem hl
      obtain ⟨b1, b2⟩ := p7 _ hs
      refine ⟨s, pr, none, List.mem_append_left _ hs, ?_, by dsimp only at b2; omega, ?_⟩
      · dsimp only at b2; rw [b2]; exact hpr
      refine ffin_next (σ₁ := stT w n (T ++ [s]) (p + pr.length - 1) (some (.str pr)) none ns) ?_ (cutT w n _ _ pr none ns)
      refine (fb_eq (a := true) (σ := stT w n T p (some (.str pr)) none ns) ?_).trans ?_
      · refine (fb_eq (a := true) (σ := stT w n T p (some (.str pr)) none ns) h1).trans ?_
        refine (fb_eq (a := true) (σ := stT w n T p (some (.str pr)) none ns) ?_).trans rfl
        refine Eq.trans (b := some ((sgL.lookup pr).isSome, stT w n T p (some (.str pr)) none ns)) (by kernel_rfl) (by rw [hl]; rfl)
      · dsimp only at b2; rw [b2]
        exact ty2_1t w n T p pr ns hl b1 hT
  · obtain ⟨s, m, bl, a1, a2, a3, a4⟩ := hlow
    refine ⟨s, m, bl, a1, a2, a3, ?_⟩
    refine ffin_next (σ₁ := stT w n (T ++ [s]) (p + m.length - 1) (some (.str pr)) (Option.map PV.int bl) ns) ?_ (cutT w n _ _ pr bl ns)
    refine (fb_eq (a := false) (σ := stT w n T p (some (.str pr)) none ns) ?_).trans a4
    exact (fb_eq (a := false) (σ := stT w n T p (some (.str pr)) none ns) (h1.trans (by rw [show (e == 0) = false by simpa using hev]))).trans rfl
end
end Mine
end
section
open PySem PySem.W PyProof.Rows PySem.Calls
set_option maxHeartbeats 400000
namespace Mine
section
variable (w : List Nat) (n : Int) (T : List Nat) (p : Nat) (pr : List Nat) (bl : Option Int) (ns : List Int)
theorem ty2_2a {f : Nat} (hf : n.fmod 27 = (f : Int)) (h2 : f < 11) (hT : T.length ≤ 64) : typF_2b_2 (stT w n T p (some (.str pr)) (bl.map .int) ns) = some (.next, stT w n (T ++ [blankOf f]) p (some (.str pr)) (bl.map .int) ns) := by
  refine ffin_next (σ₁ := stT w n (T ++ [blankOf f]) p (some (.str pr)) (bl.map .int) ns) ?_ (cutT w n _ p pr bl ns)
  refine (fb_eq (a := true) (σ := stT w n T p (some (.str pr)) (bl.map .int) ns) ?_).trans ?_
  · refine (fb_eq (a := PV.int f) (σ := stT w n T p (some (.str pr)) (bl.map .int) ns) ?_).trans ?_
    · exact (fb_eq (a := PV.int n) (σ := stT w n T p (some (.str pr)) (bl.map .int) ns) rfl).trans (mod_eq hf (by decide) _)
    · refine (fb_eq (a := PV.int 11) (σ := stT w n T p (some (.str pr)) (bl.map .int) ns) rfl).trans ?_
      refine Eq.trans (b := some (decide ((f : Int) < 11), stT w n T p (some (.str pr)) (bl.map .int) ns)) (by kernel_rfl) ?_
      rw [decide_eq_true (by omega)]
  · refine (fseq_next (σ₁ := stT w n (T ++ [blankOf f]) p (some (.str pr)) (bl.map .int) ns) ?_).trans rfl
    refine ffin_next (σ₁ := stT w n (T ++ [blankOf f]) p (some (.str pr)) (bl.map .int) ns) ?_ (cutT w n _ p pr bl ns)
    refine (fb_eq (a := PV.str T) (σ := stT w n T p (some (.str pr)) (bl.map .int) ns) rfl).trans ?_
    refine (fb_eq (a := PV.str [blankOf f]) (σ := stT w n T p (some (.str pr)) (bl.map .int) ns) ?_).trans ?_
    · refine (fb_eq (a := [PV.int (blankOf f)]) (σ := stT w n T p (some (.str pr)) (bl.map .int) ns) ?_).trans ?_
      · refine (fb_eq (a := PV.int (blankOf f)) (σ := stT w n T p (some (.str pr)) (bl.map .int) ns) ?_).trans rfl
        refine (fb_eq (a := PV.tup [.int 173, .int 847, .int 6150, .int 6155, .int 6156, .int 6157, .int 8203, .int 8204, .int 8205, .int 8288, .int 65279]) (σ := stT w n T p (some (.str pr)) (bl.map .int) ns) (by kernel_rfl)).trans ?_
        refine (fb_eq (a := PV.int f) (σ := stT w n T p (some (.str pr)) (bl.map .int) ns) ?_).trans ?_
        · exact (fb_eq (a := PV.int n) (σ := stT w n T p (some (.str pr)) (bl.map .int) ns) rfl).trans (mod_eq hf (by decide) _)
        · have h12 := Nat.lt_succ_of_lt h2
          clear hf
          induction f, h12 using lt12C <;> first | exact absurd h2 (by decide) | kernel_rfl
      · have : blankOf f ≤ 0x10FFFF := (show ∀ f < 11, blankOf f ≤ 0x10FFFF by decide) f h2
        exact chr_ok (i := blankOf f) (by omega) (by omega) _
    · exact (fb_eq (addS (by simp; omega) _)).trans rfl
theorem ty2_2b {f : Nat} (hf : n.fmod 27 = (f : Int)) (h2 : 11 ≤ f) (h3 : f < 27) (hT : T.length ≤ 64) : typF_2b_2 (stT w n T p (some (.str pr)) (bl.map .int) ns) = some (.next, stT w n (T ++ [blankOf f]) p (some (.str pr)) (bl.map .int) ns) := by
  have hb : blankOf f = 65013 + f := if_neg (by omega)
  refine ffin_next (σ₁ := stT w n (T ++ [blankOf f]) p (some (.str pr)) (bl.map .int) ns) ?_ (cutT w n _ p pr bl ns)
  refine (fb_eq (a := false) (σ := stT w n T p (some (.str pr)) (bl.map .int) ns) ?_).trans ?_
  · refine (fb_eq (a := PV.int f) (σ := stT w n T p (some (.str pr)) (bl.map .int) ns) ?_).trans ?_
    · exact (fb_eq (a := PV.int n) (σ := stT w n T p (some (.str pr)) (bl.map .int) ns) rfl).trans (mod_eq hf (by decide) _)
    · refine (fb_eq (a := PV.int 11) (σ := stT w n T p (some (.str pr)) (bl.map .int) ns) rfl).trans ?_
      refine Eq.trans (b := some (decide ((f : Int) < 11), stT w n T p (some (.str pr)) (bl.map .int) ns)) (by kernel_rfl) ?_
      rw [decide_eq_false (by omega)]
  · refine (fseq_next (σ₁ := stT w n (T ++ [blankOf f]) p (some (.str pr)) (bl.map .int) ns) ?_).trans rfl
    refine ffin_next (σ₁ := stT w n (T ++ [blankOf f]) p (some (.str pr)) (bl.map .int) ns) ?_ (cutT w n _ p pr bl ns)
    refine (fb_eq (a := PV.str T) (σ := stT w n T p (some (.str pr)) (bl.map .int) ns) rfl).trans ?_
    refine (fb_eq (a := PV.str [blankOf f]) (σ := stT w n T p (some (.str pr)) (bl.map .int) ns) ?_).trans ?_
    · rw [hb]
      refine (fb_eq (a := [PV.int ((65013 + f : Nat) : Int)]) (σ := stT w n T p (some (.str pr)) (bl.map .int) ns) ?_).trans (chr_ok (i := ((65013 + f : Nat) : Int)) (by omega) (by omega) _)
      refine (fb_eq (a := PV.int ((65013 + f : Nat) : Int)) (σ := stT w n T p (some (.str pr)) (bl.map .int) ns) ?_).trans rfl
      refine (fb_eq (a := PV.int 65013) (σ := stT w n T p (some (.str pr)) (bl.map .int) ns) rfl).trans ?_
      refine (fb_eq (a := PV.int f) (σ := stT w n T p (some (.str pr)) (bl.map .int) ns) ?_).trans rfl
      exact (fb_eq (a := PV.int n) (σ := stT w n T p (some (.str pr)) (bl.map .int) ns) rfl).trans (mod_eq hf (by decide) _)
    · exact (fb_eq (addS (by simp; omega) _)).trans rfl
theorem ty2_2 (hT : T.length ≤ 64) : ∃ b, b ∈ b1N ∧ typF_2b_2 (stT w n T p (some (.str pr)) (bl.map .int) ns) = some (.next, stT w n (T ++ [b]) p (some (.str pr)) (bl.map .int) ns) := by
  obtain ⟨f, hf, hx⟩ := natOf (n := 27) (Int.fmod_nonneg_of_pos n (by omega)) (Int.fmod_lt_of_pos n (by omega))
  refine ⟨blankOf f, List.mem_map.mpr ⟨f, List.mem_range.mpr hf, rfl⟩, ?_⟩
  by_cases h2 : f < 11
  · exact ty2_2a w n T p pr bl ns hx h2 hT
  · exact ty2_2b w n T p pr bl ns hx (by omega) hf hT
theorem ty2_3 : typF_2b_3 (stT w n T p (some (.str pr)) (bl.map .int) ns) = some (.next, stT w n T (p + 1) (some (.str pr)) (bl.map .int) ns) :=
  ffin_next (σ₁ := stT w n T (p + 1) (some (.str pr)) (bl.map .int) ns) (by kernel_rfl) (cutT w n _ _ pr bl ns)
theorem ty2_4 : ∃ n', typF_2b_4 (stT w n T p (some (.str pr)) (bl.map .int) ns) = some (.next, stT w n' T p (some (.str pr)) (bl.map .int) ns) := by
  refine ⟨n.fdiv 2 + 31 * p, ?_⟩
  refine (fb_eq (a := PV.int (n.fdiv 2 + 31 * p)) (σ := stT w n T p (some (.str pr)) (bl.map .int) ns) ?_).trans rfl
  refine (fb_eq (a := PV.int (n.fdiv 2)) (σ := stT w n T p (some (.str pr)) (bl.map .int) ns) (by kernel_rfl)).trans ?_
  refine (fb_eq (a := PV.int (31 * p)) (σ := stT w n T p (some (.str pr)) (bl.map .int) ns) ?_).trans rfl
  refine (fb_eq (a := PV.int 31) (σ := stT w n T p (some (.str pr)) (bl.map .int) ns) rfl).trans ?_
  refine (fb_eq (a := PV.int p) (σ := stT w n T p (some (.str pr)) (bl.map .int) ns) rfl).trans ?_
  exact mul_l (by decide) _
end
noncomputable def bodyT : PS → Option (Fl × PS) := fseq typF_2b_0 (fseq typF_2b_1 (fseq typF_2b_2 (fseq typF_2b_3 (fseq typF_2b_4 fun σ => some (.next, σ)))))
noncomputable def testT : PS → Option (Bool × PS) := fun σ => fbf (fvar 4) σ fun a σ => fbf (fun σ => fbf (fun σ => fbf (fvar 0) σ fun v σ => some ([v], σ)) σ fun vs σ => cLen vs σ) σ fun b σ => fb (oLt a b σ) fTruth
theorem typ2_is : typF_2 = ffin [] (fun σ => fwhileC [5, 6] σ.mem.length testT bodyT 200 σ) := by kernel_rfl
theorem fwhileC_step {ds : List Nat} {n0 n : Nat} {t : PS → Option (Bool × PS)} {b : PS → Option (Fl × PS)} {σ σ₁ σ₂ σ₃ : PS} (ht : t σ = some (true, σ₁)) (hb : b σ₁ = some (.next, σ₂)) (hc : ffinC ds n0 σ₂ = some σ₃) : fwhileC ds n0 t b (n + 1) σ = fwhileC ds n0 t b n σ₃ := by
  rw [fwhileC]
  refine (fb_eq ht).trans ((fb_eq hb).trans ?_)
  dsimp only
  unfold ffinC at hc
  split at hc
  · rename_i hall
    rw [if_pos hall]
    cases hc; rfl
  · cases hc
theorem fwhileC_done {ds : List Nat} {n0 n : Nat} {t : PS → Option (Bool × PS)} {b : PS → Option (Fl × PS)} {σ σ₁ : PS} (ht : t σ = some (false, σ₁)) : fwhileC ds n0 t b (n + 1) σ = some (.next, σ₁) := by
  rw [fwhileC]
  exact (fb_eq ht).trans rfl
inductive Typed : List Nat → List Nat → Prop
  | nil : Typed [] []
  | cons {s b : Nat} {m w t : List Nat} : (s, m) ∈ pairsT → b ∈ b1N → Typed w t → Typed (m ++ w) (s :: b :: t)
theorem testT_is {w : List Nat} (hw : w.length = 6) (n : Int) (T : List Nat) (p : Nat) (ns : List Int) : testT (stT w n T p none none ns) = some (decide (p < 6), stT w n T p none none ns) := by
  refine Eq.trans (b := fb (cLen [.str w] (stT w n T p none none ns)) fun b σ => fb (oLt (.int p) b σ) fTruth) (by kernel_rfl) ?_
  have : cLen [.str w] (stT w n T p none none ns) = some (.int (6 : Nat), stT w n T p none none ns) := by
    show (if w.length ≤ 4096 then some (PV.int w.length, stT w n T p none none ns) else none) = _
    rw [if_pos (by omega), hw]
  refine (fb_eq this).trans ?_
  refine Eq.trans (b := some (decide ((p : Int) < 6), stT w n T p none none ns)) (by kernel_rfl) ?_
  congr 2
  by_cases h : p < 6
  · rw [decide_eq_true h, decide_eq_true (by omega)]
  · rw [decide_eq_false h, decide_eq_false (by omega)]
theorem cutT2 (w : List Nat) (n : Int) (T : List Nat) (p : Nat) (pr : List Nat) (bl : Option Int) (ns : List Int) : ffinC [5, 6] 4 (stT w n T p (some (.str pr)) (bl.map .int) ns) = some (stT w n T p none none ns) := by
  unfold ffinC
  rw [if_pos (Eq.trans (b := (belowL 4 (pvi ns) && (true))) (by kernel_rfl) (by rw [belowL_ints]; rfl))]
  cases bl <;> kernel_rfl
theorem turnT {w : List Nat} (hw : w.length = 6) (hb : ∀ c ∈ w, c ∈ base6) (n : Int) (T : List Nat) (p : Nat) (hp : p < 6) (hT : T.length ≤ 60) (ns : List Int) :
    ∃ s m b bl n' pr, (s, m) ∈ pairsT ∧ b ∈ b1N ∧ w.drop p = m ++ w.drop (p + m.length) ∧ 1 ≤ m.length ∧ p + m.length ≤ 6 ∧ bodyT (stT w n T p none none ns) = some (.next, stT w n' (T ++ [s, b]) (p + m.length) (some (.str pr)) (Option.map PV.int bl) ns) := by
  have hc : w[p]? = some w[p] := List.getElem?_eq_getElem (by omega)
  obtain ⟨s, m, bl, h1, h2, h3, h4⟩ := ty2_1 w n T p _ ns rfl hc (hb _ (List.getElem_mem _)) (by omega) (by omega)
  obtain ⟨b, h5, h6⟩ := ty2_2 w n (T ++ [s]) (p + m.length - 1) ((w.drop p).take 2) bl ns (by simp; omega)
  obtain ⟨n', h7⟩ := ty2_4 w n (T ++ [s] ++ [b]) (p + m.length - 1 + 1) ((w.drop p).take 2) bl ns
  have hlen : p + m.length ≤ 6 := by
    have := congrArg List.length h2
    simp at this; omega
  refine ⟨s, m, b, bl, n', (w.drop p).take 2, h1, h5, ?_, h3, hlen, ?_⟩
  · have := List.take_append_drop m.length (w.drop p)
    rw [← h2, List.drop_drop] at this
    exact this.symm
  · refine (fseq_next (ty2_0 n T ns hw hp)).trans ((fseq_next h4).trans ((fseq_next h6).trans ((fseq_next (ty2_3 w n _ _ _ bl ns)).trans ((fseq_next h7).trans ?_))))
    rw [show p + m.length - 1 + 1 = p + m.length by omega, List.append_assoc]; rfl
theorem loopT {w : List Nat} (hw : w.length = 6) (hb : ∀ c ∈ w, c ∈ base6) (ns : List Int) : ∀ (k p f : Nat) (n : Int) (T : List Nat), 6 ≤ p + k → p ≤ 6 → T.length ≤ 2 * p → k ≤ f →
    ∃ t n', Typed (w.drop p) t ∧ fwhileC [5, 6] 4 testT bodyT (f + 1) (stT w n T p none none ns) = some (.next, stT w n' (T ++ t) 6 none none ns) := by
  have h0 : ∀ (f : Nat) (n : Int) (T : List Nat), ∃ t n', Typed (w.drop 6) t ∧ fwhileC [5, 6] 4 testT bodyT (f + 1) (stT w n T 6 none none ns) = some (.next, stT w n' (T ++ t) 6 none none ns) := fun f n T => by
    refine ⟨[], n, ?_, ?_⟩
    · rw [List.drop_of_length_le (by omega)]; exact .nil
    · rw [List.append_nil]; exact fwhileC_done (testT_is hw n T 6 ns)
  intro k
  induction k with
  | zero =>
    intro p f n T h1 h2 h3 h4
    obtain rfl : p = 6 := by omega
    exact h0 f n T
  | succ k ih =>
    intro p f n T h1 h2 h3 h4
    by_cases h6 : p = 6
    · subst h6
      exact h0 f n T
    · obtain ⟨s, m, b, bl, n', pr, a1, a2, a3, a4, a5, a6⟩ := turnT hw hb n T p (by omega) (by omega) ns
      induction f using natC with
      | zero => omega
      | succ f =>
        obtain ⟨t, n2, c1, c2⟩ := ih (p + m.length) f n' (T ++ [s, b]) (by omega) a5 (by simp; omega) (by omega)
        refine ⟨s :: b :: t, n2, ?_, ?_⟩
        · rw [a3]; exact .cons a1 a2 c1
        · refine (fwhileC_step ((testT_is hw n T p ns).trans (by rw [decide_eq_true (by omega)])) a6 (cutT2 w n' _ _ pr bl ns)).trans ?_
          rw [c2, List.append_assoc]; rfl
end Mine
end
section
open PySem PySem.W PyProof.Rows PySem.Calls
set_option maxHeartbeats 400000
namespace Mine
theorem typ_run {w : List Nat} (hw : w.length = 6) (hb : ∀ c ∈ w, c ∈ base6) (n : Int) (ns : List Int) :
    ∃ t n', Typed w t ∧ typF ⟨[some (.str w), some (.int n), none, none, none, none, none], [.tab 77, .tab 84, .list (pvi ns)]⟩ = some (.ret (.str t), stT w n' t 6 none none ns) := by
  obtain ⟨t, n', h1, h2⟩ := loopT hw hb ns 6 0 199 n [] (by omega) (by omega) (by simp) (by omega)
  refine ⟨t, n', h1, ?_⟩
  refine (fseq_next (σ₁ := ⟨[some (.str w), some (.int n), some (.ref 3), none, none, none, none], stM ns⟩) (by kernel_rfl)).trans ?_
  refine (fseq_next (σ₁ := stT w n [] 0 none none ns) (by kernel_rfl)).trans ?_
  refine (fseq_next (σ₁ := stT w n' t 6 none none ns) ?_).trans (fseq_ret rfl)
  rw [typ2_is]
  refine ffin_next h2 ?_
  unfold ffinC
  rw [if_pos (Eq.trans (b := (belowL 4 (pvi ns) && (true))) (by kernel_rfl) (by rw [belowL_ints]; rfl))]
  kernel_rfl
noncomputable def st4 (row t : List Nat) (ns : List Int) (pl : Option PV) : PS := ⟨[none, some (.ref 2), none, none, none, some (.str row), none, some (.str t), pl] ++ List.replicate 21 none, stM ns⟩
theorem law4 {row : List Nat} (hw : row.length = 6) (hb : ∀ c ∈ row, c ∈ base6) (n0 n1 n2 n3 n4 n5 n6 n7 : Int) : ∃ t, Typed row t ∧ lawF_4 (stS row [n0, n1, n2, n3, n4, n5, n6, n7]) = some (.next, st4 row t [n0, n1, n2, n3, n4, n5, n6, n7] none) := by
  obtain ⟨t, n', h1, h2⟩ := typ_run hw hb n6 [n0, n1, n2, n3, n4, n5, n6, n7]
  refine ⟨t, h1, ?_⟩
  refine (fb_eq (a := PV.str t) (σ := ⟨(stS row [n0, n1, n2, n3, n4, n5, n6, n7]).vars, stM [n0, n1, n2, n3, n4, n5, n6, n7]⟩) ?_).trans rfl
  refine (fb_eq (a := [PV.str row, PV.int n6]) (σ := stS row [n0, n1, n2, n3, n4, n5, n6, n7]) (by kernel_rfl)).trans ?_
  exact fcall_ret (d := dTyp .none .none .none) (F := typF) (vs := [PV.str row, PV.int n6]) (σ := stS row [n0, n1, n2, n3, n4, n5, n6, n7]) rfl h2
theorem b1_no (vs : List (Option PV)) (M : List PO) : (pairsT.map fun p => cB1 [.str [p.1]] ⟨vs, M⟩) = pairsT.map fun _ => some (.bool false, ⟨vs, M⟩) := by kernel_rfl
theorem b1_yes (vs : List (Option PV)) (M : List PO) : (b1N.map fun c => cB1 [.str [c]] ⟨vs, M⟩) = b1N.map fun _ => some (.bool true, ⟨vs, M⟩) := by kernel_rfl
theorem b3_pairs (vs : List (Option PV)) (M : List PO) : (pairsT.map fun p => cB3 [.str [p.1]] ⟨vs, M⟩) = pairsT.map fun p => some (.str p.2, ⟨vs, M⟩) := by kernel_rfl
theorem pair_b1 {s : Nat} {m : List Nat} (h : (s, m) ∈ pairsT) (σ : PS) : cB1 [.str [s]] σ = some (.bool false, σ) := List.map_inj_left.mp (b1_no σ.vars σ.mem) _ h
theorem blank_b1 {b : Nat} (h : b ∈ b1N) (σ : PS) : cB1 [.str [b]] σ = some (.bool true, σ) := List.map_inj_left.mp (b1_yes σ.vars σ.mem) _ h
theorem pair_b3 {s : Nat} {m : List Nat} (h : (s, m) ∈ pairsT) (σ : PS) : cB3 [.str [s]] σ = some (.str m, σ) := List.map_inj_left.mp (b3_pairs σ.vars σ.mem) _ h
theorem pair_len : ∀ p ∈ pairsT, 1 ≤ p.2.length := by decide
theorem typed_len {w t : List Nat} (h : Typed w t) : t.length ≤ 2 * w.length := by
  induction h with
  | nil => exact Nat.le_refl _
  | cons h1 _ _ ih =>
    have := pair_len _ h1
    simp at this ⊢; omega
section
variable (row T : List Nat) (ns : List Int)
theorem b5_0 (hT : T.length ≤ 64) {p c : Nat} {o : Bool} (hc : T[p]? = some c) (h1 : ∀ σ, cB1 [.str [c]] σ = some (.bool o, σ)) (h2 : ((p : Int).fmod 2 == 1) = o) : lawF_5b_0 (st4 row T ns (some (.int p))) = some (.next, st4 row T ns (some (.int p))) := by
  refine ffin_next (σ₁ := st4 row T ns (some (.int p))) ?_ ?_
  · refine (fb_eq (a := false) (σ := st4 row T ns (some (.int p))) ?_).trans rfl
    refine (fb_eq (a := PV.bool o) (σ := st4 row T ns (some (.int p))) ?_).trans ?_
    · refine (fb_eq (a := [PV.str [c]]) (σ := st4 row T ns (some (.int p))) ?_).trans (h1 _)
      exact (fb_eq (fgi_nat hc hT (st4 row T ns (some (.int p))))).trans rfl
    · refine (fb_eq (a := PV.bool o) (σ := st4 row T ns (some (.int p))) ?_).trans ?_
      · refine (fb_eq (a := PV.int ((p : Int).fmod 2)) (σ := st4 row T ns (some (.int p))) (by kernel_rfl)).trans ?_
        rw [← h2]; kernel_rfl
      · cases o <;> rfl
  · unfold ffinC
    rw [if_pos (Eq.trans (b := (belowL 4 (pvi ns) && (true))) (by kernel_rfl) (by rw [belowL_ints]; rfl))]
    kernel_rfl
theorem cut5 (p : Int) : ffinC [] 4 (st4 row T ns (some (.int p))) = some (st4 row T ns (some (.int p))) := by
  unfold ffinC
  rw [if_pos (Eq.trans (b := (belowL 4 (pvi ns) && (true))) (by kernel_rfl) (by rw [belowL_ints]; rfl))]
  kernel_rfl
theorem step5 (hT : T.length ≤ 64) {p c n : Nat} {o : Bool} {pl : Option PV} (hc : T[p]? = some c) (h1 : ∀ σ, cB1 [.str [c]] σ = some (.bool o, σ)) (h2 : ((p : Int).fmod 2 == 1) = o) :
    fforC [] 4 (nxOf (.rng 0 T.length 1)) (fun v σ => some (fset 8 v σ)) (fseq lawF_5b_0 fun σ => some (.next, σ)) (n + 1) p (st4 row T ns pl) = fforC [] 4 (nxOf (.rng 0 T.length 1)) (fun v σ => some (fset 8 v σ)) (fseq lawF_5b_0 fun σ => some (.next, σ)) n (p + 1) (st4 row T ns (some (.int p))) := by
  have hp := (List.getElem?_eq_some_iff.mp hc).1
  refine fforC_step (v := .int p) (σ₁ := st4 row T ns (some (.int p))) ?_ rfl (fseq_next (b5_0 row T ns hT hc h1 h2)) (cut5 row T ns p)
  rw [nx_rng (small_one (by omega) (by omega) (by omega) (by omega)), if_pos (by omega), Int.zero_add]
theorem loop5 (hT : T.length ≤ 64) {w t : List Nat} (h : Typed w t) : ∀ (k n : Nat) (pre : List Nat) (pl : Option PV), pre ++ t = T → pre.length = 2 * k →
    ∃ pl', fforC [] 4 (nxOf (.rng 0 T.length 1)) (fun v σ => some (fset 8 v σ)) (fseq lawF_5b_0 fun σ => some (.next, σ)) (n + t.length + 1) pre.length (st4 row T ns pl) = some (.next, st4 row T ns pl') := by
  induction h with
  | nil =>
    intro k n pre pl e hk
    have e : pre = T := by simpa using e
    subst e
    refine ⟨pl, fforC_done ?_⟩
    rw [nx_rng (small_one (by omega) (by omega) (by omega) (by omega)), if_neg (by omega)]
  | @cons s b m w t h1 h2 h3 ih =>
    intro k n pre pl e hk
    obtain ⟨pl', h⟩ := ih (k + 1) n (pre ++ [s, b]) (some (.int ((pre.length + 1 : Nat) : Int))) (by rw [← e]; simp) (by simp; omega)
    refine ⟨pl', ?_⟩
    rw [show n + (s :: b :: t).length + 1 = (n + t.length + 1) + 1 + 1 by simp; omega]
    refine (step5 row T ns hT (c := s) (o := false) (by rw [← e]; simp) (fun σ => pair_b1 h1 σ) ?_).trans ?_
    · rw [Int.fmod_eq_emod_of_nonneg _ (by decide)]; exact beq_eq_false_iff_ne.mpr (by omega)
    refine (step5 row T ns hT (c := b) (o := true) (by rw [← e]; simp) (fun σ => blank_b1 h2 σ) ?_).trans ?_
    · rw [Int.fmod_eq_emod_of_nonneg _ (by decide)]; exact beq_iff_eq.mpr (by omega)
    rw [List.length_append] at h
    exact h
theorem law5 (hT : T.length ≤ 12) (h : Typed row T) : lawF_5 (st4 row T ns none) = some (.next, st4 row T ns none) := by
  obtain ⟨pl', h⟩ := loop5 row T ns (by omega) h 0 (199 - T.length) [] none rfl rfl
  rw [show 199 - T.length + T.length + 1 = 200 by omega] at h
  refine ffin_next (σ₁ := st4 row T ns pl') ?_ ?_
  · refine (fb_eq (a := PV.rng 0 T.length 1) (σ := st4 row T ns none) ?_).trans ((if_pos (by kernel_rfl)).trans h)
    refine (fb_eq (a := [PV.int T.length]) (σ := st4 row T ns none) ?_).trans rfl
    refine (fb_eq (a := PV.int T.length) (σ := st4 row T ns none) ?_).trans rfl
    exact (fb_eq (a := [PV.str T]) (σ := st4 row T ns none) rfl).trans (fLen_str (by omega) _)
  · unfold ffinC
    rw [if_pos (Eq.trans (b := (belowL 4 (pvi ns) && (true))) (by kernel_rfl) (by rw [belowL_ints]; rfl))]
    kernel_rfl
end
end Mine
end
section
open PySem PySem.W PyProof.Rows PySem.Calls Builtin Builtin.Str
set_option maxHeartbeats 400000
namespace Mine
theorem fcomp_el {nx : Nat → PS → Option (Option PV)} {ts : PV → PS → Option (Bool × PS)} {el : PV → PS → Option (PV × PS)} {n i : Nat} {acc : List PV} {σ : PS} {v y : PV} (hn : nx i σ = some (some v)) (ht : ts v σ = some (true, σ)) (he : el v σ = some (y, σ)) (ha : acc.length ≤ 4096) :
    fcomp nx ts el (n + 1) i acc σ = fcomp nx ts el n (i + 1) (acc ++ [y]) σ := by
  rw [fcomp, hn]
  dsimp only
  rw [fb_eq ht]
  dsimp only
  rw [fb_eq he, if_pos ha]
theorem fcomp_skip {nx : Nat → PS → Option (Option PV)} {ts : PV → PS → Option (Bool × PS)} {el : PV → PS → Option (PV × PS)} {n i : Nat} {acc : List PV} {σ : PS} {v : PV} (hn : nx i σ = some (some v)) (ht : ts v σ = some (false, σ)) :
    fcomp nx ts el (n + 1) i acc σ = fcomp nx ts el n (i + 1) acc σ := by
  rw [fcomp, hn]
  dsimp only
  rw [fb_eq ht]
theorem fcomp_done {nx : Nat → PS → Option (Option PV)} {ts : PV → PS → Option (Bool × PS)} {el : PV → PS → Option (PV × PS)} {n i : Nat} {acc : List PV} {σ : PS} (hn : nx i σ = some none) :
    fcomp nx ts el (n + 1) i acc σ = some (acc, σ) := by
  rw [fcomp, hn]
theorem join_flat : ∀ ss : List (List Nat), (Str.join (mkS' []) (ss.map mkS')).cps.toList = ss.flatten
  | [] => rfl
  | [a] => by simp [Str.join, mkS']
  | a :: b :: r => by
    have ih := join_flat (b :: r)
    simp only [List.map_cons] at ih ⊢
    rw [Str.join]
    · rw [Str.cps_append, Str.cps_append, Array.toList_append, Array.toList_append, ih]
      simp [mkS']
    · intro h; cases h
theorem join_flat' (ss : List (List Nat)) : (Txt.join (mkS' []) (ss.map mkS')).cps.toList = ss.flatten := by
  unfold Txt.join
  rw [StrLaws.glued_eq_join]
  exact join_flat ss
theorem pStrs_map : ∀ ss : List (List Nat), pStrs (ss.map .str) = some ss
  | [] => rfl
  | a :: r => by
    show (pStrs (r.map .str)).map (a :: ·) = _
    rw [pStrs_map r]; rfl
noncomputable abbrev ts6 : PV → PS → Option (Bool × PS) := fun v σ => fb (fb (fb (fb (some (v, σ)) fun v σ => fb (some ([], σ)) fun vs σ => some (v :: vs, σ)) fun vs σ => cB1 vs σ) fTruth) fun b σ => some (!b, σ)
noncomputable abbrev el6 : PV → PS → Option (PV × PS) := fun v σ => fb (fb (some (v, σ)) fun v σ => fb (some ([], σ)) fun vs σ => some (v :: vs, σ)) fun vs σ => cB3 vs σ
theorem comp6 (σ : PS) {T w t : List Nat} (h : Typed w t) : ∀ (n : Nat) (pre : List Nat) (acc : List (List Nat)), pre ++ t = T → acc.length + t.length ≤ 4096 →
    ∃ ms : List (List Nat), ms.flatten = w ∧ ms.length ≤ t.length ∧ fcomp (nxOf (.str T)) ts6 el6 (n + t.length + 1) pre.length (acc.map .str) σ = some ((acc ++ ms).map .str, σ) := by
  induction h with
  | nil =>
    intro n pre acc e ha
    have e : pre = T := by simpa using e
    subst e
    refine ⟨[], rfl, Nat.le_refl _, ?_⟩
    rw [List.append_nil]
    refine fcomp_done ?_
    show some (pre[pre.length]?.map fun c => PV.str [c]) = some none
    rw [List.getElem?_eq_none (by simp)]; rfl
  | @cons s b m w t h1 h2 h3 ih =>
    intro n pre acc e ha
    simp only [List.length_cons] at ha
    obtain ⟨ms, i1, i2, i3⟩ := ih n (pre ++ [s, b]) (acc ++ [m]) (by rw [← e]; simp) (by simp; omega)
    refine ⟨m :: ms, by rw [← i1]; rfl, by simp; omega, ?_⟩
    rw [show n + (s :: b :: t).length + 1 = (n + t.length + 1) + 1 + 1 by simp; omega]
    refine (fcomp_el (v := .str [s]) (y := .str m) ?_ ?_ ?_ ?_).trans ?_
    · show some (T[pre.length]?.map fun c => PV.str [c]) = _
      rw [← e]; simp
    · show fb (fb (cB1 [.str [s]] σ) fTruth) _ = _
      rw [pair_b1 h1]; rfl
    · exact pair_b3 h1 σ
    · rw [List.length_map]; omega
    refine (fcomp_skip (v := .str [b]) ?_ ?_).trans ?_
    · show some (T[pre.length + 1]?.map fun c => PV.str [c]) = _
      rw [← e]; simp
    · show fb (fb (cB1 [.str [b]] σ) fTruth) _ = _
      rw [blank_b1 h2]; rfl
    rw [List.length_append, List.map_append] at i3
    rw [show acc ++ m :: ms = (acc ++ [m]) ++ ms by simp]
    exact i3
theorem sum_flat : ∀ ms : List (List Nat), (ms.map List.length).sum = ms.flatten.length
  | [] => rfl
  | a :: r => by rw [List.map_cons, List.sum_cons, sum_flat r, List.flatten_cons, List.length_append]
noncomputable def st6 (row t : List Nat) (ns : List Int) (ms : List (List Nat)) : PS := ⟨[none, some (.ref 2), none, none, none, some (.str row), none, some (.str t), none, some (.str row)] ++ List.replicate 20 none, stM ns ++ [.list (ms.map .str)]⟩
theorem law6 {row t : List Nat} (hw : row.length = 6) (ht : t.length ≤ 12) (h : Typed row t) (ns : List Int) : ∃ ms, lawF_6 (st4 row t ns none) = some (.next, st6 row t ns ms) := by
  obtain ⟨ms, h1, h2, h3⟩ := comp6 (T := t) (st4 row t ns none) h (199 - t.length) [] [] rfl (by simp; omega)
  rw [show 199 - t.length + t.length + 1 = 200 by omega] at h3
  refine ⟨ms, ?_⟩
  refine (fb_eq (a := PV.str row) (σ := ⟨(st4 row t ns none).vars, stM ns ++ [.list (ms.map .str)]⟩) ?_).trans rfl
  refine (fb_eq (a := [PV.ref 4]) (σ := ⟨(st4 row t ns none).vars, stM ns ++ [.list (ms.map .str)]⟩) ?_).trans ?_
  · refine (fb_eq (a := PV.ref 4) (σ := ⟨(st4 row t ns none).vars, stM ns ++ [.list (ms.map .str)]⟩) ?_).trans rfl
    refine (fb_eq (a := PV.str t) (σ := st4 row t ns none) rfl).trans ?_
    exact (fb_eq h3).trans rfl
  · show (pStrs (ms.map .str)).bind (fun ss => if JoinOk (mkS' []) (ss.map mkS') = true then some (PV.str (Txt.join (mkS' []) (ss.map mkS')).cps.toList, _) else none) = _
    rw [pStrs_map]
    show (if JoinOk (mkS' []) (ms.map mkS') = true then some (PV.str (Txt.join (mkS' []) (ms.map mkS')).cps.toList, _) else none) = _
    rw [if_pos, join_flat', h1]
    refine joinOk_of_weight ?_ (by simp)
    rw [List.map_map, show (Str.length ∘ mkS') = List.length from funext fun s => mkS'_len s, sum_flat, List.length_map, h1]
    omega
noncomputable def st7 (row : List Nat) (ns : List Int) : PS := ⟨[none, some (.ref 2), none, none, none, none, none, none, none, some (.str row)] ++ List.replicate 20 none, [.tab 77, .tab 84, .list (pvi ns), .gone, .gone]⟩
theorem law7 (row t : List Nat) (ns : List Int) (ms : List (List Nat)) : lawF_7 (st6 row t ns ms) = some (.next, st7 row ns) := by
  refine ffin_next (σ₁ := st6 row t ns ms) ?_ ?_
  · refine (fb_eq (a := false) (σ := st6 row t ns ms) ?_).trans rfl
    refine Eq.trans (b := some (!(row == row), st6 row t ns ms)) (by kernel_rfl) ?_
    rw [show (row == row) = true from beq_self_eq_true _]; rfl
  · have : belowL 5 (ms.map .str) = true := by
      induction ms with
      | nil => rfl
      | cons a r ih => show (true && belowL 5 (r.map .str)) = true; rw [ih]; rfl
    unfold ffinC
    rw [if_pos (Eq.trans (b := (belowL 5 (pvi ns) && (true && (belowL 5 (ms.map .str) && true)))) (by kernel_rfl) (by rw [belowL_ints, this]; rfl))]
    kernel_rfl
end Mine
end
section
open PySem PySem.W PyProof.Rows PySem.Calls
set_option maxHeartbeats 400000
namespace Mine
theorem coll_is (A B : List Nat) (σ : PS) : cStrcoll [.str A, .str B] σ = some (.int (b2i (decide (B < A)) - b2i (decide (A < B))), σ) := by kernel_rfl
theorem coll_lt {A B : List Nat} (h : A < B) (σ : PS) : cStrcoll [.str A, .str B] σ = some (.int (-1), σ) := by
  rw [coll_is, decide_eq_true h, decide_eq_false (List.lt_asymm h)]; rfl
theorem coll_gt {A B : List Nat} (h : B < A) (σ : PS) : cStrcoll [.str A, .str B] σ = some (.int 1, σ) := by
  rw [coll_is, decide_eq_true h, decide_eq_false (List.lt_asymm h)]; rfl
theorem coll_eq (A : List Nat) (σ : PS) : cStrcoll [.str A, .str A] σ = some (.int 0, σ) := by
  rw [coll_is, decide_eq_false (List.lt_irrefl A)]; rfl
theorem take_lt : ∀ (l : List Nat) (a : Nat), a < l.length → l.take a < l
  | x :: l, 0, _ => List.Lex.nil
  | x :: l, a + 1, h => List.cons_lt_cons_iff.mpr (.inr ⟨rfl, take_lt l a (by simpa using h)⟩)
noncomputable def ups (r : List Nat) : List Nat := ((r.getD 0 0 : Nat) - 32 : Int).toNat :: r.drop 1
section
variable (r0 r1 r2 r3 r4 r5 : Nat) (n0 n1 n2 n3 n4 n5 n6 n7 : Int)
noncomputable def st8 (row : List Nat) (a : Nat) (ns : List Int) : PS := ⟨[none, some (.ref 2), none, none, none, none, none, none, none, some (.str row), some (.str (row.take a)), some (.str (ups row))] ++ List.replicate 18 none, [.tab 77, .tab 84, .list (pvi ns), .gone, .gone]⟩
theorem law8 {a : Nat} (ha : n7.fmod 6 = a) (ha6 : a < 6) (h0 : 32 ≤ r0) (h1 : r0 ≤ 200) : lawF_8 (st7 [r0, r1, r2, r3, r4, r5] [n0, n1, n2, n3, n4, n5, n6, n7]) = some (.next, st8 [r0, r1, r2, r3, r4, r5] a [n0, n1, n2, n3, n4, n5, n6, n7]) := by
  refine (fb_eq (a := PV.tup [.str ([r0, r1, r2, r3, r4, r5].take a), .str (ups [r0, r1, r2, r3, r4, r5])]) (σ := st7 [r0, r1, r2, r3, r4, r5] [n0, n1, n2, n3, n4, n5, n6, n7]) ?_).trans rfl
  refine (fb_eq (a := [PV.str ([r0, r1, r2, r3, r4, r5].take a), PV.str (ups [r0, r1, r2, r3, r4, r5])]) (σ := st7 [r0, r1, r2, r3, r4, r5] [n0, n1, n2, n3, n4, n5, n6, n7]) ?_).trans rfl
  refine (fb_eq (a := PV.str ([r0, r1, r2, r3, r4, r5].take a)) (σ := st7 [r0, r1, r2, r3, r4, r5] [n0, n1, n2, n3, n4, n5, n6, n7]) ?_).trans ?_
  · refine (fb_eq (a := PV.str [r0, r1, r2, r3, r4, r5]) (σ := st7 [r0, r1, r2, r3, r4, r5] [n0, n1, n2, n3, n4, n5, n6, n7]) rfl).trans ?_
    refine (fb_eq (a := none) (σ := st7 [r0, r1, r2, r3, r4, r5] [n0, n1, n2, n3, n4, n5, n6, n7]) rfl).trans ?_
    refine (fb_eq (a := some (a : Int)) (σ := st7 [r0, r1, r2, r3, r4, r5] [n0, n1, n2, n3, n4, n5, n6, n7]) ?_).trans ?_
    · refine (fb_eq (a := PV.int a) (σ := st7 [r0, r1, r2, r3, r4, r5] [n0, n1, n2, n3, n4, n5, n6, n7]) ?_).trans rfl
      exact (fb_eq (a := PV.int n7) (σ := st7 [r0, r1, r2, r3, r4, r5] [n0, n1, n2, n3, n4, n5, n6, n7]) (by kernel_rfl)).trans (mod_eq ha (by decide) _)
    · clear ha
      induction a, ha6 using lt6C <;> kernel_rfl
  · refine (fb_eq (a := [PV.str (ups [r0, r1, r2, r3, r4, r5])]) (σ := st7 [r0, r1, r2, r3, r4, r5] [n0, n1, n2, n3, n4, n5, n6, n7]) ?_).trans rfl
    refine (fb_eq (a := PV.str (ups [r0, r1, r2, r3, r4, r5])) (σ := st7 [r0, r1, r2, r3, r4, r5] [n0, n1, n2, n3, n4, n5, n6, n7]) ?_).trans rfl
    refine (fb_eq (a := PV.str [((r0 : Int) - 32).toNat]) (σ := st7 [r0, r1, r2, r3, r4, r5] [n0, n1, n2, n3, n4, n5, n6, n7]) ?_).trans (by kernel_rfl)
    exact (fb_eq (a := [PV.int ((r0 : Int) - 32)]) (σ := st7 [r0, r1, r2, r3, r4, r5] [n0, n1, n2, n3, n4, n5, n6, n7]) (by kernel_rfl)).trans (chr_ok (by omega) (by omega) _)
noncomputable def st9 (row : List Nat) (a : Nat) (ns : List Int) : PS := ⟨[none, some (.ref 2), none, none, none, none, none, none, none, some (.str row), some (.str (row.take a)), some (.str (ups row)), some (.ref 5)] ++ List.replicate 17 none, [.tab 77, .tab 84, .list (pvi ns), .gone, .gone, .list [.int 0, .int (-1), .int 1, .int 1, .int (-1)]]⟩
theorem law9 {row : List Nat} {a : Nat} (ns : List Int) (ha : row.take a < row) (hu : ups row < row) : lawF_9 (st8 row a ns) = some (.next, st9 row a ns) := by
  have s0 := coll_eq row (st8 row a ns)
  have s1 := coll_lt ha (st8 row a ns)
  have s2 := coll_gt ha (st8 row a ns)
  have s3 := coll_gt hu (st8 row a ns)
  have s4 := coll_lt hu (st8 row a ns)
  delta lawF_9; refine (fb_eq (a := PV.ref 5) (σ := ⟨(st8 row a ns).vars, (st9 row a ns).mem⟩) ?_).trans rfl
  refine (fb_eq (a := [PV.int 0, .int (-1), .int 1, .int 1, .int (-1)]) (σ := st8 row a ns) ?_).trans rfl
  refine (fb_eq (a := PV.int 0) (σ := st8 row a ns) ((fb_eq (a := [PV.str row, .str row]) (σ := st8 row a ns) rfl).trans s0)).trans ?_
  refine (fb_eq (a := [PV.int (-1), .int 1, .int 1, .int (-1)]) (σ := st8 row a ns) ?_).trans rfl
  refine (fb_eq (a := PV.int (-1)) (σ := st8 row a ns) ((fb_eq (a := [PV.str (row.take a), .str row]) (σ := st8 row a ns) rfl).trans s1)).trans ?_
  refine (fb_eq (a := [PV.int 1, .int 1, .int (-1)]) (σ := st8 row a ns) ?_).trans rfl
  refine (fb_eq (a := PV.int 1) (σ := st8 row a ns) ((fb_eq (a := [PV.str row, .str (row.take a)]) (σ := st8 row a ns) rfl).trans s2)).trans ?_
  refine (fb_eq (a := [PV.int 1, .int (-1)]) (σ := st8 row a ns) ?_).trans rfl
  refine (fb_eq (a := PV.int 1) (σ := st8 row a ns) ((fb_eq (a := [PV.str row, .str (ups row)]) (σ := st8 row a ns) rfl).trans s3)).trans ?_
  refine (fb_eq (a := [PV.int (-1)]) (σ := st8 row a ns) ?_).trans rfl
  exact (fb_eq (a := PV.int (-1)) (σ := st8 row a ns) ((fb_eq (a := [PV.str (ups row), .str row]) (σ := st8 row a ns) rfl).trans s4)).trans rfl
noncomputable def st10 (row : List Nat) (ns : List Int) : PS := ⟨[none, some (.ref 2), none, none, none, none, none, none, none, some (.str row)] ++ List.replicate 20 none, [.tab 77, .tab 84, .list (pvi ns), .gone, .gone, .gone]⟩
theorem law10 (row : List Nat) (a : Nat) : lawF_10 (st9 row a [n0, n1, n2, n3, n4, n5, n6, n7]) = some (.next, st10 row [n0, n1, n2, n3, n4, n5, n6, n7]) := by kernel_rfl
noncomputable def st11 (row : List Nat) (ns : List Int) (q f : Nat) : PS := ⟨[none, some (.ref 2), none, none, none, none, none, none, none, some (.str row), none, none, none, some (.int q), some (.int f)] ++ List.replicate 15 none, [.tab 77, .tab 84, .list (pvi ns), .gone, .gone, .gone]⟩
theorem law11 (row : List Nat) {e f : Nat} (he : n7.fmod 2 = e) (hf : (n7.fdiv 2).fmod 3 = f) : lawF_11 (st10 row [n0, n1, n2, n3, n4, n5, n6, n7]) = some (.next, st11 row [n0, n1, n2, n3, n4, n5, n6, n7] (1 + e) f) := by
  have hn : fb (fvar 1 (st10 row [n0, n1, n2, n3, n4, n5, n6, n7])) (fun a σ => fbf (fun σ => some (PV.int 7, σ)) σ fun b σ => fgi a b σ) = some (.int n7, st10 row [n0, n1, n2, n3, n4, n5, n6, n7]) := by kernel_rfl
  delta lawF_11; refine (fb_eq (a := PV.tup [.int ((1 + e : Nat) : Int), .int f]) (σ := st10 row [n0, n1, n2, n3, n4, n5, n6, n7]) ?_).trans rfl
  refine (fb_eq (a := [PV.int ((1 + e : Nat) : Int), .int f]) (σ := st10 row [n0, n1, n2, n3, n4, n5, n6, n7]) ?_).trans rfl
  refine (fb_eq (a := PV.int ((1 + e : Nat) : Int)) (σ := st10 row [n0, n1, n2, n3, n4, n5, n6, n7]) ?_).trans ?_
  · refine (fb_eq (a := PV.int 1) (σ := st10 row [n0, n1, n2, n3, n4, n5, n6, n7]) rfl).trans ?_
    refine (fb_eq (a := PV.int e) (σ := st10 row [n0, n1, n2, n3, n4, n5, n6, n7]) ((fb_eq hn).trans (mod_eq he (by decide) _))).trans ?_
    rfl
  · refine (fb_eq (a := [PV.int f]) (σ := st10 row [n0, n1, n2, n3, n4, n5, n6, n7]) ?_).trans rfl
    refine (fb_eq (a := PV.int f) (σ := st10 row [n0, n1, n2, n3, n4, n5, n6, n7]) ?_).trans rfl
    refine (fb_eq (a := PV.int (n7.fdiv 2)) (σ := st10 row [n0, n1, n2, n3, n4, n5, n6, n7]) ((fb_eq hn).trans (by kernel_rfl))).trans ?_
    exact mod_eq hf (by decide) _
noncomputable def stW (q f : Nat) (lo sh : List Nat) (S : List PV) (T : Int) (M : List PO) : PS := ⟨List.replicate 13 none ++ [some (.int q), some (.int f), some (.str lo), some (.str sh), some (.ref 6), some (.int T)] ++ List.replicate 11 none, [.tab 77, .tab 84, .gone, .gone, .gone, .gone, .acc f S] ++ M⟩
theorem law12_1 (f : Nat) : seqs [lawF_12, lawF_13, lawF_14] (st11 [r0, r1, r2, r3, r4, r5] [n0, n1, n2, n3, n4, n5, n6, n7] 1 f) = some (.next, stW 1 f [r0, r1, r2, r3, r4] [r5] [.tup [.str [], .str [r0, r1, r2, r3, r4]]] 0 []) := by kernel_rfl
theorem law12_2 (f : Nat) : seqs [lawF_12, lawF_13, lawF_14] (st11 [r0, r1, r2, r3, r4, r5] [n0, n1, n2, n3, n4, n5, n6, n7] 2 f) = some (.next, stW 2 f [r0, r1, r2, r3] [r4, r5] [.tup [.str [], .str [r0, r1, r2, r3]]] 0 []) := by kernel_rfl
end
end Mine
end
section
open PySem PySem.W PyProof.Rows PySem.Calls Builtin Builtin.Str
set_option maxHeartbeats 400000
namespace Mine
theorem ssi_to : ∀ n < 7, ∀ p < 7, p ≤ n → strSliceIndices none (some ((p : Nat) : Int)) 1 n = (List.range p).map (fun k => 0 + k) := by decide +kernel
theorem ssi_from : ∀ n < 7, ∀ p < 7, p ≤ n → strSliceIndices (some ((p : Nat) : Int)) none 1 n = (List.range (n - p)).map (fun k => p + k) := by decide +kernel
theorem fsl_take {t : List Nat} {p : Nat} (hp : p ≤ t.length) (ht : t.length < 7) (σ : PS) : fsl (.str t) none (some (p : Int)) none σ = some (.str (t.take p), σ) := by
  have e : fstr t none (some (p : Int)) none = t.take p := by
    show (if ((1 : Int) == 1 && (strSliceIndices none (some (p : Int)) 1 t.length).length == t.length) = true then t else (strSliceIndices none (some (p : Int)) 1 t.length).filterMap (t[·]?)) = _
    rw [ssi_to _ ht p (by omega) hp, StrLaws.picks t p 0 (by omega)]
    simp only [List.length_map, List.length_range]
    by_cases h : p = t.length
    · rw [if_pos (by simp [h]), h, List.take_length]
    · rw [if_neg (by simpa using h)]; rfl
  show (if ((1 : Int) == 0) = false ∧ (fstr t none (some (p : Int)) none).length ≤ 4096 then some (PV.str (fstr t none (some (p : Int)) none), σ) else none) = _
  rw [e, if_pos ⟨rfl, by rw [List.length_take]; omega⟩]
theorem fsl_drop {t : List Nat} {p : Nat} (hp : p ≤ t.length) (ht : t.length < 7) (σ : PS) : fsl (.str t) (some (p : Int)) none none σ = some (.str (t.drop p), σ) := by
  have e : fstr t (some (p : Int)) none none = t.drop p := by
    show (if ((1 : Int) == 1 && (strSliceIndices (some (p : Int)) none 1 t.length).length == t.length) = true then t else (strSliceIndices (some (p : Int)) none 1 t.length).filterMap (t[·]?)) = _
    rw [ssi_from _ ht p (by omega) hp, StrLaws.picks t (t.length - p) p (by omega)]
    simp only [List.length_map, List.length_range]
    by_cases h : t.length - p = t.length
    · rw [if_pos (by simp [h])]
      rcases Nat.eq_zero_or_pos t.length with h0 | h0
      · rw [List.eq_nil_of_length_eq_zero h0]; simp
      · rw [show p = 0 by omega]; rfl
    · rw [if_neg (by simpa using h), List.take_of_length_le (by simp)]
  show (if ((1 : Int) == 0) = false ∧ (fstr t (some (p : Int)) none none).length ≤ 4096 then some (PV.str (fstr t (some (p : Int)) none none), σ) else none) = _
  rw [e, if_pos ⟨rfl, by rw [List.length_drop]; omega⟩]
theorem fcall_next {d : FnD} {F : PS → Option (Fl × PS)} {vs : List PV} {σ σ' : PS} (hl : vs.length = d.pn.length) (h : F ⟨vs.map some ++ d.rn.map fun _ => none, σ.mem⟩ = some (.next, σ')) : fcall d F vs σ = some (.none, ⟨σ.vars, σ'.mem⟩) := by
  unfold fcall
  rw [if_pos hl, h]
theorem push_is {l : Nat} {a b : List Nat} {n : Int} {S : List PV} {vs : List (Option PV)} {M : List PO} (h : M[l]? = some (.acc n S)) (hS : S.length ≤ 4096) :
    fcall dPush pushF [.ref l, .str a, .str b] ⟨vs, M⟩ = some (.none, ⟨vs, M.set l (.acc n (S ++ [.tup [.str a, .str b]]))⟩) := by
  have hm : (⟨[some (.ref l), some (.str a), some (.str b)], M⟩ : PS).mem[l]? = some (.acc n S) := h
  have e : pushF ⟨[some (.ref l), some (.str a), some (.str b)], M⟩ = some (.next, ⟨[some (.ref l), some (.str a), some (.str b)], M.set l (.acc n (S ++ [.tup [.str a, .str b]]))⟩) := by
    refine (fseq_next (σ₁ := ⟨[some (.ref l), some (.str a), some (.str b)], M.set l (.acc n (S ++ [.tup [.str a, .str b]]))⟩) ?_).trans rfl
    delta pushF_0
    refine (fb_eq (a := PV.none) (σ := ⟨[some (.ref l), some (.str a), some (.str b)], M.set l (.acc n (S ++ [.tup [.str a, .str b]]))⟩) ?_).trans rfl
    refine (fb_eq (a := PV.ref l) (σ := ⟨[some (.ref l), some (.str a), some (.str b)], M⟩) rfl).trans ?_
    refine (if_pos ?_).trans ?_
    · unfold isAcc; dsimp only; rw [h]
    refine (fb_eq (a := [PV.tup [.str a, .str b]]) (σ := ⟨[some (.ref l), some (.str a), some (.str b)], M⟩) rfl).trans ?_
    unfold accApp; dsimp only; rw [h]; dsimp only; rw [if_pos hS]
  exact fcall_next (d := dPush) (F := pushF) (vs := [.ref l, .str a, .str b]) (σ := ⟨vs, M⟩) rfl e
noncomputable def stX (q f : Nat) (lo sh : List Nat) (S : List PV) (T : Int) (pl bl tx fd pg fa sd : Option PV) (M : List PO) : PS :=
  ⟨List.replicate 8 none ++ [pl] ++ List.replicate 4 none ++ [some (.int q), some (.int f), some (.str lo), some (.str sh), some (.ref 6), some (.int T), bl, tx, fd, pg, fa, sd] ++ List.replicate 5 none, [.tab 77, .tab 84, .gone, .gone, .gone, .gone, .acc f S] ++ M⟩
noncomputable def ent (n : Nat) (t : List Nat) : PV := .tup [.str (List.replicate n 32), .str t]
noncomputable def stk (X : List (Nat × List Nat)) : List PV := X.map fun p => ent p.1 p.2
theorem stk_below (k : Nat) : ∀ X, belowL k (stk X) = true
  | [] => rfl
  | a :: r => by
    show (true && belowL k (stk r)) = true
    rw [stk_below k r]; rfl
noncomputable def testW : PS → Option (Bool × PS) := fun σ => fbf (fun σ => fbf (fvar 17) σ fun v σ => if isAcc v σ = true then fbf (fun σ => some ([], σ)) σ fun us σ => cPc (v :: us) σ else none) σ fun a σ => fbf (fun σ => some (PV.int 0, σ)) σ fun b σ => fb (oGt a b σ) fTruth
noncomputable def bodyW : PS → Option (Fl × PS) := fseq lawF_15b_0 (fseq lawF_15b_1 fun σ => some (.next, σ))
theorem while_is : lawF_15 = ffin [] (fun σ => fwhileC [8, 19, 20, 21, 22, 23, 24] σ.mem.length testW bodyW 200 σ) := by kernel_rfl
section
variable (q f : Nat) (lo sh : List Nat) (T : Int)
theorem testW_is {S : List PV} (hS : S.length ≤ 4096) : testW (stX q f lo sh S T none none none none none none none []) = some (decide (0 < S.length), stX q f lo sh S T none none none none none none none []) := by
  delta testW
  refine (fb_eq (a := PV.int (S.length : Nat)) (σ := stX q f lo sh S T none none none none none none none []) ?_).trans ?_
  · refine (fb_eq (a := PV.ref 6) (σ := stX q f lo sh S T none none none none none none none []) rfl).trans ?_
    exact (if_pos (by kernel_rfl)).trans (if_pos hS)
  · refine Eq.trans (b := some (decide ((0 : Int) < (S.length : Nat)), stX q f lo sh S T none none none none none none none [])) (by kernel_rfl) ?_
    congr 2
    exact decide_eq_decide.mpr (by omega)
theorem pop_is {S : List PV} (hS : S.length ≤ 4000) (n : Nat) (t : List Nat) : lawF_15b_0 (stX q f lo sh (S ++ [ent n t]) T none none none none none none none []) = some (.next, stX q f lo sh S T none (some (.str (List.replicate n 32))) (some (.str t)) none none none none []) := by
  delta lawF_15b_0
  refine (fb_eq (a := ent n t) (σ := stX q f lo sh S T none none none none none none none []) ?_).trans rfl
  refine (fb_eq (a := PV.ref 6) (σ := stX q f lo sh (S ++ [ent n t]) T none none none none none none none []) rfl).trans ?_
  refine (if_pos (by kernel_rfl)).trans ?_
  show (if (S ++ [ent n t]).length ≤ 4096 then (match (S ++ [ent n t]).getLast? with
    | some v => some (v, ⟨(stX q f lo sh (S ++ [ent n t]) T none none none none none none none []).vars, [.tab 77, .tab 84, .gone, .gone, .gone, .gone, .acc f (S ++ [ent n t]).dropLast]⟩)
    | none => some (.tup [.str [], .str []], (stX q f lo sh (S ++ [ent n t]) T none none none none none none none []))) else none) = _
  rw [if_pos (by simp; omega), List.getLast?_concat, List.dropLast_concat]
  rfl
end
section
variable (q f : Nat) (lo sh : List Nat) (T : Int) (n : Nat) (t : List Nat)
theorem push1 {S : List PV} {p c : Nat} (hS : S.length ≤ 4000) (hb : belowL 7 (S ++ [ent (n + 1) (insL t p c)]) = true) (hn : n ≤ 9) (hc : sh[n]? = some c) (hsh : sh.length ≤ 64) (hp : p ≤ t.length) (ht : t.length < 7) :
    lawF_15b_1t_0b_0 (stX q f lo sh S T (some (.int p)) (some (.str (List.replicate n 32))) (some (.str t)) none none none none []) = some (.next, stX q f lo sh (S ++ [ent (n + 1) (insL t p c)]) T (some (.int p)) (some (.str (List.replicate n 32))) (some (.str t)) none none none none []) := by
  refine ffin_next (σ₁ := stX q f lo sh (S ++ [ent (n + 1) (insL t p c)]) T (some (.int p)) (some (.str (List.replicate n 32))) (some (.str t)) none none none none []) ?_ ?_
  · refine (fb_eq (a := PV.none) (σ := stX q f lo sh (S ++ [ent (n + 1) (insL t p c)]) T (some (.int p)) (some (.str (List.replicate n 32))) (some (.str t)) none none none none []) ?_).trans rfl
    generalize hσ : stX q f lo sh S T (some (.int p)) (some (.str (List.replicate n 32))) (some (.str t)) none none none none [] = σ
    refine (fb_eq (a := PV.ref 6) (σ := σ) (by rw [← hσ]; rfl)).trans ?_
    refine (if_pos (by rw [← hσ]; kernel_rfl)).trans ?_
    refine (fb_eq (a := [PV.str (List.replicate (n + 1) 32), PV.str (insL t p c)]) (σ := σ) ?_).trans ?_
    · refine (fb_eq (a := PV.str (List.replicate (n + 1) 32)) (σ := σ) ?_).trans ?_
      · refine (fb_eq (a := PV.str (List.replicate n 32)) (σ := σ) (by rw [← hσ]; rfl)).trans ?_
        refine (fb_eq (a := PV.str [32]) (σ := σ) rfl).trans ?_
        rw [List.replicate_succ']
        exact addS (by simp; omega) _
      refine (fb_eq (a := [PV.str (insL t p c)]) (σ := σ) ?_).trans rfl
      refine (fb_eq (a := PV.str (insL t p c)) (σ := σ) ?_).trans rfl
      have ht0 : fvar 20 σ = some (.str t, σ) := by rw [← hσ]; rfl
      have hp0 : fvar 8 σ = some (.int p, σ) := by rw [← hσ]; rfl
      refine (fb_eq (a := PV.str (t.take p ++ [c])) (σ := σ) ?_).trans ?_
      · refine (fb_eq (a := PV.str (t.take p)) (σ := σ) ?_).trans ?_
        · refine (fb_eq ht0).trans ?_
          refine (fb_eq (a := none) (σ := σ) rfl).trans ?_
          exact (fb_eq (a := some (p : Int)) (σ := σ) ((fb_eq hp0).trans rfl)).trans (fsl_take hp ht _)
        refine (fb_eq (a := PV.str [c]) (σ := σ) ?_).trans (addS (by simp; omega) _)
        refine (fb_eq (a := PV.str sh) (σ := σ) (by rw [← hσ]; rfl)).trans ?_
        refine (fb_eq (a := PV.int n) (σ := σ) ?_).trans (fgi_nat hc hsh _)
        refine (fb_eq (a := [PV.str (List.replicate n 32)]) (σ := σ) ((fb_eq (a := PV.str (List.replicate n 32)) (σ := σ) (by rw [← hσ]; rfl)).trans rfl)).trans ?_
        have := fLen_str (L := List.replicate n 32) (by simp; omega) σ
        rw [List.length_replicate] at this
        exact this
      · refine (fb_eq (a := PV.str (t.drop p)) (σ := σ) ?_).trans ?_
        · refine (fb_eq ht0).trans ?_
          exact (fb_eq (a := some (p : Int)) (σ := σ) ((fb_eq hp0).trans rfl)).trans (fsl_drop hp ht _)
        rw [show insL t p c = (t.take p ++ [c]) ++ t.drop p by simp [insL]]
        exact addS (by simp; omega) _
    · rw [← hσ]
      exact (push_is (l := 6) rfl (by omega)).trans rfl
  · unfold ffinC
    rw [if_pos (Eq.trans (b := (belowL 7 (S ++ [ent (n + 1) (insL t p c)]) && true)) (by kernel_rfl) (by rw [hb]; rfl))]
    kernel_rfl
end
end Mine
end
section
open PySem PySem.W PyProof.Rows PySem.Calls
set_option maxHeartbeats 400000
namespace Mine
section
variable (q f : Nat) (lo sh : List Nat) (T : Int) (n : Nat) (t : List Nat) (c : Nat)
theorem stk_snoc (X : List (Nat × List Nat)) (n : Nat) (t : List Nat) : stk (X ++ [(n, t)]) = stk X ++ [ent n t] := by unfold stk; rw [List.map_append]; rfl
theorem stk_len (X : List (Nat × List Nat)) : (stk X).length = X.length := List.length_map _
theorem cutP (X : List (Nat × List Nat)) (p : Int) (bl tx : List Nat) : ffinC [8] 7 (stX q f lo sh (stk X) T (some (.int p)) (some (.str bl)) (some (.str tx)) none none none none []) = some (stX q f lo sh (stk X) T none (some (.str bl)) (some (.str tx)) none none none none []) := by
  unfold ffinC
  rw [if_pos (Eq.trans (b := (belowL 7 (stk X) && true)) (by kernel_rfl) (by rw [stk_below]; rfl))]
  kernel_rfl
theorem cutP0 (X : List (Nat × List Nat)) (bl tx : List Nat) : ffinC [8] 7 (stX q f lo sh (stk X) T none (some (.str bl)) (some (.str tx)) none none none none []) = some (stX q f lo sh (stk X) T none (some (.str bl)) (some (.str tx)) none none none none []) := by
  unfold ffinC
  rw [if_pos (Eq.trans (b := (belowL 7 (stk X) && true)) (by kernel_rfl) (by rw [stk_below]; rfl))]
  kernel_rfl
theorem cutQ (X : List (Nat × List Nat)) (bl tx : List Nat) : ffinC [] 7 (stX q f lo sh (stk X) T none (some (.str bl)) (some (.str tx)) none none none none []) = some (stX q f lo sh (stk X) T none (some (.str bl)) (some (.str tx)) none none none none []) := by
  unfold ffinC
  rw [if_pos (Eq.trans (b := (belowL 7 (stk X) && true)) (by kernel_rfl) (by rw [stk_below]; rfl))]
  kernel_rfl
theorem cutZ (X : List (Nat × List Nat)) (bl tx : List Nat) : ffinC [8, 19, 20, 21, 22, 23, 24] 7 (stX q f lo sh (stk X) T none (some (.str bl)) (some (.str tx)) none none none none []) = some (stX q f lo sh (stk X) T none none none none none none none []) := by
  unfold ffinC
  rw [if_pos (Eq.trans (b := (belowL 7 (stk X) && true)) (by kernel_rfl) (by rw [stk_below]; rfl))]
  kernel_rfl
theorem loopP (hn : n ≤ 9) (hc : sh[n]? = some c) (hsh : sh.length ≤ 64) (ht : t.length < 7) : ∀ (m p N : Nat) (X : List (Nat × List Nat)), p + m = t.length + 1 → X.length + m ≤ 1000 →
    fforC [8] 7 (nxOf (.rng 0 ((t.length : Int) + 1) 1)) (fun v σ => some (fset 8 v σ)) (fseq lawF_15b_1t_0b_0 fun σ => some (.next, σ)) (N + m + 1) p (stX q f lo sh (stk X) T none (some (.str (List.replicate n 32))) (some (.str t)) none none none none []) =
      some (.next, stX q f lo sh (stk (X ++ (List.range' p m).map fun p => (n + 1, insL t p c))) T none (some (.str (List.replicate n 32))) (some (.str t)) none none none none []) := by
  intro m
  induction m with
  | zero =>
    intro p N X hp hX
    rw [show List.range' p 0 = [] from rfl, List.map_nil, List.append_nil]
    exact fforC_done (by rw [nx_rng (small_one (by omega) (by omega) (by omega) (by omega)), if_neg (by omega)])
  | succ m ih =>
    intro p N X hp hX
    have ih := ih (p + 1) N (X ++ [(n + 1, insL t p c)]) (by omega) (by simp; omega)
    rw [List.append_assoc] at ih
    rw [show N + (m + 1) + 1 = (N + m + 1) + 1 by omega]
    refine (fforC_step (v := .int p) (σ₁ := stX q f lo sh (stk X) T (some (.int p)) (some (.str (List.replicate n 32))) (some (.str t)) none none none none []) ?_ rfl ?_ (cutP q f lo sh T (X ++ [(n + 1, insL t p c)]) p (List.replicate n 32) t)).trans ih
    · rw [nx_rng (small_one (by omega) (by omega) (by omega) (by omega)), if_pos (by omega), Int.zero_add]
    · rw [stk_snoc]
      exact fseq_next (push1 q f lo sh T n t (by rw [stk_len]; omega) (by rw [← stk_snoc]; exact stk_below _ _) hn hc hsh (by omega) ht)
noncomputable def kids (n : Nat) (t : List Nat) (c : Nat) : List (Nat × List Nat) := (List.range (t.length + 1)).map fun p => (n + 1, insL t p c)
theorem lenB (hn : n ≤ 9) (σ : PS) : fLenA [.str (List.replicate n 32)] σ = some (.int n, σ) := by
  have := fLen_str (L := List.replicate n 32) (by simp; omega) σ
  rw [List.length_replicate] at this
  exact this
theorem testB {X : List (Nat × List Nat)} (hn : n ≤ 9) : fb (fb (fvar 19 (stX q f lo sh (stk X) T none (some (.str (List.replicate n 32))) (some (.str t)) none none none none [])) fun v σ => fbf (fun σ => some ([], σ)) σ fun vs σ => some (v :: vs, σ)) (fun vs σ => fLenA vs σ) = some (.int n, stX q f lo sh (stk X) T none (some (.str (List.replicate n 32))) (some (.str t)) none none none none []) :=
  (fb_eq (a := [PV.str (List.replicate n 32)]) (σ := stX q f lo sh (stk X) T none (some (.str (List.replicate n 32))) (some (.str t)) none none none none []) rfl).trans (lenB n hn _)
theorem brT (hn : n ≤ 9) (hq : n < q) (hc : sh[n]? = some c) (hsh : sh.length ≤ 64) (ht : t.length < 7) (X : List (Nat × List Nat)) (hX : X.length ≤ 900) :
    lawF_15b_1 (stX q f lo sh (stk X) T none (some (.str (List.replicate n 32))) (some (.str t)) none none none none []) = some (.next, stX q f lo sh (stk (X ++ kids n t c)) T none (some (.str (List.replicate n 32))) (some (.str t)) none none none none []) := by
  refine ffin_next (σ₁ := stX q f lo sh (stk (X ++ kids n t c)) T none (some (.str (List.replicate n 32))) (some (.str t)) none none none none []) ?_ (cutQ q f lo sh T _ _ _)
  refine (fb_eq (a := true) (σ := stX q f lo sh (stk X) T none (some (.str (List.replicate n 32))) (some (.str t)) none none none none []) ?_).trans ?_
  · refine (fb_eq (testB q f lo sh T n t hn)).trans ?_
    refine Eq.trans (b := some (decide ((n : Int) < q), stX q f lo sh (stk X) T none (some (.str (List.replicate n 32))) (some (.str t)) none none none none [])) (by kernel_rfl) ?_
    rw [decide_eq_true (by omega)]
  refine (fseq_next (σ₁ := stX q f lo sh (stk (X ++ kids n t c)) T none (some (.str (List.replicate n 32))) (some (.str t)) none none none none []) ?_).trans rfl
  have h := loopP q f lo sh T n t c hn hc hsh ht (t.length + 1) 0 (199 - (t.length + 1)) X (by omega) (by omega)
  rw [show 199 - (t.length + 1) + (t.length + 1) + 1 = 200 by omega, ← List.range_eq_range'] at h
  refine ffin_next (σ₁ := stX q f lo sh (stk (X ++ kids n t c)) T none (some (.str (List.replicate n 32))) (some (.str t)) none none none none []) ?_ (cutP0 q f lo sh T _ _ _)
  refine (fb_eq (a := PV.rng 0 ((t.length : Int) + 1) 1) (σ := stX q f lo sh (stk X) T none (some (.str (List.replicate n 32))) (some (.str t)) none none none none []) ?_).trans ((if_pos (by kernel_rfl)).trans h)
  refine (fb_eq (a := [PV.int ((t.length : Int) + 1)]) (σ := stX q f lo sh (stk X) T none (some (.str (List.replicate n 32))) (some (.str t)) none none none none []) ?_).trans rfl
  refine (fb_eq (a := PV.int ((t.length : Int) + 1)) (σ := stX q f lo sh (stk X) T none (some (.str (List.replicate n 32))) (some (.str t)) none none none none []) ?_).trans rfl
  refine (fb_eq (a := PV.int t.length) (σ := stX q f lo sh (stk X) T none (some (.str (List.replicate n 32))) (some (.str t)) none none none none []) ?_).trans rfl
  exact (fb_eq (a := [PV.str t]) (σ := stX q f lo sh (stk X) T none (some (.str (List.replicate n 32))) (some (.str t)) none none none none []) rfl).trans (fLen_str (by omega) _)
theorem turnP (hn : n ≤ 9) (hq : n < q) (hc : sh[n]? = some c) (hsh : sh.length ≤ 64) (ht : t.length < 7) (X : List (Nat × List Nat)) (hX : X.length ≤ 900) (N : Nat) :
    fwhileC [8, 19, 20, 21, 22, 23, 24] 7 testW bodyW (N + 1) (stX q f lo sh (stk (X ++ [(n, t)])) T none none none none none none none []) = fwhileC [8, 19, 20, 21, 22, 23, 24] 7 testW bodyW N (stX q f lo sh (stk (X ++ kids n t c)) T none none none none none none none []) := by
  refine fwhileC_step ((testW_is q f lo sh T (by rw [stk_len]; simp; omega)).trans (by rw [decide_eq_true (by rw [stk_len]; simp)])) ?_ (cutZ q f lo sh T _ (List.replicate n 32) t)
  rw [stk_snoc]
  exact (fseq_next (pop_is q f lo sh T (by rw [stk_len]; omega) n t)).trans ((fseq_next (brT q f lo sh T n t c hn hq hc hsh ht X hX)).trans rfl)
end
end Mine
end
section
open PySem PySem.W PyProof.Rows PySem.Calls
open PySem.Builtin PySem.Builtin.Str
set_option maxHeartbeats 400000
namespace Mine
noncomputable def atB (L w : List Nat) (hi k : Nat) : Bool := decide (k + w.length ≤ hi) && ((L.drop k).take w.length == w)
noncomputable def firstO (L w : List Nat) (lo hi : Nat) : Option Nat := (List.range' lo (hi + 1 - lo)).find? (atB L w hi)
theorem at_is (L w : List Nat) (hi k : Nat) : StrLaws.At (mkS' L) (mkS' w) hi k ↔ atB L w hi k = true := by
  unfold StrLaws.At atB
  rw [StrLaws.subAt_eq]
  simp
theorem find4_is (L w : List Nat) (lo hi : Nat) (h : hi ≤ L.length) : find4 (mkS' L) (mkS' w) lo hi = match firstO L w lo hi with | some k => (k : Int) | none => -1 := by
  have e1 : fromIndex (mkS' L).length (lo : Int) = lo := by unfold fromIndex; omega
  have e2 : min (fromIndex (mkS' L).length (hi : Int)) (mkS' L).length = hi := by
    have : fromIndex (mkS' L).length (hi : Int) = hi := by unfold fromIndex; omega
    rw [this, mkS'_len]; omega
  unfold find4
  rw [e1, e2, StrLaws.occ_eq]
  rcases StrLaws.occ_first (mkS' L) (mkS' w) hi 1 (Nat.le_refl 1) (List.range' lo (hi + 1 - lo)) lo (fun i hi => by have := List.mem_range'_1.mp hi; omega) with ⟨h0, hn⟩ | ⟨pre, k, post, e, h0, ha, hn⟩
  · have : firstO L w lo hi = none := by
      unfold firstO
      rw [List.find?_eq_none]
      intro i him
      rw [← at_is]
      exact hn i him
    rw [h0, this]
  · have : firstO L w lo hi = some k := by
      unfold firstO
      rw [List.find?_eq_some_iff_append]
      refine ⟨(at_is L w hi k).mp ha, pre, post, e, fun i hip => ?_⟩
      have := hn i hip
      rw [at_is] at this
      simpa using this
    rw [this]
    generalize (forIn (List.range' lo (hi + 1 - lo)) ((#[] : Array Nat), lo) (StrLaws.occBody (mkS' L) (mkS' w) hi 1)).run.fst = arr at h0
    have h1 : arr.toList[0]? = some k := by simpa using h0
    cases hL : arr.toList with
    | nil => rw [hL] at h1; cases h1
    | cons b t => rw [hL] at h1; simp at h1; rw [h1]
theorem first_some {L w : List Nat} {lo hi k : Nat} (h : firstO L w lo hi = some k) : lo ≤ k ∧ atB L w hi k = true ∧ ∀ m, lo ≤ m → m < k → atB L w hi m = false := by
  unfold firstO at h
  rw [List.find?_eq_some_iff_append] at h
  obtain ⟨hk, pre, post, e, hn⟩ := h
  have hs := StrLaws.range'_split_from e
  exact ⟨hs.1, hk, fun m h1 h2 => by simpa using hn m (hs.2 m h1 h2)⟩
theorem first_none {L w : List Nat} {lo hi : Nat} (h : firstO L w lo hi = none) : ∀ m, lo ≤ m → atB L w hi m = false := by
  intro m hm
  unfold firstO at h
  rw [List.find?_eq_none] at h
  by_cases hc : m ≤ hi
  · have := h m (by rw [List.mem_range'_1]; omega)
    simpa using this
  · unfold atB
    rw [show decide (m + w.length ≤ hi) = false by simp; omega]
    rfl
theorem at_nil (L : List Nat) {hi k : Nat} (h : k ≤ hi) : atB L [] hi k = true := by simp [atB, h]
theorem at_one {L : List Nat} {x hi k : Nat} : atB L [x] hi k = true ↔ k + 1 ≤ hi ∧ L[k]? = some x := by
  unfold atB
  rw [Bool.and_eq_true, decide_eq_true_eq]
  show _ ∧ ((L.drop k).take 1 == [x]) = true ↔ _
  rw [StrLaws.take1_drop]
  rfl
noncomputable def findsP (L : List Nat) : List (List Nat) → Nat → Nat → Bool
  | [], _, _ => true
  | w :: ws, lo, hi => match firstO L w lo hi with
    | some k => findsP L ws (k + w.length) hi
    | none => false
theorem ffor_step {nx : Nat → PS → Option (Option PV)} {st : PV → PS → Option PS} {b : PS → Option (Fl × PS)} {n i : Nat} {σ σ₁ σ₂ : PS} {v : PV} (hn : nx i σ = some (some v)) (hs : st v σ = some σ₁) (hb : b σ₁ = some (.next, σ₂)) :
    ffor nx st b (n + 1) i σ = ffor nx st b n (i + 1) σ₂ := by
  rw [ffor, hn]; dsimp only; rw [hs]; dsimp only; rw [fb_eq hb]
theorem ffor_ret {nx : Nat → PS → Option (Option PV)} {st : PV → PS → Option PS} {b : PS → Option (Fl × PS)} {n i : Nat} {σ σ₁ σ₂ : PS} {v r : PV} (hn : nx i σ = some (some v)) (hs : st v σ = some σ₁) (hb : b σ₁ = some (.ret r, σ₂)) :
    ffor nx st b (n + 1) i σ = some (.ret r, σ₂) := by
  rw [ffor, hn]; dsimp only; rw [hs]; dsimp only; rw [fb_eq hb]
theorem ffor_done {nx : Nat → PS → Option (Option PV)} {st : PV → PS → Option PS} {b : PS → Option (Fl × PS)} {n i : Nat} {σ : PS} (hn : nx i σ = some none) : ffor nx st b (n + 1) i σ = some (.next, σ) := by
  rw [ffor, hn]
noncomputable def fOr : Option Nat → Int
  | some k => k
  | none => -1
theorem find4_fOr (L w : List Nat) (lo hi : Nat) (h : hi ≤ L.length) : find4 (mkS' L) (mkS' w) lo hi = fOr (firstO L w lo hi) := by
  rw [find4_is L w lo hi h]
  cases firstO L w lo hi <;> rfl
section
variable (want L : List Nat) (A : PO)
noncomputable def stEl (sp ep w : Option PV) (ws : List (List Nat)) : PS := ⟨[some (.str want), some (.str L), some (.ref 7), sp, ep, w], [.tab 77, .tab 84, .gone, .gone, .gone, .gone, A, .list (ws.map .str)]⟩
noncomputable def stE0 : PS := ⟨[some (.str want), some (.str L), none, none, none, none], [.tab 77, .tab 84, .gone, .gone, .gone, .gone, A]⟩
noncomputable def bodyE : List (PS → Option (Fl × PS)) := [ellF_9b_0, ellF_9b_1, ellF_9b_2]
theorem elb0 (lo hi : Nat) (hh : hi ≤ L.length) (w : List Nat) (ws : List (List Nat)) (r : Int) (hr : fOr (firstO L w lo hi) = r) :
    ellF_9b_0 (stEl want L A (some (.int lo)) (some (.int hi)) (some (.str w)) ws) = some (.next, stEl want L A (some (.int r)) (some (.int hi)) (some (.str w)) ws) := by
  delta ellF_9b_0; refine (fb_eq (a := PV.int r) (σ := stEl want L A (some (.int lo)) (some (.int hi)) (some (.str w)) ws) ?_).trans rfl
  show some (PV.int (find4 (mkS' L) (mkS' w) lo hi), _) = _
  rw [find4_fOr L w lo hi hh, hr]
theorem elb1n (k hi : Nat) (w : List Nat) (ws : List (List Nat)) :
    ellF_9b_1 (stEl want L A (some (.int k)) (some (.int hi)) (some (.str w)) ws) = some (.next, stEl want L A (some (.int k)) (some (.int hi)) (some (.str w)) ws) := by
  delta ellF_9b_1; refine (fb_eq (a := false) (σ := stEl want L A (some (.int k)) (some (.int hi)) (some (.str w)) ws) ?_).trans rfl
  show some (decide ((k : Int) < 0), _) = _
  rw [decide_eq_false (by omega)]
theorem elb1r (hi : Nat) (w : List Nat) (ws : List (List Nat)) :
    ellF_9b_1 (stEl want L A (some (.int (-1))) (some (.int hi)) (some (.str w)) ws) = some (.ret (.bool false), stEl want L A (some (.int (-1))) (some (.int hi)) (some (.str w)) ws) := by kernel_rfl
theorem elb2 (k hi : Nat) (w : List Nat) (hw : w.length ≤ 4096) (ws : List (List Nat)) :
    ellF_9b_2 (stEl want L A (some (.int k)) (some (.int hi)) (some (.str w)) ws) = some (.next, stEl want L A (some (.int (k + w.length : Nat))) (some (.int hi)) (some (.str w)) ws) := by
  refine (fb_eq (a := PV.int k) (σ := stEl want L A (some (.int k)) (some (.int hi)) (some (.str w)) ws) rfl).trans ?_
  refine (fb_eq (a := PV.int w.length) (σ := stEl want L A (some (.int k)) (some (.int hi)) (some (.str w)) ws) ?_).trans rfl
  exact if_pos hw
theorem ellLoop (ws : List (List Nat)) (hws : ∀ w ∈ ws, w.length ≤ 4096) (hi : Nat) (hh : hi ≤ L.length) : ∀ (rest pre : List (List Nat)) (n lo : Nat) (w0 : Option PV), pre ++ rest = ws →
    ∃ σ', σ'.mem = (stEl want L A none none none ws).mem ∧ ffor (nxOf (.ref 7)) (fun v σ => some (fset 5 v σ)) (seqs bodyE) (n + rest.length + 1) pre.length (stEl want L A (some (.int lo)) (some (.int hi)) w0 ws) =
      some (cond (findsP L rest lo hi) Fl.next (.ret (.bool false)), σ') := by
  intro rest
  induction rest with
  | nil =>
    intro pre n lo w0 h
    have e : ws = pre := by simpa using h.symm
    subst e
    exact ⟨stEl want L A (some (.int lo)) (some (.int hi)) w0 ws, rfl, ffor_done (by
      show some ((ws.map PV.str)[ws.length]?) = some none
      rw [List.getElem?_eq_none (by simp)])⟩
  | cons w rest ih =>
    intro pre n lo w0 h
    have hw : w.length ≤ 4096 := hws w (h ▸ List.mem_append_right _ (.head _))
    have hn : nxOf (.ref 7) pre.length (stEl want L A (some (.int lo)) (some (.int hi)) w0 ws) = some (some (.str w)) := by
      show some ((ws.map PV.str)[pre.length]?) = _
      rw [← h]; simp
    rw [show n + (w :: rest).length + 1 = (n + rest.length + 1) + 1 by simp; omega]
    unfold findsP
    cases hf : firstO L w lo hi with
    | none =>
      refine ⟨stEl want L A (some (.int (-1))) (some (.int hi)) (some (.str w)) ws, rfl, ?_⟩
      refine ffor_ret (r := .bool false) hn rfl ?_
      refine (fseq_next (elb0 want L A lo hi hh w ws (-1) (by rw [hf]; rfl))).trans ?_
      exact fseq_ret (elb1r want L A hi w ws)
    | some k =>
      obtain ⟨σ', h1, h2⟩ := ih (pre ++ [w]) n (k + w.length) (some (.str w)) (by rw [← h]; simp)
      refine ⟨σ', h1, ?_⟩
      rw [List.length_append, List.length_singleton] at h2
      refine Eq.trans ?_ h2
      refine ffor_step hn rfl ?_
      refine (fseq_next (elb0 want L A lo hi hh w ws k (by rw [hf]; rfl))).trans ?_
      refine (fseq_next (elb1n want L A k hi w ws)).trans ?_
      exact (fseq_next (elb2 want L A k hi w hw ws)).trans rfl
end
theorem first_nil {L : List Nat} {lo hi : Nat} (h : lo ≤ hi) : firstO L [] lo hi = some lo := by
  cases hf : firstO L [] lo hi with
  | none => exact absurd (at_nil L h) (by rw [first_none hf lo (Nat.le_refl _)]; decide)
  | some k =>
    obtain ⟨h1, h2, h3⟩ := first_some hf
    rcases Nat.eq_or_lt_of_le h1 with e | e
    · rw [e]
    · exact absurd (at_nil L h) (by rw [h3 lo (Nat.le_refl _) e]; decide)
theorem finds_nil {L : List Nat} {ws : List (List Nat)} {lo hi : Nat} (h : lo ≤ hi) : findsP L ([] :: ws) lo hi = findsP L ws lo hi := by
  rw [findsP, first_nil h]; rfl
theorem first_at {L : List Nat} (hL : L.Nodup) {i x lo : Nat} (h : L[i]? = some x) (hlo : lo ≤ i) : firstO L [x] lo L.length = some i := by
  have hi := (List.getElem?_eq_some_iff.mp h).1
  cases hf : firstO L [x] lo L.length with
  | none => exact absurd (at_one.mpr ⟨hi, h⟩) (by rw [first_none hf i hlo]; decide)
  | some k =>
    have hk := (at_one.mp (first_some hf).2.1).2
    have hk' := (List.getElem?_eq_some_iff.mp hk).1
    exact congrArg some ((List.getElem?_inj hk' hL).mp (hk.trans h.symm))
theorem first_no {L : List Nat} (hL : L.Nodup) {i x lo : Nat} (h : L[i]? = some x) (hlo : i < lo) : firstO L [x] lo L.length = none := by
  cases hf : firstO L [x] lo L.length with
  | none => rfl
  | some k =>
    have hk := (at_one.mp (first_some hf).2.1).2
    have hk' := (List.getElem?_eq_some_iff.mp hk).1
    have := (List.getElem?_inj hk' hL).mp (hk.trans h.symm)
    have := (first_some hf).1
    omega
theorem finds_1 {L : List Nat} (hL : L.Nodup) {i x : Nat} (h : L[i]? = some x) : findsP L [[], [x], []] 0 L.length = true := by
  have hi := (List.getElem?_eq_some_iff.mp h).1
  rw [finds_nil (Nat.zero_le _), findsP, first_at hL h (Nat.zero_le _)]
  show findsP L [[]] (i + 1) L.length = true
  rw [finds_nil (by omega)]; rfl
theorem finds_2 {L : List Nat} (hL : L.Nodup) {i j x y : Nat} (h : L[i]? = some x) (h2 : L[j]? = some y) (hij : i ≠ j) : findsP L [[], [x], [y], []] 0 L.length = decide (i ≤ j) := by
  have hj := (List.getElem?_eq_some_iff.mp h2).1
  rw [finds_nil (Nat.zero_le _), findsP, first_at hL h (Nat.zero_le _)]
  show findsP L [[y], []] (i + 1) L.length = _
  rw [findsP]
  by_cases hc : i ≤ j
  · rw [first_at hL h2 (by omega), decide_eq_true hc]
    show findsP L [[]] (j + 1) L.length = true
    rw [finds_nil (by omega)]; rfl
  · rw [first_no hL h2 (by omega), decide_eq_false hc]
theorem find_first (L w : List Nat) : Txt.find (mkS' L) (mkS' w) = fOr (firstO L w 0 L.length) := by
  rw [← find4_fOr L w 0 L.length (Nat.le_refl _)]
  have e1 : fromIndex (mkS' L).length ((0 : Nat) : Int) = 0 := by unfold fromIndex; omega
  have e2 : min (fromIndex (mkS' L).length (L.length : Int)) (mkS' L).length = (mkS' L).length := by
    have : fromIndex (mkS' L).length (L.length : Int) = L.length := by unfold fromIndex; omega
    rw [this, mkS'_len]; omega
  unfold find4 Txt.find
  rw [e1, e2]
  cases occurrences (mkS' L) (mkS' w) 0 (mkS' L).length 1 <;> rfl
noncomputable def want1 (x : Nat) : List Nat := [46, 46, 46, x, 46, 46, 46]
noncomputable def want2 (x y : Nat) : List Nat := [46, 46, 46, x, 46, 46, 46, y, 46, 46, 46]
theorem ellPre1 (L : List Nat) (A : PO) : (base6.map fun x => seqs [ellF_0, ellF_1, ellF_2] (stE0 (want1 x) L A)) = base6.map fun x => some (.next, stEl (want1 x) L A none none none [[], [x], []]) := by kernel_rfl
theorem ellPre2 (L : List Nat) (A : PO) : (base6.map fun x => base6.map fun y => seqs [ellF_0, ellF_1, ellF_2] (stE0 (want2 x y) L A)) = base6.map fun x => base6.map fun y => some (.next, stEl (want2 x y) L A none none none [[], [x], [y], []]) := by kernel_rfl
section
variable (want : List Nat) (t0 t1 t2 t3 t4 t5 : Nat) (A : PO) (x y : Nat)
theorem ellMid1 : seqs [ellF_3, ellF_4, ellF_5, ellF_6, ellF_7, ellF_8] (stEl want [t0, t1, t2, t3, t4, t5] A none none none [[], [x], []]) = some (.next, stEl want [t0, t1, t2, t3, t4, t5] A (some (.int 0)) (some (.int 6)) (some (.str [])) [[], [x], []]) := by kernel_rfl
theorem ellMid2 : seqs [ellF_3, ellF_4, ellF_5, ellF_6, ellF_7, ellF_8] (stEl want [t0, t1, t2, t3, t4, t5] A none none none [[], [x], [y], []]) = some (.next, stEl want [t0, t1, t2, t3, t4, t5] A (some (.int 0)) (some (.int 6)) (some (.str [])) [[], [x], [y], []]) := by kernel_rfl
end
theorem ellEnd (want L : List Nat) (A : PO) (ws : List (List Nat)) (hws : ∀ w ∈ ws, w.length ≤ 4096) (hwl : ws.length ≤ 100) (w0 : Option PV) :
    ∃ σ', σ'.mem = (stEl want L A none none none ws).mem ∧ seqs [ellF_9, ellF_10] (stEl want L A (some (.int 0)) (some (.int L.length)) w0 ws) = some (.ret (.bool (findsP L ws 0 L.length)), σ') := by
  obtain ⟨σ', h1, h2⟩ := ellLoop want L A ws hws L.length (Nat.le_refl _) ws [] (199 - ws.length) 0 w0 rfl
  rw [show 199 - ws.length + ws.length + 1 = 200 by omega] at h2
  refine ⟨σ', h1, ?_⟩
  have h9 : ellF_9 (stEl want L A (some (.int 0)) (some (.int L.length)) w0 ws) = some (cond (findsP L ws 0 L.length) Fl.next (.ret (.bool false)), σ') := by delta ellF_9; exact (fb_eq (a := PV.ref 7) (σ := stEl want L A (some (.int 0)) (some (.int L.length)) w0 ws) rfl).trans h2
  cases hf : findsP L ws 0 L.length with
  | true => rw [hf] at h9; exact (fseq_next h9).trans rfl
  | false => rw [hf] at h9; exact fseq_ret h9
theorem ellF_is (σ : PS) : ellF σ = seqs ([ellF_0, ellF_1, ellF_2] ++ ([ellF_3, ellF_4, ellF_5, ellF_6, ellF_7, ellF_8] ++ [ellF_9, ellF_10])) σ := rfl
theorem cEll_1 {L : List Nat} (hl : L.length = 6) (hL : L.Nodup) {i x : Nat} (h : L[i]? = some x) (hx : x ∈ base6) (vs : List (Option PV)) (A : PO) :
    cEll [.str (want1 x), .str L] ⟨vs, [.tab 77, .tab 84, .gone, .gone, .gone, .gone, A]⟩ = some (.bool true, ⟨vs, [.tab 77, .tab 84, .gone, .gone, .gone, .gone, A, .list [.str [], .str [x], .str []]]⟩) := by
  obtain ⟨σ', h1, h2⟩ := ellEnd (want1 x) L A [[], [x], []] (by simp) (by simp) (some (.str []))
  rw [finds_1 hL h] at h2
  have e : ellF (stE0 (want1 x) L A) = some (.ret (.bool true), σ') := by
    refine (ellF_is _).trans ((seqs_app (List.map_inj_left.mp (ellPre1 L A) x hx)).trans ?_)
    obtain ⟨t0, t1, t2, t3, t4, t5, rfl⟩ := len6 hl
    exact (seqs_app (ellMid1 _ t0 t1 t2 t3 t4 t5 A x)).trans h2
  have := fcall_ret (d := dEll .none .none .none) (F := ellF) (vs := [.str (want1 x), .str L]) (σ := ⟨vs, [.tab 77, .tab 84, .gone, .gone, .gone, .gone, A]⟩) rfl e
  rw [h1] at this
  exact this
theorem cEll_2 {L : List Nat} (hl : L.length = 6) (hL : L.Nodup) {i j x y : Nat} (h : L[i]? = some x) (h' : L[j]? = some y) (hij : i ≠ j) (hx : x ∈ base6) (hy : y ∈ base6) (vs : List (Option PV)) (A : PO) :
    cEll [.str (want2 x y), .str L] ⟨vs, [.tab 77, .tab 84, .gone, .gone, .gone, .gone, A]⟩ = some (.bool (decide (i ≤ j)), ⟨vs, [.tab 77, .tab 84, .gone, .gone, .gone, .gone, A, .list [.str [], .str [x], .str [y], .str []]]⟩) := by
  obtain ⟨σ', h1, h2⟩ := ellEnd (want2 x y) L A [[], [x], [y], []] (by simp) (by simp) (some (.str []))
  rw [finds_2 hL h h' hij] at h2
  have e : ellF (stE0 (want2 x y) L A) = some (.ret (.bool (decide (i ≤ j))), σ') := by
    refine (ellF_is _).trans ((seqs_app (List.map_inj_left.mp (List.map_inj_left.mp (ellPre2 L A) x hx) y hy)).trans ?_)
    obtain ⟨t0, t1, t2, t3, t4, t5, rfl⟩ := len6 hl
    exact (seqs_app (ellMid2 _ t0 t1 t2 t3 t4 t5 A x y)).trans h2
  have := fcall_ret (d := dEll .none .none .none) (F := ellF) (vs := [.str (want2 x y), .str L]) (σ := ⟨vs, [.tab 77, .tab 84, .gone, .gone, .gone, .gone, A]⟩) rfl e
  rw [h1] at this
  exact this
end Mine
end
section
open PySem PySem.W PyProof.Rows PySem.Calls
open PySem.Builtin PySem.Builtin.Str
set_option maxHeartbeats 400000
namespace Mine
section
variable (q f : Nat) (lo sh : List Nat) (X : List (Nat × List Nat)) (T : Int) (bl t : List Nat) (W : PO)
theorem e0_1 (ht : t.length = 6) (hN : t.Nodup) {i x : Nat} (h : t[i]? = some x) (hx : x ∈ base6) :
    lawF_15b_1e_0 (stX q f lo [x] (stk X) T none (some (.str bl)) (some (.str t)) none none none none []) = some (.next, stX q f lo [x] (stk X) T none (some (.str bl)) (some (.str t)) (some (.bool true)) none none none [.list [.str [], .str [x], .str []]]) := by
  have hc := cEll_1 ht hN h hx (stX q f lo [x] (stk X) T none (some (.str bl)) (some (.str t)) none none none none []).vars (.acc f (stk X))
  delta lawF_15b_1e_0
  refine (fb_eq (a := PV.bool true) (σ := stX q f lo [x] (stk X) T none (some (.str bl)) (some (.str t)) none none none none [.list [.str [], .str [x], .str []]]) ?_).trans rfl
  exact (fb_eq (a := [PV.str (want1 x), .str t]) (σ := stX q f lo [x] (stk X) T none (some (.str bl)) (some (.str t)) none none none none []) (by kernel_rfl)).trans hc
theorem e0_2 (ht : t.length = 6) (hN : t.Nodup) {i j x y : Nat} (h : t[i]? = some x) (h' : t[j]? = some y) (hij : i ≠ j) (hx : x ∈ base6) (hy : y ∈ base6) :
    lawF_15b_1e_0 (stX q f lo [x, y] (stk X) T none (some (.str bl)) (some (.str t)) none none none none []) = some (.next, stX q f lo [x, y] (stk X) T none (some (.str bl)) (some (.str t)) (some (.bool (decide (i ≤ j)))) none none none [.list [.str [], .str [x], .str [y], .str []]]) := by
  have hc := cEll_2 ht hN h h' hij hx hy (stX q f lo [x, y] (stk X) T none (some (.str bl)) (some (.str t)) none none none none []).vars (.acc f (stk X))
  delta lawF_15b_1e_0
  refine (fb_eq (a := PV.bool (decide (i ≤ j))) (σ := stX q f lo [x, y] (stk X) T none (some (.str bl)) (some (.str t)) none none none none [.list [.str [], .str [x], .str [y], .str []]]) ?_).trans rfl
  exact (fb_eq (a := [PV.str (want2 x y), .str t]) (σ := stX q f lo [x, y] (stk X) T none (some (.str bl)) (some (.str t)) none none none none []) (by kernel_rfl)).trans hc
theorem cut8 (hW : belowO 8 W = true) (fd : Bool) : ffinC [] 8 (stX q f lo sh (stk X) T none (some (.str bl)) (some (.str t)) (some (.bool fd)) none none none [W]) = some (stX q f lo sh (stk X) T none (some (.str bl)) (some (.str t)) (some (.bool fd)) none none none [W]) := by
  unfold ffinC
  rw [if_pos (Eq.trans (b := (belowL 8 (stk X) && (belowO 8 W && true))) (by kernel_rfl) (by rw [stk_below, hW]; rfl))]
  kernel_rfl
theorem find_at (ht : t.length ≤ 64) (hN : t.Nodup) {i x : Nat} (h : t[i]? = some x) (σ : PS) : cFind [.str t, .str [x]] σ = some (.int i, σ) := by
  show some (PV.int (Txt.find (mkS' t) (mkS' [x])), σ) = _
  rw [find_first, first_at hN h (Nat.zero_le _)]; rfl
theorem e1_is (ht : t.length ≤ 64) (hN : t.Nodup) {i j x y : Nat} (h : t[i]? = some x) (h' : t[j]? = some y) (hx : ∀ σ, fgi (.str sh) (.int 0) σ = some (.str [x], σ)) (hy : ∀ σ, fgi (.str sh) (.int (-1)) σ = some (.str [y], σ)) (hW : belowO 8 W = true) :
    lawF_15b_1e_1 (stX q f lo sh (stk X) T none (some (.str bl)) (some (.str t)) (some (.bool (decide (i ≤ j)))) none none none [W]) = some (.next, stX q f lo sh (stk X) T none (some (.str bl)) (some (.str t)) (some (.bool (decide (i ≤ j)))) none none none [W]) := by
  refine ffin_next (σ₁ := stX q f lo sh (stk X) T none (some (.str bl)) (some (.str t)) (some (.bool (decide (i ≤ j)))) none none none [W]) ?_ (cut8 q f lo sh X T bl t W hW _)
  generalize hσ : stX q f lo sh (stk X) T none (some (.str bl)) (some (.str t)) (some (.bool (decide (i ≤ j)))) none none none [W] = σ
  have hv : fvar 20 σ = some (.str t, σ) := by rw [← hσ]; rfl
  have hs : fvar 16 σ = some (.str sh, σ) := by rw [← hσ]; rfl
  refine (fb_eq (a := false) (σ := σ) ?_).trans rfl
  refine (fb_eq (a := PV.bool (decide (i ≤ j))) (σ := σ) (by rw [← hσ]; rfl)).trans ?_
  refine (fb_eq (a := PV.bool (decide (i ≤ j))) (σ := σ) ?_).trans (by cases decide (i ≤ j) <;> rfl)
  refine (fb_eq (a := PV.int i) (σ := σ) ?_).trans ?_
  · refine (fb_eq hv).trans ?_
    exact (fb_eq (a := [PV.str [x]]) (σ := σ) ((fb_eq (a := PV.str [x]) (σ := σ) ((fb_eq hs).trans (hx σ))).trans rfl)).trans (find_at t ht hN h σ)
  refine (fb_eq (a := PV.int j) (σ := σ) ?_).trans ?_
  · refine (fb_eq hv).trans ?_
    exact (fb_eq (a := [PV.str [y]]) (σ := σ) ((fb_eq (a := PV.str [y]) (σ := σ) ((fb_eq hs).trans (hy σ))).trans rfl)).trans (find_at t ht hN h' σ)
  · show some (PV.bool (decide ((i : Int) ≤ j)), σ) = _
    rw [show decide ((i : Int) ≤ j) = decide (i ≤ j) from decide_eq_decide.mpr (by omega)]
end
end Mine
end
section
open PySem PySem.W PyProof.Rows PySem.Calls
open PySem.Builtin PySem.Builtin.Str
set_option maxHeartbeats 400000
namespace Mine
noncomputable def fl (t : List Nat) (p : Nat) : Bool := Nat.blt (t.getD p 0) (t.getD (p - 1) 0)
noncomputable def sg (b : Bool) : Int := cond b 1 (-1)
noncomputable def pgB (b : Nat → Bool) (t : List Nat) (p : Nat) : List PV := (List.range p).map fun i => PV.tup [.str (cond (b i) (List.replicate i 32) []), .str [t.getD i 0]]
noncomputable def cnB (b : Nat → Bool) : Nat → Nat
  | 0 => 0
  | p + 1 => cnB b p + cond (b p) 1 0
theorem pg_below (k : Nat) (b : Nat → Bool) (t : List Nat) (p : Nat) : belowL k (pgB b t p) = true := by
  unfold pgB
  induction List.range p with
  | nil => rfl
  | cons a r ih => show (true && belowL k (r.map _)) = true; rw [ih]; rfl
theorem pg_succ (b : Nat → Bool) (t : List Nat) (p : Nat) : pgB b t (p + 1) = pgB b t p ++ [PV.tup [.str (cond (b p) (List.replicate p 32) []), .str [t.getD p 0]]] := by
  unfold pgB; rw [List.range_succ, List.map_append]; rfl
noncomputable def bodyG : PS → Option (Fl × PS) := fseq lawF_15b_1e_2t_1b_0 (fseq lawF_15b_1e_2t_1b_1 (fseq lawF_15b_1e_2t_1b_2 (fseq lawF_15b_1e_2t_1b_3 fun σ => some (.next, σ))))
section
variable (q f : Nat) (lo sh : List Nat) (X : List (Nat × List Nat)) (T : Int) (bl t : List Nat) (W : PO)
noncomputable def stG (pl sd : Option Int) (c : Nat) (P : List PV) : PS := stX q f lo sh (stk X) T (pl.map .int) (some (.str bl)) (some (.str t)) (some (.bool true)) (some (.ref 8)) (some (.int c)) (sd.map .int) [W, .acc f P]
theorem cutG (hW : belowO 9 W = true) (b : Nat → Bool) (p : Nat) (pl sd : Option Int) (c : Nat) : ffinC [] 9 (stG q f lo sh X T bl t W pl sd c (pgB b t p)) = some (stG q f lo sh X T bl t W pl sd c (pgB b t p)) := by
  unfold ffinC
  rw [if_pos (Eq.trans (b := (belowL 9 (stk X) && (belowO 9 W && (belowL 9 (pgB b t p) && true)))) (by kernel_rfl) (by rw [stk_below, hW, pg_below]; rfl))]
  cases pl <;> cases sd <;> kernel_rfl
theorem cutH (hW : belowO 9 W = true) (b : Nat → Bool) (p : Nat) (pl sd : Option Int) (c : Nat) : ffinC [8, 24] 9 (stG q f lo sh X T bl t W pl sd c (pgB b t p)) = some (stG q f lo sh X T bl t W none none c (pgB b t p)) := by
  unfold ffinC
  rw [if_pos (Eq.trans (b := (belowL 9 (stk X) && (belowO 9 W && (belowL 9 (pgB b t p) && true)))) (by kernel_rfl) (by rw [stk_below, hW, pg_below]; rfl))]
  cases pl <;> cases sd <;> kernel_rfl
theorem side_is (ht : t.length = 6) (hN : t.Nodup) {p : Nat} (hp : p < 6) (c : Nat) (P : List PV) : lawF_15b_1e_2t_1b_0 (stG q f lo sh X T bl t W (some p) none c P) = some (.next, stG q f lo sh X T bl t W (some p) (some (sg (fl t p))) c P) := by
  induction p using natC with
  | zero =>
    rw [show fl t 0 = false from Bool.eq_false_iff.mpr fun h => Nat.lt_irrefl _ (Nat.le_of_ble_eq_true h)]
    kernel_rfl
  | succ p =>
    generalize hσ : stG q f lo sh X T bl t W (some ((p + 1 : Nat) : Int)) none c P = σ
    have hv : fvar 20 σ = some (.str t, σ) := by rw [← hσ]; rfl
    have hq : fvar 8 σ = some (.int ((p + 1 : Nat) : Int), σ) := by rw [← hσ]; rfl
    have e1 : t.drop p = t.getD p 0 :: t.drop (p + 1) := by
      rw [List.drop_eq_getElem_cons (by omega)]; simp [show p < t.length by omega]
    have e2 : t.drop (p + 1) = t.getD (p + 1) 0 :: t.drop (p + 2) := by
      rw [List.drop_eq_getElem_cons (by omega)]; simp [show p + 1 < t.length by omega]
    have hne : t.getD p 0 ≠ t.getD (p + 1) 0 := by
      intro h
      have h3 : t[p]? = t[p + 1]? := by
        rw [List.getElem?_eq_getElem (by omega), List.getElem?_eq_getElem (by omega)]
        simpa [show p < t.length by omega, show p + 1 < t.length by omega] using h
      have := (List.getElem?_inj (by omega) hN).mp h3
      omega
    have hc : cStrcoll [.str (t.drop p), .str (t.drop (p + 1))] σ = some (.int (sg (fl t (p + 1))), σ) := by
      show _ = some (PV.int (sg (Nat.blt (t.getD (p + 1) 0) (t.getD p 0))), σ)
      rw [e1]
      rcases Nat.lt_or_ge (t.getD (p + 1) 0) (t.getD p 0) with h | h
      · rw [show Nat.blt (t.getD (p + 1) 0) (t.getD p 0) = true from Nat.ble_eq_true_of_le h]
        exact coll_gt (by rw [e2]; exact List.cons_lt_cons_iff.mpr (.inl h)) σ
      · rw [show Nat.blt (t.getD (p + 1) 0) (t.getD p 0) = false from by rw [Bool.eq_false_iff]; intro h'; have := Nat.le_of_ble_eq_true h'; omega]
        exact coll_lt (by rw [e2]; exact List.cons_lt_cons_iff.mpr (.inl (by omega))) σ
    delta lawF_15b_1e_2t_1b_0
    refine (fb_eq (a := PV.int (sg (fl t (p + 1)))) (σ := σ) ?_).trans (by rw [← hσ]; rfl)
    refine (fb_eq (a := true) (σ := σ) ?_).trans ?_
    · refine (fb_eq hq).trans ?_
      show some (decide ((0 : Int) < ((p + 1 : Nat) : Int)), σ) = _
      rw [decide_eq_true (by omega)]
    refine (fb_eq (a := [PV.str (t.drop p), PV.str (t.drop (p + 1))]) (σ := σ) ?_).trans hc
    refine (fb_eq (a := PV.str (t.drop p)) (σ := σ) ?_).trans ?_
    · refine (fb_eq hv).trans ?_
      refine (fb_eq (a := some (p : Int)) (σ := σ) ?_).trans (fsl_drop (by omega) (by omega) _)
      refine (fb_eq (a := PV.int p) (σ := σ) ?_).trans rfl
      refine (fb_eq hq).trans ?_
      show some (PV.int (((p + 1 : Nat) : Int) - 1), σ) = _
      rw [show ((p + 1 : Nat) : Int) - 1 = p by omega]
    · refine (fb_eq (a := [PV.str (t.drop (p + 1))]) (σ := σ) ?_).trans rfl
      refine (fb_eq (a := PV.str (t.drop (p + 1))) (σ := σ) ?_).trans rfl
      refine (fb_eq hv).trans ?_
      exact (fb_eq (a := some ((p + 1 : Nat) : Int)) (σ := σ) ((fb_eq hq).trans rfl)).trans (fsl_drop (by omega) (by omega) _)
theorem chk_is (hW : belowO 9 W = true) (b : Nat → Bool) (p : Nat) (pl : Int) (s : Bool) (c : Nat) : lawF_15b_1e_2t_1b_1 (stG q f lo sh X T bl t W (some pl) (some (sg s)) c (pgB b t p)) = some (.next, stG q f lo sh X T bl t W (some pl) (some (sg s)) c (pgB b t p)) := by
  refine ffin_next (σ₁ := stG q f lo sh X T bl t W (some pl) (some (sg s)) c (pgB b t p)) ?_ (cutG q f lo sh X T bl t W hW b p _ _ c)
  cases s <;> kernel_rfl
theorem pagePush (hW : belowO 9 W = true) (ht : t.length = 6) {b : Nat → Bool} {p : Nat} (hp : p < 6) (c : Nat) : lawF_15b_1e_2t_1b_2 (stG q f lo sh X T bl t W (some p) (some (sg (b p))) c (pgB b t p)) = some (.next, stG q f lo sh X T bl t W (some p) (some (sg (b p))) c (pgB b t (p + 1))) := by
  refine ffin_next (σ₁ := stG q f lo sh X T bl t W (some p) (some (sg (b p))) c (pgB b t (p + 1))) ?_ (cutG q f lo sh X T bl t W hW b (p + 1) _ _ c)
  refine (fb_eq (a := PV.none) (σ := stG q f lo sh X T bl t W (some p) (some (sg (b p))) c (pgB b t (p + 1))) ?_).trans rfl
  have hpush := push_is (l := 8) (a := cond (b p) (List.replicate p 32) []) (b := [t.getD p 0]) (vs := (stG q f lo sh X T bl t W (some p) (some (sg (b p))) c (pgB b t p)).vars) (M := (stG q f lo sh X T bl t W (some p) (some (sg (b p))) c (pgB b t p)).mem) rfl (by unfold pgB; rw [List.length_map, List.length_range]; omega)
  rw [← pg_succ] at hpush
  generalize hσ : stG q f lo sh X T bl t W (some p) (some (sg (b p))) c (pgB b t p) = σ at hpush
  refine (fb_eq (a := PV.ref 8) (σ := σ) (by rw [← hσ]; rfl)).trans ?_
  refine (if_pos (by rw [← hσ]; kernel_rfl)).trans ?_
  refine (fb_eq (a := [PV.str (cond (b p) (List.replicate p 32) []), PV.str [t.getD p 0]]) (σ := σ) ?_).trans (hpush.trans (by rw [← hσ]; rfl))
  refine (fb_eq (a := PV.str (cond (b p) (List.replicate p 32) [])) (σ := σ) ?_).trans ?_
  · rw [← hσ]
    cases b p with
    | false => kernel_rfl
    | true =>
      clear hpush hσ
      induction p, hp using lt6C <;> kernel_rfl
  · refine (fb_eq (a := [PV.str [t.getD p 0]]) (σ := σ) ?_).trans rfl
    refine (fb_eq (a := PV.str [t.getD p 0]) (σ := σ) ?_).trans rfl
    refine (fb_eq (a := PV.str t) (σ := σ) (by rw [← hσ]; rfl)).trans ?_
    refine (fb_eq (a := PV.int p) (σ := σ) (by rw [← hσ]; rfl)).trans ?_
    exact fgi_nat (by rw [List.getElem?_eq_getElem (by omega)]; simp [show p < t.length by omega]) (by omega) _
theorem fallAdd (hW : belowO 9 W = true) (b : Nat → Bool) (p k : Nat) (c : Nat) : lawF_15b_1e_2t_1b_3 (stG q f lo sh X T bl t W (some k) (some (sg (b p))) c (pgB b t (p + 1))) = some (.next, stG q f lo sh X T bl t W (some k) (some (sg (b p))) (c + cond (b p) 1 0) (pgB b t (p + 1))) := by
  refine ffin_next (σ₁ := stG q f lo sh X T bl t W (some k) (some (sg (b p))) (c + cond (b p) 1 0) (pgB b t (p + 1))) ?_ (cutG q f lo sh X T bl t W hW b (p + 1) _ _ _)
  cases b p <;> kernel_rfl
theorem loopG (hW : belowO 9 W = true) (ht : t.length = 6) (hN : t.Nodup) : ∀ (m p N : Nat), p + m = 6 →
    fforC [8, 24] 9 (nxOf (.rng 0 6 1)) (fun v σ => some (fset 8 v σ)) bodyG (N + m + 1) p (stG q f lo sh X T bl t W none none (cnB (fl t) p) (pgB (fl t) t p)) = some (.next, stG q f lo sh X T bl t W none none (cnB (fl t) 6) (pgB (fl t) t 6)) := by
  intro m
  induction m with
  | zero =>
    intro p N hp
    obtain rfl : p = 6 := by omega
    exact fforC_done (by rw [nx_rng (by decide), if_neg (by omega)])
  | succ m ih =>
    intro p N hp
    rw [show N + (m + 1) + 1 = (N + m + 1) + 1 by omega]
    refine (fforC_step (v := .int p) (σ₁ := stG q f lo sh X T bl t W (some p) none (cnB (fl t) p) (pgB (fl t) t p)) ?_ rfl ?_ (cutH q f lo sh X T bl t W hW (fl t) (p + 1) (some p) (some (sg (fl t p))) (cnB (fl t) (p + 1)))).trans (ih (p + 1) N (by omega))
    · rw [nx_rng (by decide), if_pos (by omega), Int.zero_add]
    · exact (fseq_next (side_is q f lo sh X T bl t W ht hN (by omega) _ _)).trans ((fseq_next (chk_is q f lo sh X T bl t W hW _ _ _ _ _)).trans ((fseq_next (pagePush q f lo sh X T bl t W hW ht (by omega) _)).trans ((fseq_next (fallAdd q f lo sh X T bl t W hW _ _ _ _)).trans rfl)))
theorem page_is (hW : belowO 9 W = true) (ht : t.length = 6) (hN : t.Nodup) : lawF_15b_1e_2t_1 (stG q f lo sh X T bl t W none none 0 []) = some (.next, stG q f lo sh X T bl t W none none (cnB (fl t) 6) (pgB (fl t) t 6)) := by
  refine ffin_next (σ₁ := stG q f lo sh X T bl t W none none (cnB (fl t) 6) (pgB (fl t) t 6)) ?_ (cutH q f lo sh X T bl t W hW (fl t) 6 none none _)
  refine (fb_eq (a := PV.rng 0 6 1) (σ := stG q f lo sh X T bl t W none none 0 []) (by kernel_rfl)).trans ((if_pos (by kernel_rfl)).trans ?_)
  exact loopG q f lo sh X T bl t W hW ht hN 6 0 193 rfl
end
end Mine
end
section
open PySem PySem.W PyProof.Rows PySem.Calls
open PySem.Builtin PySem.Builtin.Str
set_option maxHeartbeats 400000
namespace Mine
noncomputable def wB (b : Nat → Bool) : Nat → Nat
  | 0 => 0
  | p + 1 => wB b p + cond (b p) p 0
noncomputable def exB (b : Nat → Bool) : Nat → Nat
  | 0 => 0
  | p + 1 => exB b p + cond (b p) (16 + p) 0
theorem ex_is (b : Nat → Bool) : ∀ p, exB b p = 16 * cnB b p + wB b p
  | 0 => rfl
  | p + 1 => by
    have := ex_is b p
    show exB b p + _ = 16 * (cnB b p + _) + (wB b p + _)
    cases b p <;> simp only [cond_true, cond_false] <;> omega
theorem ex_le (b : Nat → Bool) : ∀ p, exB b p ≤ p * (16 + p)
  | 0 => Nat.le_refl _
  | p + 1 => by
    have := ex_le b p
    show exB b p + _ ≤ _
    have h : (p + 1) * (16 + (p + 1)) = p * (16 + p) + (16 + p) + (p + 1) := by simp only [Nat.add_mul, Nat.mul_add]; omega
    cases b p <;> simp only [cond_true, cond_false] <;> omega
noncomputable def bools : Nat → List (List Bool)
  | 0 => [[]]
  | n + 1 => (bools n).flatMap fun l => [false :: l, true :: l]
theorem bools6 : ∀ a b c d e f : Bool, [a, b, c, d, e, f] ∈ bools 6 := by decide
theorem lenK (vs : List (Option PV)) (A W : PO) (t0 t1 t2 t3 t4 t5 : Nat) :
    ([0, 1, 2].map fun f : Nat => (bools 6).map fun bs => fLenA [.ref 8] ⟨vs, [.tab 77, .tab 84, .gone, .gone, .gone, .gone, A, W, .acc f (pgB (bs.getD · false) [t0, t1, t2, t3, t4, t5] 6)]⟩) =
    [0, 1, 2].map fun f : Nat => (bools 6).map fun bs => some (.int (f + 6 + wB (bs.getD · false) 6 : Nat), ⟨vs, [.tab 77, .tab 84, .gone, .gone, .gone, .gone, A, W, .acc f (pgB (bs.getD · false) [t0, t1, t2, t3, t4, t5] 6)]⟩) := by kernel_rfl
theorem lenG {t : List Nat} (ht : t.length = 6) {f : Nat} (hf : f ∈ [0, 1, 2]) (b : Nat → Bool) (vs : List (Option PV)) (A W : PO) :
    fLenA [.ref 8] ⟨vs, [.tab 77, .tab 84, .gone, .gone, .gone, .gone, A, W, .acc f (pgB b t 6)]⟩ = some (.int (f + 6 + wB b 6 : Nat), ⟨vs, [.tab 77, .tab 84, .gone, .gone, .gone, .gone, A, W, .acc f (pgB b t 6)]⟩) := by
  obtain ⟨t0, t1, t2, t3, t4, t5, rfl⟩ := len6 ht
  exact List.map_inj_left.mp (List.map_inj_left.mp (lenK vs A W t0 t1 t2 t3 t4 t5) f hf) _ (bools6 (b 0) (b 1) (b 2) (b 3) (b 4) (b 5))
section
variable (q f : Nat) (lo sh : List Nat) (X : List (Nat × List Nat)) (T : Int) (bl t : List Nat) (W : PO)
theorem pow_ok {e : Nat} (h : e ≤ 1000) (σ : PS) : oPow (.int 64) (.int e) σ = some (.int ((64 ^ e : Nat) : Int), σ) := by
  show (if 0 ≤ (e : Int) ∧ ((Builtin.Int.intBits 64 : Nat) : Int) * (e : Int) ≤ 2 ^ 27 then some (PV.int (64 ^ (e : Int).toNat), σ) else none) = _
  have : Builtin.Int.intBits 64 = 7 := by decide
  rw [this, if_pos ⟨by omega, by omega⟩, Int.toNat_natCast, Int.natCast_pow]
  rfl
theorem tell_is (hW : belowO 9 W = true) (ht : t.length = 6) (hf : f ∈ [0, 1, 2]) : lawF_15b_1e_2t_2 (stG q f lo sh X T bl t W none none (cnB (fl t) 6) (pgB (fl t) t 6)) = some (.next, stG q f lo sh X (T + ((64 ^ exB (fl t) 6 : Nat) : Int)) bl t W none none (cnB (fl t) 6) (pgB (fl t) t 6)) := by
  refine ffin_next (σ₁ := stG q f lo sh X (T + ((64 ^ exB (fl t) 6 : Nat) : Int)) bl t W none none (cnB (fl t) 6) (pgB (fl t) t 6)) ?_ (cutG q f lo sh X _ bl t W hW (fl t) 6 none none _)
  have hl := lenG ht hf (fl t) (stG q f lo sh X T bl t W none none (cnB (fl t) 6) (pgB (fl t) t 6)).vars (.acc f (stk X)) W
  have hx := ex_is (fl t) 6
  have hle : exB (fl t) 6 ≤ 1000 := Nat.le_trans (ex_le (fl t) 6) (by decide)
  refine (fb_eq (a := PV.int T) (σ := stG q f lo sh X T bl t W none none (cnB (fl t) 6) (pgB (fl t) t 6)) rfl).trans ?_
  refine (fb_eq (a := PV.int ((64 ^ exB (fl t) 6 : Nat) : Int)) (σ := stG q f lo sh X T bl t W none none (cnB (fl t) 6) (pgB (fl t) t 6)) ?_).trans rfl
  refine (fb_eq (a := PV.int 64) (σ := stG q f lo sh X T bl t W none none (cnB (fl t) 6) (pgB (fl t) t 6)) rfl).trans ?_
  refine (fb_eq (a := PV.int (exB (fl t) 6)) (σ := stG q f lo sh X T bl t W none none (cnB (fl t) 6) (pgB (fl t) t 6)) ?_).trans (pow_ok hle _)
  refine (fb_eq (a := PV.int (16 * cnB (fl t) 6 + (f + 6 + wB (fl t) 6 : Nat) - f)) (σ := stG q f lo sh X T bl t W none none (cnB (fl t) 6) (pgB (fl t) t 6)) ?_).trans ?_
  · refine (fb_eq (a := PV.int (16 * cnB (fl t) 6 + (f + 6 + wB (fl t) 6 : Nat))) (σ := stG q f lo sh X T bl t W none none (cnB (fl t) 6) (pgB (fl t) t 6)) ?_).trans rfl
    refine (fb_eq (a := PV.int (16 * cnB (fl t) 6)) (σ := stG q f lo sh X T bl t W none none (cnB (fl t) 6) (pgB (fl t) t 6)) ?_).trans ?_
    · refine (fb_eq (a := PV.int 16) (σ := stG q f lo sh X T bl t W none none (cnB (fl t) 6) (pgB (fl t) t 6)) rfl).trans ?_
      refine (fb_eq (a := PV.int (cnB (fl t) 6)) (σ := stG q f lo sh X T bl t W none none (cnB (fl t) 6) (pgB (fl t) t 6)) rfl).trans ?_
      exact mul_l (by decide) _
    · exact (fb_eq (a := PV.int (f + 6 + wB (fl t) 6 : Nat)) (σ := stG q f lo sh X T bl t W none none (cnB (fl t) 6) (pgB (fl t) t 6)) ((fb_eq (a := [PV.ref 8]) (σ := stG q f lo sh X T bl t W none none (cnB (fl t) 6) (pgB (fl t) t 6)) rfl).trans hl)).trans rfl
  · show some (PV.int (16 * (cnB (fl t) 6 : Int) + (f + 6 + wB (fl t) 6 : Nat) - f - 6), _) = _
    rw [show 16 * (cnB (fl t) 6 : Int) + (f + 6 + wB (fl t) 6 : Nat) - f - 6 = (exB (fl t) 6 : Nat) by omega]
noncomputable def valG (fd : Bool) (t : List Nat) : Nat := cond fd (64 ^ exB (fl t) 6) 0
theorem cut8' (hW : belowO 8 W = true) (c : Nat) (P : List PV) : ffinC [] 8 (stG q f lo sh X T bl t W none none c P) = some (stX q f lo sh (stk X) T none (some (.str bl)) (some (.str t)) (some (.bool true)) none (some (.int c)) none [W]) := by
  unfold ffinC
  rw [if_pos (Eq.trans (b := (belowL 8 (stk X) && (belowO 8 W && true))) (by kernel_rfl) (by rw [stk_below, hW]; rfl))]
  kernel_rfl
theorem e2_true (hW : belowO 9 W = true) (hW8 : belowO 8 W = true) (ht : t.length = 6) (hN : t.Nodup) (hf : f ∈ [0, 1, 2]) : lawF_15b_1e_2 (stX q f lo sh (stk X) T none (some (.str bl)) (some (.str t)) (some (.bool true)) none none none [W]) = some (.next, stX q f lo sh (stk X) (T + (valG true t : Int)) none (some (.str bl)) (some (.str t)) (some (.bool true)) none (some (.int (cnB (fl t) 6))) none [W]) := by
  refine ffin_next (σ₁ := stG q f lo sh X (T + (valG true t : Int)) bl t W none none (cnB (fl t) 6) (pgB (fl t) t 6)) ?_ (cut8' q f lo sh X _ bl t W hW8 _ _)
  refine (fb_eq (a := true) (σ := stX q f lo sh (stk X) T none (some (.str bl)) (some (.str t)) (some (.bool true)) none none none [W]) (by kernel_rfl)).trans ?_
  exact (fseq_next (σ₁ := stG q f lo sh X T bl t W none none 0 []) (by kernel_rfl)).trans ((fseq_next (page_is q f lo sh X T bl t W hW ht hN)).trans ((fseq_next (tell_is q f lo sh X T bl t W hW ht hf)).trans rfl))
theorem e2_false (hW8 : belowO 8 W = true) : lawF_15b_1e_2 (stX q f lo sh (stk X) T none (some (.str bl)) (some (.str t)) (some (.bool false)) none none none [W]) = some (.next, stX q f lo sh (stk X) (T + (valG false t : Int)) none (some (.str bl)) (some (.str t)) (some (.bool false)) none none none [W]) := by
  rw [show T + (valG false t : Int) = T from Int.add_zero T]
  exact ffin_next (σ₁ := stX q f lo sh (stk X) T none (some (.str bl)) (some (.str t)) (some (.bool false)) none none none [W]) (by kernel_rfl) (cut8 q f lo sh X T bl t W hW8 false)
theorem e2_is (hW : belowO 9 W = true) (hW8 : belowO 8 W = true) (ht : t.length = 6) (hN : t.Nodup) (hf : f ∈ [0, 1, 2]) : ∀ fd : Bool, ∃ fa : Option Int, lawF_15b_1e_2 (stX q f lo sh (stk X) T none (some (.str bl)) (some (.str t)) (some (.bool fd)) none none none [W]) = some (.next, stX q f lo sh (stk X) (T + (valG fd t : Int)) none (some (.str bl)) (some (.str t)) (some (.bool fd)) none (fa.map .int) none [W])
  | true => ⟨some (cnB (fl t) 6), e2_true q f lo sh X T bl t W hW hW8 ht hN hf⟩
  | false => ⟨none, e2_false q f lo sh X T bl t W hW8⟩
theorem cut7' (fd : Bool) (fa : Option Int) : ffinC [] 7 (stX q f lo sh (stk X) T none (some (.str bl)) (some (.str t)) (some (.bool fd)) none (fa.map .int) none [W]) = some (stX q f lo sh (stk X) T none (some (.str bl)) (some (.str t)) (some (.bool fd)) none (fa.map .int) none []) := by
  unfold ffinC
  rw [if_pos (Eq.trans (b := (belowL 7 (stk X) && true)) (by kernel_rfl) (by rw [stk_below]; rfl))]
  cases fa <;> kernel_rfl
theorem cutZ' (fd : Bool) (fa : Option Int) : ffinC [8, 19, 20, 21, 22, 23, 24] 7 (stX q f lo sh (stk X) T none (some (.str bl)) (some (.str t)) (some (.bool fd)) none (fa.map .int) none []) = some (stX q f lo sh (stk X) T none none none none none none none []) := by
  unfold ffinC
  rw [if_pos (Eq.trans (b := (belowL 7 (stk X) && true)) (by kernel_rfl) (by rw [stk_below]; rfl))]
  cases fa <;> kernel_rfl
end
structure Leaf (q f : Nat) (lo sh : List Nat) (t : List Nat) (fd : Bool) : Prop where
  ex : ∃ W, belowO 9 W = true ∧ belowO 8 W = true ∧ ∀ X T bl,
    lawF_15b_1e_0 (stX q f lo sh (stk X) T none (some (.str bl)) (some (.str t)) none none none none []) = some (.next, stX q f lo sh (stk X) T none (some (.str bl)) (some (.str t)) (some (.bool fd)) none none none [W]) ∧
    lawF_15b_1e_1 (stX q f lo sh (stk X) T none (some (.str bl)) (some (.str t)) (some (.bool fd)) none none none [W]) = some (.next, stX q f lo sh (stk X) T none (some (.str bl)) (some (.str t)) (some (.bool fd)) none none none [W])
theorem turnL {q f : Nat} {lo sh t : List Nat} {fd : Bool} (L : Leaf q f lo sh t fd) (hq : q ≤ 9) (ht : t.length = 6) (hN : t.Nodup) (hf : f ∈ [0, 1, 2]) (X : List (Nat × List Nat)) (hX : X.length ≤ 900) (T : Int) (N : Nat) :
    fwhileC [8, 19, 20, 21, 22, 23, 24] 7 testW bodyW (N + 1) (stX q f lo sh (stk (X ++ [(q, t)])) T none none none none none none none []) = fwhileC [8, 19, 20, 21, 22, 23, 24] 7 testW bodyW N (stX q f lo sh (stk X) (T + (valG fd t : Int)) none none none none none none none []) := by
  obtain ⟨W, hW9, hW8, h⟩ := L.ex
  obtain ⟨h0, h1⟩ := h X T (List.replicate q 32)
  obtain ⟨fa, h2⟩ := e2_is q f lo sh X T (List.replicate q 32) t W hW9 hW8 ht hN hf fd
  refine fwhileC_step ((testW_is q f lo sh T (by rw [stk_len]; simp; omega)).trans (by rw [decide_eq_true (by rw [stk_len]; simp)])) ?_ (cutZ' q f lo sh X _ (List.replicate q 32) t fd fa)
  rw [stk_snoc]
  refine (fseq_next (pop_is q f lo sh T (by rw [stk_len]; omega) q t)).trans ((fseq_next ?_).trans rfl)
  refine ffin_next (σ₁ := stX q f lo sh (stk X) (T + (valG fd t : Int)) none (some (.str (List.replicate q 32))) (some (.str t)) (some (.bool fd)) none (fa.map .int) none [W]) ?_ (cut7' q f lo sh X _ (List.replicate q 32) t W fd fa)
  refine (fb_eq (a := false) (σ := stX q f lo sh (stk X) T none (some (.str (List.replicate q 32))) (some (.str t)) none none none none []) ?_).trans ?_
  · refine (fb_eq (testB q f lo sh T q t hq)).trans ?_
    refine Eq.trans (b := some (decide ((q : Int) < q), stX q f lo sh (stk X) T none (some (.str (List.replicate q 32))) (some (.str t)) none none none none [])) (by kernel_rfl) ?_
    rw [decide_eq_false (by omega)]
  exact (fseq_next h0).trans ((fseq_next h1).trans ((fseq_next h2).trans rfl))
end Mine
end
section
open PySem PySem.W PyProof.Rows PySem.Calls
open PySem.Builtin PySem.Builtin.Str
set_option maxHeartbeats 400000
namespace Mine
theorem first_is {t : List Nat} (hN : t.Nodup) : ∀ {i j x y : Nat}, t[i]? = some x → t[j]? = some y → firstOf t x y = decide (i ≤ j) := by
  induction t with
  | nil => intro i j x y h; cases i <;> cases h
  | cons a r ih =>
    intro i j x y h h'
    have hr := List.nodup_cons.mp hN
    have e : firstOf (a :: r) x y = if Nat.beq a x then true else if Nat.beq a y then false else firstOf r x y := rfl
    rw [e]
    cases i with
    | zero =>
      have : a = x := by simpa using h
      rw [if_pos (by rw [this]; exact Nat.beq_refl x)]
      exact (decide_eq_true (Nat.zero_le j)).symm
    | succ i =>
      have hx : r[i]? = some x := by simpa using h
      have hax : a ≠ x := fun q => hr.1 (q ▸ List.mem_of_getElem? hx)
      rw [if_neg (fun q => hax (Nat.eq_of_beq_eq_true q))]
      cases j with
      | zero =>
        have : a = y := by simpa using h'
        rw [if_pos (by rw [this]; exact Nat.beq_refl y)]
        exact (decide_eq_false (by omega)).symm
      | succ j =>
        have hy : r[j]? = some y := by simpa using h'
        have hay : a ≠ y := fun q => hr.1 (q ▸ List.mem_of_getElem? hy)
        rw [if_neg (fun q => hay (Nat.eq_of_beq_eq_true q)), ih hr.2 hx hy]
        exact decide_eq_decide.mpr (by omega)
section
variable {f : Nat} {lo t : List Nat}
theorem leaf1 (ht : t.length = 6) (hN : t.Nodup) {x : Nat} (hm : x ∈ t) (hx : x ∈ base6) : Leaf 1 f lo [x] t (firstOf t x x) := by
  obtain ⟨i, h⟩ := List.getElem?_of_mem hm
  have e : firstOf t x x = decide (i ≤ i) := first_is hN h h
  have e' : decide (i ≤ i) = true := decide_eq_true (Nat.le_refl i)
  refine ⟨.list [.str [], .str [x], .str []], rfl, rfl, fun X T bl => ⟨?_, ?_⟩⟩
  · rw [e, e']
    exact e0_1 1 f lo X T bl t ht hN h hx
  · rw [e]
    exact e1_is 1 f lo [x] X T bl t _ (by omega) hN h h (fun σ => by kernel_rfl) (fun σ => by kernel_rfl) rfl
theorem leaf2 (ht : t.length = 6) (hN : t.Nodup) {x y : Nat} (hxy : x ≠ y) (hm : x ∈ t) (hm' : y ∈ t) (hx : x ∈ base6) (hy : y ∈ base6) : Leaf 2 f lo [x, y] t (firstOf t x y) := by
  obtain ⟨i, h⟩ := List.getElem?_of_mem hm
  obtain ⟨j, h'⟩ := List.getElem?_of_mem hm'
  have hij : i ≠ j := by
    rintro rfl
    rw [h] at h'
    exact hxy (Option.some.inj h')
  refine ⟨.list [.str [], .str [x], .str [y], .str []], rfl, rfl, fun X T bl => ⟨?_, ?_⟩⟩
  · rw [first_is hN h h']
    exact e0_2 2 f lo X T bl t ht hN h h' hij hx hy
  · rw [first_is hN h h']
    exact e1_is 2 f lo [x, y] X T bl t _ (by omega) hN h h' (fun σ => by kernel_rfl) (fun σ => by kernel_rfl) rfl
end
noncomputable def treeV (x y : Nat) : List Nat → List Nat → Nat
  | [], t => valG (firstOf t x y) t
  | c :: cs, t => ((List.range (t.length + 1)).map fun p => treeV x y cs (insL t p c)).sum
noncomputable def cost : List Nat → Nat
  | [] => 1
  | _ :: cs => 1 + (6 - cs.length) * cost cs
theorem ins_perm (t : List Nat) (p c : Nat) : (insL t p c).Perm (c :: t) := by
  have := List.perm_middle (l₁ := t.take p) (l₂ := t.drop p) (a := c)
  rw [List.take_append_drop] at this
  exact this
noncomputable abbrev goW (N : Nat) (q f : Nat) (lo sh : List Nat) (S : List PV) (T : Nat) : Option (Fl × PS) := fwhileC [8, 19, 20, 21, 22, 23, 24] 7 testW bodyW N (stX q f lo sh S (T : Int) none none none none none none none [])
theorem snocE {k : Nat} {ts : List (List Nat)} (h : ts.length = k + 1) : ∃ us t, ts = us ++ [t] ∧ us.length = k := by
  rcases List.eq_nil_or_concat ts with rfl | ⟨us, t, rfl⟩
  · cases h
  · rw [List.concat_eq_append, List.length_append] at h
    exact ⟨us, t, List.concat_eq_append .., Nat.succ.inj h⟩
theorem runW0 {q f : Nat} {lo sh cs : List Nat} {x y n : Nat} {ts : List (List Nat)} (h : ts.length = 0) (X : List (Nat × List Nat)) (T N : Nat) :
    goW (N + cost cs * ts.length) q f lo sh (stk (X ++ ts.map fun t => (n, t))) T = goW N q f lo sh (stk X) (T + (ts.map (treeV x y cs)).sum) := by
  obtain rfl := List.eq_nil_of_length_eq_zero h
  rw [List.map_nil, List.append_nil]
  rfl
theorem sum_snoc (F : List Nat → Nat) (ts : List (List Nat)) (t : List Nat) (T : Nat) : T + F t + (ts.map F).sum = T + ((ts ++ [t]).map F).sum := by
  rw [List.map_append, List.sum_append, Nat.add_assoc, Nat.add_comm (F t)]
  rfl
theorem runL {q f : Nat} {lo sh row t : List Nat} {x y : Nat} (hq : q ≤ 9) (hr : row.length = 6) (hN : row.Nodup) (hf : f ∈ [0, 1, 2]) (L : Leaf q f lo sh t (firstOf t x y)) (hp : t.Perm row) (X : List (Nat × List Nat)) (ts : List (List Nat)) (T N : Nat) (hX : X.length + ts.length ≤ 900)
    (ih : goW (N + cost [] * ts.length) q f lo sh (stk (X ++ ts.map fun t => (q, t))) (T + treeV x y [] t) = goW N q f lo sh (stk X) (T + treeV x y [] t + (ts.map (treeV x y [])).sum)) :
    goW (N + cost [] * (ts ++ [t]).length) q f lo sh (stk (X ++ (ts ++ [t]).map fun t => (q, t))) T = goW N q f lo sh (stk X) (T + ((ts ++ [t]).map (treeV x y [])).sum) := by
  rw [sum_snoc] at ih
  refine Eq.trans ?_ ih
  rw [List.map_append, ← List.append_assoc, List.length_append, List.length_singleton, Nat.mul_add, ← Nat.add_assoc]
  refine (turnL L hq (by rw [hp.length_eq, hr]) (hp.nodup_iff.mpr hN) hf _ (by simp; omega) T _).trans ?_
  rw [← Int.natCast_add]
  rfl
theorem runP {q f : Nat} {lo sh t cs : List Nat} {x y n c : Nat} (hsh : sh.length = q) (hd : sh.drop n = c :: cs) (hn : n ≤ 9) (hnq : n < q) (hs : sh.length ≤ 64) (hl : t.length + (cs.length + 1) = 6) (X : List (Nat × List Nat)) (ts : List (List Nat)) (T N : Nat) (hX : X.length + ts.length ≤ 900)
    (ih2 : goW (N + cost (c :: cs) * ts.length + cost cs * ((List.range (t.length + 1)).map fun p => insL t p c).length) q f lo sh (stk ((X ++ ts.map fun t => (n, t)) ++ ((List.range (t.length + 1)).map fun p => insL t p c).map fun t => (n + 1, t))) T =
      goW (N + cost (c :: cs) * ts.length) q f lo sh (stk (X ++ ts.map fun t => (n, t))) (T + (((List.range (t.length + 1)).map fun p => insL t p c).map (treeV x y cs)).sum))
    (ih : goW (N + cost (c :: cs) * ts.length) q f lo sh (stk (X ++ ts.map fun t => (n, t))) (T + treeV x y (c :: cs) t) = goW N q f lo sh (stk X) (T + treeV x y (c :: cs) t + (ts.map (treeV x y (c :: cs))).sum)) :
    goW (N + cost (c :: cs) * (ts ++ [t]).length) q f lo sh (stk (X ++ (ts ++ [t]).map fun t => (n, t))) T = goW N q f lo sh (stk X) (T + ((ts ++ [t]).map (treeV x y (c :: cs))).sum) := by
  have hcn : sh[n]? = some c := by
    have : (sh.drop n)[0]? = some c := by rw [hd]; rfl
    rw [List.getElem?_drop] at this
    exact this
  rw [sum_snoc] at ih
  refine Eq.trans ?_ ih
  rw [List.map_append, ← List.append_assoc, List.length_append, List.length_singleton, Nat.mul_add, ← Nat.add_assoc]
  rw [show cost (c :: cs) * 1 = cost cs * (t.length + 1) + 1 by
    show (1 + (6 - cs.length) * cost cs) * 1 = _
    rw [show 6 - cs.length = t.length + 1 by omega, Nat.mul_one, Nat.mul_comm, Nat.add_comm], ← Nat.add_assoc]
  refine (turnP q f lo sh T n t c hn hnq hcn hs (by omega) _ (by simp; omega) _).trans ?_
  rw [List.length_map, List.length_range, List.map_map, List.map_map] at ih2
  exact ih2
section
variable {q f : Nat} {lo sh row : List Nat} {x y : Nat} (hq : q ≤ 9) (hsh : sh.length = q) (hf : f ∈ [0, 1, 2]) (hr : row.length = 6) (hN : row.Nodup) (HL : ∀ t : List Nat, t.Perm row → Leaf q f lo sh t (firstOf t x y))
include hq hsh hf hr hN HL
theorem runW : ∀ (cs : List Nat) (n : Nat), sh.drop n = cs → n + cs.length = q → ∀ (k : Nat) (ts : List (List Nat)), ts.length = k → (∀ t ∈ ts, (t ++ cs).Perm row) → ∀ (X : List (Nat × List Nat)) (T N : Nat), X.length + ts.length + 10 * cs.length ≤ 900 →
    goW (N + cost cs * ts.length) q f lo sh (stk (X ++ ts.map fun t => (n, t))) T = goW N q f lo sh (stk X) (T + (ts.map (treeV x y cs)).sum) := by
  intro cs
  induction cs with
  | nil =>
    intro n hd hc k
    obtain rfl : q = n := by simpa using hc.symm
    induction k with
    | zero => intro ts hk hg X T N hX; exact runW0 hk X T N
    | succ k ih =>
      intro ts hk hg X T N hX
      obtain ⟨ts, t, rfl, hk'⟩ := snocE hk
      rw [List.length_append, List.length_singleton] at hX
      refine runL hq hr hN hf (HL t (by simpa using hg t (List.mem_append_right _ (.head _)))) (by simpa using hg t (List.mem_append_right _ (.head _))) X ts T N (by omega) ?_
      exact ih ts hk' (fun t h => hg t (List.mem_append_left _ h)) X _ N (by omega)
  | cons c cs ihc =>
    intro n hd hc k
    induction k with
    | zero => intro ts hk hg X T N hX; exact runW0 hk X T N
    | succ k ih =>
      intro ts hk hg X T N hX
      obtain ⟨ts, t, rfl, hk'⟩ := snocE hk
      rw [List.length_append, List.length_singleton] at hX
      simp only [List.length_cons] at hX hc
      have hp := hg t (List.mem_append_right _ (.head _))
      have hl : t.length + (cs.length + 1) = 6 := by have := hp.length_eq; simp at this; omega
      have hd' : sh.drop (n + 1) = cs := by rw [← List.drop_drop, hd]; rfl
      refine runP hsh hd (by omega) (by omega) (by omega) hl X ts T N (by omega) ?_ ?_
      · refine ihc (n + 1) hd' (by omega) (t.length + 1) ((List.range (t.length + 1)).map fun p => insL t p c) (by simp) (fun u hu => ?_) (X ++ ts.map fun t => (n, t)) T (N + cost (c :: cs) * ts.length) (by simp; omega)
        obtain ⟨p, _, rfl⟩ := List.mem_map.mp hu
        exact (((ins_perm t p c).append_right cs).trans List.perm_middle.symm).trans hp
      · exact ih ts hk' (fun t h => hg t (List.mem_append_left _ h)) X _ N (by simp; omega)
theorem law15 (h0 : cost sh ≤ 190) (hp : (lo ++ sh).Perm row) : lawF_15 (stX q f lo sh (stk [(0, lo)]) 0 none none none none none none none []) = some (.next, stX q f lo sh [] ((treeV x y sh lo : Nat) : Int) none none none none none none none []) := by
  have h := runW hq hsh hf hr hN HL sh 0 rfl (by omega) 1 [lo] rfl (by simpa using hp) [] 0 (200 - cost sh) (by simp; omega)
  rw [while_is]
  refine ffin_next (σ₁ := stX q f lo sh [] ((treeV x y sh lo : Nat) : Int) none none none none none none none []) ?_ (by kernel_rfl)
  have e : 200 - cost sh + cost sh * [lo].length = 200 := by simp; omega
  rw [e] at h
  refine h.trans ?_
  rw [show 200 - cost sh = (199 - cost sh) + 1 by omega, show 0 + ([lo].map (treeV x y sh)).sum = treeV x y sh lo by simp]
  exact fwhileC_done (testW_is q f lo sh _ (S := []) (by decide))
end
end Mine
end
section
open PySem PySem.W PyProof.Rows PySem.Calls
set_option maxHeartbeats 400000
namespace Mine
noncomputable def fallF (w : List Nat) : List Nat := (List.range' 1 (w.length - 1)).filter (fl w)
noncomputable def pvn (l : List Nat) : List PV := l.map fun p => PV.int (p : Nat)
section
variable {w : List Nat}
theorem gi (hw : w.length ≤ 64) {i : Nat} (hi : i < w.length) (σ : PS) : fgi (.str w) (.int i) σ = some (.str [w.getD i 0], σ) :=
  fgi_nat (by rw [List.getElem?_eq_getElem hi]; simp [hi]) hw σ
noncomputable abbrev tsF : PV → PS → Option (Bool × PS) := fun v σ =>
  fbf (fun σ => fbf (fun σ => fbf (fun σ => fbf (fvar 0) σ fun a σ => fbf (fun σ => fbf (fun σ => some (v, σ)) σ fun a σ => fbf (fun σ => some (PV.int 1, σ)) σ fun b σ => oSub a b σ) σ fun b σ => fgi a b σ) σ fun v σ => fbf (fun σ => some ([], σ)) σ fun vs σ => some (v :: vs, σ)) σ fun vs σ => cOrd vs σ) σ fun a σ =>
  fbf (fun σ => fbf (fun σ => fbf (fun σ => fbf (fvar 0) σ fun a σ => fbf (fun σ => some (v, σ)) σ fun b σ => fgi a b σ) σ fun v σ => fbf (fun σ => some ([], σ)) σ fun vs σ => some (v :: vs, σ)) σ fun vs σ => cOrd vs σ) σ fun b σ => fb (oGt a b σ) fTruth
theorem tsF_is (hw : w.length ≤ 64) {i : Nat} (hi : i + 1 < w.length) (M : List PO) : tsF (.int ((1 : Int) + i)) ⟨[some (.str w)], M⟩ = some (fl w (1 + i), ⟨[some (.str w)], M⟩) := by
  refine (fb_eq (a := PV.int (w.getD i 0 : Nat)) (σ := ⟨[some (.str w)], M⟩) ?_).trans ?_
  · refine (fb_eq (a := [PV.str [w.getD i 0]]) (σ := ⟨[some (.str w)], M⟩) ?_).trans rfl
    refine (fb_eq (a := PV.str [w.getD i 0]) (σ := ⟨[some (.str w)], M⟩) ?_).trans rfl
    refine (fb_eq (a := PV.str w) (σ := ⟨[some (.str w)], M⟩) rfl).trans ?_
    refine (fb_eq (a := PV.int i) (σ := ⟨[some (.str w)], M⟩) ?_).trans (gi hw (by omega) _)
    show some (PV.int (1 + (i : Int) - 1), _) = _
    rw [show 1 + (i : Int) - 1 = i by omega]
  · refine (fb_eq (a := PV.int (w.getD (1 + i) 0 : Nat)) (σ := ⟨[some (.str w)], M⟩) ?_).trans ?_
    · refine (fb_eq (a := [PV.str [w.getD (1 + i) 0]]) (σ := ⟨[some (.str w)], M⟩) ?_).trans rfl
      refine (fb_eq (a := PV.str [w.getD (1 + i) 0]) (σ := ⟨[some (.str w)], M⟩) ?_).trans rfl
      refine (fb_eq (a := PV.str w) (σ := ⟨[some (.str w)], M⟩) rfl).trans ?_
      refine (fb_eq (a := PV.int (1 + i : Nat)) (σ := ⟨[some (.str w)], M⟩) ?_).trans (gi hw (by omega) _)
      show some (PV.int (1 + (i : Int)), _) = _
      rw [show 1 + (i : Int) = (1 + i : Nat) by omega]
    · show some (decide (((w.getD (1 + i) 0 : Nat) : Int) < (w.getD i 0 : Nat)), _) = some (Nat.blt (w.getD (1 + i) 0) (w.getD (1 + i - 1) 0), _)
      rw [show 1 + i - 1 = i by omega]
      congr 2
      rw [Bool.eq_iff_iff, decide_eq_true_iff]
      exact ⟨fun h => Nat.ble_eq_true_of_le (by omega), fun h => by have := Nat.le_of_ble_eq_true h; omega⟩
noncomputable def fsTo (w : List Nat) (i : Nat) : List PV := pvn ((List.range' 1 i).filter (fl w))
theorem fs_succ (i : Nat) : fsTo w (i + 1) = fsTo w i ++ cond (fl w (1 + i)) [PV.int (1 + i : Nat)] [] := by
  unfold fsTo pvn
  rw [List.range'_concat, List.filter_append, List.map_append, Nat.one_mul]
  cases h : fl w (1 + i) <;> simp [h]
theorem fs_le (i : Nat) : (fsTo w i).length ≤ i := by
  unfold fsTo pvn
  rw [List.length_map]
  exact Nat.le_trans (List.length_filter_le ..) (by simp)
theorem compF (hw : w.length ≤ 64) (M : List PO) : ∀ (m i N : Nat), i + m + 1 = w.length → fcomp (nxOf (.rng 1 w.length 1)) tsF (fun v σ => some (v, σ)) (N + m + 1) i (fsTo w i) ⟨[some (.str w)], M⟩ = some (fsTo w (i + m), ⟨[some (.str w)], M⟩) := by
  intro m
  induction m with
  | zero => exact fun i N h => fcomp_done (by rw [nx_rng (small_one (by omega) (by omega) (by omega) (by omega)), if_neg (by omega)])
  | succ m ih =>
    intro i N h
    have ih := ih (i + 1) N (by omega)
    have hn : nxOf (.rng 1 w.length 1) i ⟨[some (.str w)], M⟩ = some (some (.int (1 + (i : Int)))) := by
      rw [nx_rng (small_one (by omega) (by omega) (by omega) (by omega)), if_pos (by omega)]
    have ht := tsF_is hw (i := i) (by omega) M
    rw [show N + (m + 1) + 1 = (N + m + 1) + 1 by omega, show i + (m + 1) = i + 1 + m by omega]
    rw [fs_succ] at ih
    cases hf : fl w (1 + i) with
    | false =>
      rw [hf] at ih ht
      rw [cond_false, List.append_nil] at ih
      exact (fcomp_skip hn ht).trans ih
    | true =>
      rw [hf] at ih ht
      refine (fcomp_el (y := .int (1 + i : Nat)) hn ht ?_ ?_).trans ih
      · show some (PV.int (1 + (i : Int)), _) = _
        rw [show 1 + (i : Int) = (1 + i : Nat) by omega]
      · have := fs_le (w := w) i; omega
theorem cFal_is (hw : w.length ≤ 64) (h0 : 1 ≤ w.length) (vs : List (Option PV)) (M : List PO) : cFal [.str w] ⟨vs, M⟩ = some (.ref M.length, ⟨vs, M ++ [.list (pvn (fallF w))]⟩) := by
  have h := compF hw M (w.length - 1) 0 (199 - (w.length - 1)) (by omega)
  rw [show 199 - (w.length - 1) + (w.length - 1) + 1 = 200 by omega, Nat.zero_add] at h
  have e : falF_0 ⟨[some (.str w)], M⟩ = some (.ret (.ref M.length), ⟨[some (.str w)], M ++ [.list (pvn (fallF w))]⟩) := by
    delta falF_0
    refine (fb_eq (a := PV.ref M.length) (σ := ⟨[some (.str w)], M ++ [.list (pvn (fallF w))]⟩) ?_).trans rfl
    refine (fb_eq (a := PV.rng 1 w.length 1) (σ := ⟨[some (.str w)], M⟩) ?_).trans ?_
    · refine (fb_eq (a := [PV.int 1, PV.int w.length]) (σ := ⟨[some (.str w)], M⟩) ?_).trans rfl
      refine (fb_eq (a := PV.int 1) (σ := ⟨[some (.str w)], M⟩) rfl).trans ?_
      refine (fb_eq (a := [PV.int w.length]) (σ := ⟨[some (.str w)], M⟩) ?_).trans rfl
      refine (fb_eq (a := PV.int w.length) (σ := ⟨[some (.str w)], M⟩) ?_).trans rfl
      refine (fb_eq (a := [PV.str w]) (σ := ⟨[some (.str w)], M⟩) rfl).trans ?_
      show (if w.length ≤ 4096 then some (PV.int w.length, (⟨[some (.str w)], M⟩ : PS)) else none) = _
      rw [if_pos (by omega)]
    · exact (fb_eq h).trans rfl
  exact fcall_ret (d := dFal .none .none .none) (F := falF) (vs := [.str w]) (σ := ⟨vs, M⟩) rfl (fseq_ret e)
end
theorem law16 (q f : Nat) (lo sh : List Nat) (T : Int) (hf : f ∈ [0, 1, 2]) : lawF_16 (stX q f lo sh [] T none none none none none none none []) = some (.next, stX q f lo sh [] T none none none none none none none []) := by
  simp only [List.mem_cons, List.not_mem_nil, or_false] at hf
  rcases hf with rfl | rfl | rfl <;> kernel_rfl
noncomputable def stD (q f : Nat) (lo sh : List Nat) (T : Int) (A B : List Nat) (s due : Option Int) (M : List PO) : PS :=
  ⟨[none, none, some (.int B.length)] ++ List.replicate 10 none ++ [some (.int q), some (.int f), some (.str lo), some (.str sh), some (.ref 6), some (.int T)] ++ List.replicate 6 none ++ [due.map .int, some (.int A.length), s.map .int, none, none], [.tab 77, .tab 84, .gone, .gone, .gone, .gone, .acc f [], .list (pvn A), .list (pvn B)] ++ M⟩
theorem len_pvn {l : Nat} {A : List Nat} (hA : A.length ≤ 4096) {σ : PS} (h : σ.mem[l]? = some (.list (pvn A))) : fLenA [.ref l] σ = some (.int A.length, σ) := by
  have h1 : isAcc (.ref l) σ = false := by unfold isAcc; dsimp only; rw [h]
  show (if isAcc (.ref l) σ = true then _ else cLen [.ref l] σ) = _
  rw [h1]
  show cLen [.ref l] σ = _
  unfold cLen; dsimp only; rw [h]; dsimp only
  rw [if_pos (by unfold pvn; rw [List.length_map]; exact hA)]
  unfold pvn; rw [List.length_map]
theorem pInts_pvn : ∀ A : List Nat, pInts (pvn A) = some (A.map fun (n : Nat) => (n : Int))
  | [] => rfl
  | a :: r => by
    show (pInts (pvn r)).map _ = _
    rw [pInts_pvn r]; rfl
theorem sum_cast : ∀ A : List Nat, (A.map fun (n : Nat) => (n : Int)).sum = (A.sum : Nat)
  | [] => rfl
  | a :: r => by rw [List.map_cons, List.sum_cons, sum_cast r, List.sum_cons]; omega
theorem sum_pvn {l : Nat} {A : List Nat} {σ : PS} (h : σ.mem[l]? = some (.list (pvn A))) : cSum [.ref l] σ = some (.int (A.sum : Nat), σ) := by
  unfold cSum; dsimp only; rw [h]; dsimp only
  rw [pInts_pvn, ← sum_cast]; rfl
theorem fall_le (w : List Nat) : (fallF w).length ≤ w.length := by
  unfold fallF
  exact Nat.le_trans (List.length_filter_le ..) (by simp)
theorem law17 (q f : Nat) {lo sh : List Nat} (T : Int) (h1 : 1 ≤ lo.length) (h2 : lo.length ≤ 64) (h3 : 1 ≤ sh.length) (h4 : sh.length ≤ 64) : lawF_17 (stX q f lo sh [] T none none none none none none none []) = some (.next, stD q f lo sh T (fallF lo) (fallF sh) none (some 0) []) := by
  have a1 := cFal_is h2 h1 (stX q f lo sh [] T none none none none none none none []).vars [.tab 77, .tab 84, .gone, .gone, .gone, .gone, .acc f []]
  have a2 := cFal_is h4 h3 (stX q f lo sh [] T none none none none none none none []).vars [.tab 77, .tab 84, .gone, .gone, .gone, .gone, .acc f [], .list (pvn (fallF lo))]
  have l1 := fall_le lo
  have l2 := fall_le sh
  generalize hs : stX q f lo sh [] T none none none none none none none [] = σ at a1 a2
  have e1 : (⟨σ.vars, [.tab 77, .tab 84, .gone, .gone, .gone, .gone, .acc f []]⟩ : PS) = σ := by rw [← hs]; rfl
  rw [e1] at a1
  have hsh : fvar 16 ⟨σ.vars, [.tab 77, .tab 84, .gone, .gone, .gone, .gone, .acc f [], .list (pvn (fallF lo))]⟩ = some (.str sh, ⟨σ.vars, [.tab 77, .tab 84, .gone, .gone, .gone, .gone, .acc f [], .list (pvn (fallF lo))]⟩) := by rw [← hs]; rfl
  delta lawF_17
  refine (fb_eq (a := PV.tup [.int 0, .int (fallF lo).length, .int (fallF sh).length]) (σ := ⟨σ.vars, [.tab 77, .tab 84, .gone, .gone, .gone, .gone, .acc f [], .list (pvn (fallF lo)), .list (pvn (fallF sh))]⟩) ?_).trans (by rw [← hs]; rfl)
  refine (fb_eq (a := [PV.int 0, .int (fallF lo).length, .int (fallF sh).length]) (σ := ⟨σ.vars, [.tab 77, .tab 84, .gone, .gone, .gone, .gone, .acc f [], .list (pvn (fallF lo)), .list (pvn (fallF sh))]⟩) ?_).trans rfl
  refine (fb_eq (a := PV.int 0) (σ := σ) rfl).trans ?_
  refine (fb_eq (a := [PV.int (fallF lo).length, .int (fallF sh).length]) (σ := ⟨σ.vars, [.tab 77, .tab 84, .gone, .gone, .gone, .gone, .acc f [], .list (pvn (fallF lo)), .list (pvn (fallF sh))]⟩) ?_).trans rfl
  refine (fb_eq (a := PV.int (fallF lo).length) (σ := ⟨σ.vars, [.tab 77, .tab 84, .gone, .gone, .gone, .gone, .acc f [], .list (pvn (fallF lo))]⟩) ?_).trans ?_
  · refine (fb_eq (a := [PV.ref 7]) (σ := ⟨σ.vars, [.tab 77, .tab 84, .gone, .gone, .gone, .gone, .acc f [], .list (pvn (fallF lo))]⟩) ?_).trans (len_pvn (by omega) rfl)
    refine (fb_eq (a := PV.ref 7) (σ := ⟨σ.vars, [.tab 77, .tab 84, .gone, .gone, .gone, .gone, .acc f [], .list (pvn (fallF lo))]⟩) ?_).trans rfl
    exact (fb_eq (a := [PV.str lo]) (σ := σ) (by rw [← hs]; rfl)).trans a1
  · refine (fb_eq (a := [PV.int (fallF sh).length]) (σ := ⟨σ.vars, [.tab 77, .tab 84, .gone, .gone, .gone, .gone, .acc f [], .list (pvn (fallF lo)), .list (pvn (fallF sh))]⟩) ?_).trans rfl
    refine (fb_eq (a := PV.int (fallF sh).length) (σ := ⟨σ.vars, [.tab 77, .tab 84, .gone, .gone, .gone, .gone, .acc f [], .list (pvn (fallF lo)), .list (pvn (fallF sh))]⟩) ?_).trans rfl
    refine (fb_eq (a := [PV.ref 8]) (σ := ⟨σ.vars, [.tab 77, .tab 84, .gone, .gone, .gone, .gone, .acc f [], .list (pvn (fallF lo)), .list (pvn (fallF sh))]⟩) ?_).trans (len_pvn (by omega) rfl)
    refine (fb_eq (a := PV.ref 8) (σ := ⟨σ.vars, [.tab 77, .tab 84, .gone, .gone, .gone, .gone, .acc f [], .list (pvn (fallF lo)), .list (pvn (fallF sh))]⟩) ?_).trans rfl
    exact (fb_eq (a := [PV.str sh]) (σ := ⟨σ.vars, [.tab 77, .tab 84, .gone, .gone, .gone, .gone, .acc f [], .list (pvn (fallF lo))]⟩) ((fb_eq hsh).trans rfl)).trans a2
theorem law18 (q f : Nat) {lo sh : List Nat} (T : Int) (h1 : 1 ≤ lo.length) (h2 : lo.length ≤ 64) (h3 : 1 ≤ sh.length) (h4 : sh.length ≤ 64) : lawF_18 (stD q f lo sh T (fallF lo) (fallF sh) none (some 0) []) = some (.next, stD q f lo sh T (fallF lo) (fallF sh) (some ((fallF lo).sum + (fallF sh).sum : Nat)) (some 0) [.list (pvn (fallF lo)), .list (pvn (fallF sh))]) := by
  generalize hA : fallF lo = A
  generalize hB : fallF sh = B
  have a1 := cFal_is h2 h1 (stD q f lo sh T A B none (some 0) []).vars [.tab 77, .tab 84, .gone, .gone, .gone, .gone, .acc f [], .list (pvn A), .list (pvn B)]
  have a2 := cFal_is h4 h3 (stD q f lo sh T A B none (some 0) []).vars [.tab 77, .tab 84, .gone, .gone, .gone, .gone, .acc f [], .list (pvn A), .list (pvn B), .list (pvn A)]
  rw [hA] at a1
  rw [hB] at a2
  delta lawF_18
  refine (fb_eq (a := PV.int ((A.sum + B.sum : Nat) : Int)) (σ := stD q f lo sh T A B none (some 0) [.list (pvn A), .list (pvn B)]) ?_).trans rfl
  refine (fb_eq (a := PV.int (A.sum : Nat)) (σ := stD q f lo sh T A B none (some 0) [.list (pvn A)]) ?_).trans ?_
  · refine (fb_eq (a := [PV.ref 9]) (σ := stD q f lo sh T A B none (some 0) [.list (pvn A)]) ?_).trans (sum_pvn rfl)
    refine (fb_eq (a := PV.ref 9) (σ := stD q f lo sh T A B none (some 0) [.list (pvn A)]) ?_).trans rfl
    exact (fb_eq (a := [PV.str lo]) (σ := stD q f lo sh T A B none (some 0) []) rfl).trans a1
  · refine (fb_eq (a := PV.int (B.sum : Nat)) (σ := stD q f lo sh T A B none (some 0) [.list (pvn A), .list (pvn B)]) ?_).trans rfl
    refine (fb_eq (a := [PV.ref 10]) (σ := stD q f lo sh T A B none (some 0) [.list (pvn A), .list (pvn B)]) ?_).trans (sum_pvn rfl)
    refine (fb_eq (a := PV.ref 10) (σ := stD q f lo sh T A B none (some 0) [.list (pvn A), .list (pvn B)]) ?_).trans rfl
    exact (fb_eq (a := [PV.str sh]) (σ := stD q f lo sh T A B none (some 0) [.list (pvn A)]) rfl).trans a2
end Mine
end
section
open PySem PySem.W PyProof.Rows PySem.Calls
set_option maxHeartbeats 400000
namespace Mine
noncomputable def flt (bs : List Bool) (n : Nat) : List Nat := (List.range' 1 n).filter ((false :: bs).getD · false)
noncomputable def due1 : List Nat := [86420918502609730388905970046372675585, 438206091137423775056079068160935226559016630756890129898194159534080, 28045189832795121603589060362299854499777064368440968313484426210181120, 142205472903470509645530965109944108428734119293954856218821010703507551696735862159654535293451632640, 1794892149298887782629699863187190687985732119580221972063003277451591680, 9101150265822112617313981767036422939438983634813110798004544685024483308591095178217890258780904488960, 582473617012615207508094833090331068124094952628039091072290859841566931749830091405944976561977887293440, 2952782317450902992856627969545027521996109642479581495193641317892561176332324282527305555475310422630182928241163129693681305434193920, 114873097555128818088300791243980204031086855653134206212032209756901867520, 582473617012615207508094833090331068124094952628039091072290859841566931749830091405944976561977887293440, 37278311488807373280518069317781188359942076968194501828626615029860283631989125849980478499966584786780160, 188978068316857791542824190050881761407751017118693215692393044345123915285268754081747555550419867048331707407434440300395603547788410880, 2385811935283671889953156436337996055036292925964448117032103361911058152447304054398750623997861426353930240, 12094596372278898658740748163256432730096065095596365804313154838087930578257200261231843555226871491093229274075804179225318627058458296320, 774054167825849514159407882448411694726148166118167411476041909637627557008460816718837987534519775429966673540851467470420392131741330964480, 3864537523017258344695351890932761587490248916346861380023206449634603611536894354523324194339486915993737725274475072616293334555959845956555993131917076597889726320476160]
noncomputable def due2 : List (List Nat) := [[1795323613757853861423601233346610772168185653949466837404565391919808513, 114901149486593784554885535013251244823051656702373889594040000309176041472], [9101150265822112617313981767036450991370448601279695541773815725816448109640334861599898049333178662912, 582615822485518678017740364055441012663988145713411839829879840272268200836558586782581066689339434467328], [582473617012615207508094833090332863447708710481900514673524206452252679016981431142393475157323434426368, 37287412639073195393135383299548224810495241325658357749112309777425164853539749554085188268117723805908992], [2907354897182427562197295231552609714403270397427144135631640738629523528075497395842044748918080994259789333095490263098721941304901632, 189023495737126266973483522788874770932316607704536288106300867401822124896195963114589542871202633771624711120502559489511918964161118208], [37278311488807373280518069317781303260653357470841632939105549212944171457086811593113182410068699803287552, 2386394408900684505160664531171086387871695444842134895943187825755210550626543971461452049159534323578175488], [186070713419675363980626894819367021721809305435337224680425007272289505796831833333890863930757183632626517318111376838318204243513704448, 12097503727176081086302945458487985339668262893090322438803255513716615993356541639333730743756968561383981511712163807328762813706311565312], [11908525658859223294760121268439489390195795547861582379547200465426528370997237333369015291568459752488097108359128117652365071584877084672, 774240238539269189523388509343231061738768825157780636083408352877863423574818664917358767600445987928574816749578483669040820077203940179968], [774243191321586640426381365971200569487979332460049835146834228737992956193918029047139466279386433378713814943380874851692013791924587593728, 3864537523017258344695351890932773684993976092427947682968664937619360806182774829638254902761910301541606986863486367255964800664679663006317875204318460384141454744748032]]
noncomputable def stE (q f : Nat) (lo sh : List Nat) (T : Int) (A B : List Nat) (due : Nat) : PS := stD q f lo sh T A B (some (A.sum + B.sum : Nat)) (some (due : Nat)) [.list (pvn A), .list (pvn B)]
noncomputable def idxB (bs : List Bool) : Nat := bs.foldr (fun b n => 2 * n + cond b 1 0) 0
noncomputable def inE1 (f : Nat) (lo sh : List Nat) (T : Int) (bs : List Bool) : Option (Fl × PS) := lawF_19 (stE 1 f lo sh T (flt bs 4) [] 0)
noncomputable def outE1 (f : Nat) (lo sh : List Nat) (T : Int) (bs : List Bool) (d : Nat) : Option (Fl × PS) := some (.next, stE 1 f lo sh T (flt bs 4) [] d)
noncomputable def inE2 (f : Nat) (lo sh : List Nat) (T : Int) (bs cs : List Bool) : Option (Fl × PS) := lawF_19 (stE 2 f lo sh T (flt bs 3) (flt cs 1) 0)
noncomputable def outE2 (f : Nat) (lo sh : List Nat) (T : Int) (bs cs : List Bool) (d : Nat) : Option (Fl × PS) := some (.next, stE 2 f lo sh T (flt bs 3) (flt cs 1) d)
theorem d19_1 (f : Nat) (lo sh : List Nat) (T : Int) : ((bools 4).map (inE1 f lo sh T)) = [outE1 f lo sh T [false, false, false, false] (due1.getD 0 0), outE1 f lo sh T [true, false, false, false] (due1.getD 1 0), outE1 f lo sh T [false, true, false, false] (due1.getD 2 0), outE1 f lo sh T [true, true, false, false] (due1.getD 3 0), outE1 f lo sh T [false, false, true, false] (due1.getD 4 0), outE1 f lo sh T [true, false, true, false] (due1.getD 5 0), outE1 f lo sh T [false, true, true, false] (due1.getD 6 0), outE1 f lo sh T [true, true, true, false] (due1.getD 7 0), outE1 f lo sh T [false, false, false, true] (due1.getD 8 0), outE1 f lo sh T [true, false, false, true] (due1.getD 9 0), outE1 f lo sh T [false, true, false, true] (due1.getD 10 0), outE1 f lo sh T [true, true, false, true] (due1.getD 11 0), outE1 f lo sh T [false, false, true, true] (due1.getD 12 0), outE1 f lo sh T [true, false, true, true] (due1.getD 13 0), outE1 f lo sh T [false, true, true, true] (due1.getD 14 0), outE1 f lo sh T [true, true, true, true] (due1.getD 15 0)] := by kernel_rfl
theorem d19_2 (f : Nat) (lo sh : List Nat) (T : Int) : ((bools 3).map fun bs => (bools 1).map (inE2 f lo sh T bs)) = [[outE2 f lo sh T [false, false, false] [false] ((due2.getD 0 []).getD 0 0), outE2 f lo sh T [false, false, false] [true] ((due2.getD 0 []).getD 1 0)], [outE2 f lo sh T [true, false, false] [false] ((due2.getD 1 []).getD 0 0), outE2 f lo sh T [true, false, false] [true] ((due2.getD 1 []).getD 1 0)], [outE2 f lo sh T [false, true, false] [false] ((due2.getD 2 []).getD 0 0), outE2 f lo sh T [false, true, false] [true] ((due2.getD 2 []).getD 1 0)], [outE2 f lo sh T [true, true, false] [false] ((due2.getD 3 []).getD 0 0), outE2 f lo sh T [true, true, false] [true] ((due2.getD 3 []).getD 1 0)], [outE2 f lo sh T [false, false, true] [false] ((due2.getD 4 []).getD 0 0), outE2 f lo sh T [false, false, true] [true] ((due2.getD 4 []).getD 1 0)], [outE2 f lo sh T [true, false, true] [false] ((due2.getD 5 []).getD 0 0), outE2 f lo sh T [true, false, true] [true] ((due2.getD 5 []).getD 1 0)], [outE2 f lo sh T [false, true, true] [false] ((due2.getD 6 []).getD 0 0), outE2 f lo sh T [false, true, true] [true] ((due2.getD 6 []).getD 1 0)], [outE2 f lo sh T [true, true, true] [false] ((due2.getD 7 []).getD 0 0), outE2 f lo sh T [true, true, true] [true] ((due2.getD 7 []).getD 1 0)]] := by kernel_rfl
end Mine
end
section
open PySem PySem.W PyProof.Rows PySem.Calls
set_option maxHeartbeats 400000
namespace Mine
noncomputable def exR (r : List Nat) : Nat → Nat → Nat := List.rec (fun _ _ => 0) (fun b _ ih w a => cond (Nat.blt b a) (Nat.add w (ih (Nat.add w 1) b)) (ih (Nat.add w 1) b)) r
noncomputable def leafR (t : List Nat) : Nat := List.rec 0 (fun a r _ => Nat.pow 64 (exR r 17 a)) t
noncomputable def firstR (t : List Nat) (x y : Nat) : Bool := List.rec false (fun a _ ih => cond (Nat.beq a x) true (cond (Nat.beq a y) false ih)) t
noncomputable def sumIns (c : Nat) (t : List Nat) : (List Nat → Nat) → Nat := List.rec (fun f => f [c]) (fun a r ih f => Nat.add (f (c :: a :: r)) (ih fun l => f (a :: l))) t
noncomputable def rowOk (M : List Nat) : Bool := match M with
  | [a, b, c, d, e, f] => Nat.beq (sumIns f [a, b, c, d, e] leafR) (due1.getD (idxB [Nat.blt b a, Nat.blt c b, Nat.blt d c, Nat.blt e d]) 0) &&
    Nat.beq (sumIns e [a, b, c, d] fun l => sumIns f l fun l' => cond (firstR l' e f) (leafR l') 0) ((due2.getD (idxB [Nat.blt b a, Nat.blt c b, Nat.blt d c]) []).getD (idxB [Nat.blt f e]) 0)
  | _ => false
theorem rows_ok : rows6.all rowOk = true := by decide +kernel
theorem sumIns_is (c : Nat) : ∀ (t : List Nat) (F : List Nat → Nat), ((List.range (t.length + 1)).map fun p => F (insL t p c)).sum = sumIns c t F
  | [], F => rfl
  | a :: r, F => by
    have ih := sumIns_is c r fun l => F (a :: l)
    show _ = F (c :: a :: r) + sumIns c r fun l => F (a :: l)
    rw [← ih, List.length_cons, List.range_succ_eq_map, List.map_cons, List.sum_cons, List.map_map]
    rfl
theorem firstR_is (x y : Nat) : ∀ t : List Nat, firstR t x y = firstOf t x y
  | [] => rfl
  | a :: r => by
    have ih := firstR_is x y r
    show cond (Nat.beq a x) true (cond (Nat.beq a y) false (firstR r x y)) = if Nat.beq a x then true else if Nat.beq a y then false else firstOf r x y
    rw [ih]
    cases Nat.beq a x <;> cases Nat.beq a y <;> rfl
theorem firstOf_self (x : Nat) : ∀ t : List Nat, x ∈ t → firstOf t x x = true
  | a :: r, h => by
    show (if Nat.beq a x then true else if Nat.beq a x then false else firstOf r x x) = true
    by_cases e : a = x
    · rw [if_pos (by rw [e]; exact Nat.beq_refl x)]
    · rw [if_neg (fun q => e (Nat.eq_of_beq_eq_true q)), if_neg (fun q => e (Nat.eq_of_beq_eq_true q))]
      rcases List.mem_cons.mp h with h | h
      · exact absurd h.symm e
      · exact firstOf_self x r h
theorem exR_cons (b : Nat) (r : List Nat) (w a : Nat) : exR (b :: r) w a = cond (Nat.blt b a) w 0 + exR r (w + 1) b := by
  show cond (Nat.blt b a) (w + exR r (w + 1) b) (exR r (w + 1) b) = _
  cases Nat.blt b a
  · exact (Nat.zero_add _).symm
  · rfl
theorem leafR_is {t : List Nat} (ht : t.length = 6) : valG true t = leafR t := by
  obtain ⟨a, b, c, d, e, f, rfl⟩ := len6 ht
  show 64 ^ exB (fl [a, b, c, d, e, f]) 6 = 64 ^ exR [b, c, d, e, f] 17 a
  have h0 : fl [a, b, c, d, e, f] 0 = false := Bool.eq_false_iff.mpr fun h => Nat.lt_irrefl _ (Nat.le_of_ble_eq_true h)
  have e1 : exB (fl [a, b, c, d, e, f]) 6 = 0 + cond (fl [a, b, c, d, e, f] 0) 16 0 + cond (Nat.blt b a) 17 0 + cond (Nat.blt c b) 18 0 + cond (Nat.blt d c) 19 0 + cond (Nat.blt e d) 20 0 + cond (Nat.blt f e) 21 0 := rfl
  have e2 : exR [b, c, d, e, f] 17 a = cond (Nat.blt b a) 17 0 + (cond (Nat.blt c b) 18 0 + (cond (Nat.blt d c) 19 0 + (cond (Nat.blt e d) 20 0 + (cond (Nat.blt f e) 21 0 + 0)))) := by
    rw [exR_cons, exR_cons, exR_cons, exR_cons, exR_cons]; rfl
  rw [e1, e2, h0, cond_false, Nat.add_zero, Nat.add_zero, Nat.zero_add]
  simp only [Nat.add_assoc]
theorem ins_len {t : List Nat} {p c : Nat} : (insL t p c).length = t.length + 1 := (ins_perm t p c).length_eq
theorem ins_mem {t : List Nat} {p c x : Nat} : x ∈ insL t p c ↔ x = c ∨ x ∈ t := by rw [(ins_perm t p c).mem_iff, List.mem_cons]
theorem tree1 {lo : List Nat} (h : lo.length = 5) (x : Nat) : treeV x x [x] lo = sumIns x lo leafR := by
  rw [← sumIns_is]
  show ((List.range (lo.length + 1)).map fun p => valG (firstOf (insL lo p x) x x) (insL lo p x)).sum = _
  refine congrArg List.sum (List.map_congr_left fun p _ => ?_)
  rw [firstOf_self x _ (ins_mem.mpr (.inl rfl))]
  exact leafR_is (by rw [ins_len, h])
theorem tree2 {lo : List Nat} (h : lo.length = 4) (x y : Nat) : treeV x y [x, y] lo = sumIns x lo fun l => sumIns y l fun l' => cond (firstR l' x y) (leafR l') 0 := by
  rw [← sumIns_is]
  show ((List.range (lo.length + 1)).map fun p => treeV x y [y] (insL lo p x)).sum = _
  refine congrArg List.sum (List.map_congr_left fun p _ => ?_)
  show _ = sumIns y (insL lo p x) fun l' => cond (firstR l' x y) (leafR l') 0
  rw [← sumIns_is]
  show ((List.range ((insL lo p x).length + 1)).map fun k => valG (firstOf (insL (insL lo p x) k y) x y) (insL (insL lo p x) k y)).sum = _
  refine congrArg List.sum (List.map_congr_left fun k _ => ?_)
  rw [firstR_is]
  cases firstOf (insL (insL lo p x) k y) x y
  · rfl
  · exact leafR_is (by rw [ins_len, ins_len, h])
theorem row_is {a b c d e f : Nat} (h : [a, b, c, d, e, f] ∈ rows6) : treeV f f [f] [a, b, c, d, e] = due1.getD (idxB [Nat.blt b a, Nat.blt c b, Nat.blt d c, Nat.blt e d]) 0 ∧
    treeV e f [e, f] [a, b, c, d] = (due2.getD (idxB [Nat.blt b a, Nat.blt c b, Nat.blt d c]) []).getD (idxB [Nat.blt f e]) 0 := by
  have := List.all_eq_true.mp rows_ok _ h
  obtain ⟨h1, h2⟩ := Bool.and_eq_true_iff.mp this
  exact ⟨(tree1 rfl f).trans (Nat.eq_of_beq_eq_true h1), (tree2 rfl e f).trans (Nat.eq_of_beq_eq_true h2)⟩
noncomputable def nodupB : List Nat → Bool
  | [] => true
  | a :: r => r.all (fun b => !Nat.beq a b) && nodupB r
theorem nodup_of : ∀ {l : List Nat}, nodupB l = true → l.Nodup
  | [], _ => List.nodup_nil
  | a :: r, h => by
    obtain ⟨h1, h2⟩ := Bool.and_eq_true_iff.mp h
    refine List.nodup_cons.mpr ⟨fun q => ?_, nodup_of h2⟩
    have := List.all_eq_true.mp h1 a q
    rw [Nat.beq_refl] at this
    cases this
theorem rows_base : (rows6.all fun M => nodupB M && M.all fun c => base6.any fun b => Nat.beq b c) = true := by decide +kernel
theorem row_base {M : List Nat} (h : M ∈ rows6) : M.Nodup ∧ ∀ c ∈ M, c ∈ base6 := by
  obtain ⟨h1, h2⟩ := Bool.and_eq_true_iff.mp (List.all_eq_true.mp rows_base M h)
  refine ⟨nodup_of h1, fun c hc => ?_⟩
  obtain ⟨b, hb, e⟩ := List.any_eq_true.mp (List.all_eq_true.mp h2 c hc)
  rw [← Nat.eq_of_beq_eq_true e]; exact hb
end Mine
end
section
open PySem PySem.W PyProof.Rows PySem.Calls
set_option maxHeartbeats 400000
namespace Mine
theorem bools4 : ∀ a b c d : Bool, [a, b, c, d] ∈ bools 4 := by decide
theorem bools3 : ∀ a b c : Bool, [a, b, c] ∈ bools 3 := by decide
theorem bools1 : ∀ a : Bool, [a] ∈ bools 1 := by decide
theorem law19_1 (f : Nat) (lo sh : List Nat) (T : Int) (a b c d : Bool) : lawF_19 (stE 1 f lo sh T (flt [a, b, c, d] 4) [] 0) = some (.next, stE 1 f lo sh T (flt [a, b, c, d] 4) [] (due1.getD (idxB [a, b, c, d]) 0)) := by
  have h : (bools 4).map (inE1 f lo sh T) = (bools 4).map fun bs => outE1 f lo sh T bs (due1.getD (idxB bs) 0) := (d19_1 f lo sh T).trans (by kernel_rfl)
  exact List.map_inj_left.mp h _ (bools4 a b c d)
theorem law19_2 (f : Nat) (lo sh : List Nat) (T : Int) (a b c d : Bool) : lawF_19 (stE 2 f lo sh T (flt [a, b, c] 3) (flt [d] 1) 0) = some (.next, stE 2 f lo sh T (flt [a, b, c] 3) (flt [d] 1) ((due2.getD (idxB [a, b, c]) []).getD (idxB [d]) 0)) := by
  have h : ((bools 3).map fun bs => (bools 1).map (inE2 f lo sh T bs)) = (bools 3).map fun bs => (bools 1).map fun cs => outE2 f lo sh T bs cs ((due2.getD (idxB bs) []).getD (idxB cs) 0) := (d19_2 f lo sh T).trans (by kernel_rfl)
  exact List.map_inj_left.mp (List.map_inj_left.mp h _ (bools3 a b c)) _ (bools1 d)
theorem law20 (q f : Nat) (lo sh A B : List Nat) (d : Nat) : lawF_20 (stE q f lo sh (d : Nat) A B d) = some (.ret (.bool true), stE q f lo sh (d : Nat) A B d) := by
  refine Eq.trans (b := some (.ret (.bool (((d : Nat) : Int) == (d : Nat))), stE q f lo sh (d : Nat) A B d)) (by kernel_rfl) ?_
  rw [beq_self_eq_true]
theorem base_is : ∀ c ∈ base6, 32 ≤ c ∧ c ≤ 200 := by decide
theorem f3 : ∀ f < 3, f ∈ [0, 1, 2] := by decide
section
variable {r0 r1 r2 r3 r4 r5 f : Nat} (hf : f ∈ [0, 1, 2]) (hm : [r0, r1, r2, r3, r4, r5] ∈ rows6)
include hf hm
theorem end1 : ∃ σ', seqs [lawF_15, lawF_16, lawF_17, lawF_18, lawF_19, lawF_20] (stW 1 f [r0, r1, r2, r3, r4] [r5] [.tup [.str [], .str [r0, r1, r2, r3, r4]]] 0 []) = some (.ret (.bool true), σ') ∧ σ'.mem[0]? = some (.tab 77) ∧ σ'.mem[1]? = some (.tab 84) := by
  obtain ⟨hN, hb⟩ := row_base hm
  have h15 := law15 (q := 1) (f := f) (lo := [r0, r1, r2, r3, r4]) (sh := [r5]) (row := [r0, r1, r2, r3, r4, r5]) (x := r5) (y := r5) (by decide) rfl hf rfl hN
    (fun t ht => leaf1 ht.length_eq (ht.nodup_iff.mpr hN) (ht.mem_iff.mpr (by simp)) (hb r5 (by simp))) (by show 1 + (6 - 0) * 1 ≤ 190; decide) (List.Perm.refl _)
  rw [(row_is hm).1] at h15
  refine ⟨stE 1 f [r0, r1, r2, r3, r4] [r5] ((due1.getD (idxB [Nat.blt r1 r0, Nat.blt r2 r1, Nat.blt r3 r2, Nat.blt r4 r3]) 0) : Nat) (flt [Nat.blt r1 r0, Nat.blt r2 r1, Nat.blt r3 r2, Nat.blt r4 r3] 4) [] (due1.getD (idxB [Nat.blt r1 r0, Nat.blt r2 r1, Nat.blt r3 r2, Nat.blt r4 r3]) 0), ?_, rfl, rfl⟩
  · refine (fseq_next h15).trans ?_
    refine (fseq_next (law16 1 f _ _ _ hf)).trans ?_
    refine (fseq_next (law17 1 f _ (by simp) (by simp) (by simp) (by simp))).trans ?_
    refine (fseq_next (law18 1 f _ (by simp) (by simp) (by simp) (by simp))).trans ?_
    refine (fseq_next (law19_1 f [r0, r1, r2, r3, r4] [r5] _ (Nat.blt r1 r0) (Nat.blt r2 r1) (Nat.blt r3 r2) (Nat.blt r4 r3))).trans ?_
    exact fseq_ret (law20 1 f _ _ _ _ _)
theorem end2 : ∃ σ', seqs [lawF_15, lawF_16, lawF_17, lawF_18, lawF_19, lawF_20] (stW 2 f [r0, r1, r2, r3] [r4, r5] [.tup [.str [], .str [r0, r1, r2, r3]]] 0 []) = some (.ret (.bool true), σ') ∧ σ'.mem[0]? = some (.tab 77) ∧ σ'.mem[1]? = some (.tab 84) := by
  obtain ⟨hN, hb⟩ := row_base hm
  have hne : r4 ≠ r5 := by
    rintro rfl
    simp at hN
  have h15 := law15 (q := 2) (f := f) (lo := [r0, r1, r2, r3]) (sh := [r4, r5]) (row := [r0, r1, r2, r3, r4, r5]) (x := r4) (y := r5) (by decide) rfl hf rfl hN
    (fun t ht => leaf2 ht.length_eq (ht.nodup_iff.mpr hN) hne (ht.mem_iff.mpr (by simp)) (ht.mem_iff.mpr (by simp)) (hb r4 (by simp)) (hb r5 (by simp))) (by show 1 + (6 - 1) * (1 + (6 - 0) * 1) ≤ 190; decide) (List.Perm.refl _)
  rw [(row_is hm).2] at h15
  refine ⟨stE 2 f [r0, r1, r2, r3] [r4, r5] (((due2.getD (idxB [Nat.blt r1 r0, Nat.blt r2 r1, Nat.blt r3 r2]) []).getD (idxB [Nat.blt r5 r4]) 0) : Nat) (flt [Nat.blt r1 r0, Nat.blt r2 r1, Nat.blt r3 r2] 3) (flt [Nat.blt r5 r4] 1) ((due2.getD (idxB [Nat.blt r1 r0, Nat.blt r2 r1, Nat.blt r3 r2]) []).getD (idxB [Nat.blt r5 r4]) 0), ?_, rfl, rfl⟩
  · refine (fseq_next h15).trans ?_
    refine (fseq_next (law16 2 f _ _ _ hf)).trans ?_
    refine (fseq_next (law17 2 f _ (by simp) (by simp) (by simp) (by simp))).trans ?_
    refine (fseq_next (law18 2 f _ (by simp) (by simp) (by simp) (by simp))).trans ?_
    refine (fseq_next (law19_2 f [r0, r1, r2, r3] [r4, r5] _ (Nat.blt r1 r0) (Nat.blt r2 r1) (Nat.blt r3 r2) (Nat.blt r5 r4))).trans ?_
    exact fseq_ret (law20 2 f _ _ _ _ _)
end
theorem lawF_is (σ : PS) : lawF σ = seqs ([lawF_0, lawF_1, lawF_2, lawF_3, lawF_4, lawF_5, lawF_6, lawF_7, lawF_8, lawF_9, lawF_10, lawF_11] ++ ([lawF_12, lawF_13, lawF_14] ++ [lawF_15, lawF_16, lawF_17, lawF_18, lawF_19, lawF_20])) σ := rfl
theorem pure1 : PureL lawF := by
  intro xs hlen
  obtain ⟨ns, hn, h1⟩ := law1 xs hlen
  obtain ⟨n0, n1, n2, n3, n4, n5, n6, n7, rfl⟩ := len8 hn
  obtain ⟨row, hr, h3⟩ := law3 n0 n1 n2 n3 n4 n5 n6 n7
  have hm : row ∈ rows6 := List.mem_map.mpr ⟨_, hr, rfl⟩
  obtain ⟨hN, hb⟩ := row_base hm
  have hl : row.length = 6 := (reach_lens (by decide) hr).1
  obtain ⟨t, ht, h4⟩ := law4 hl hb n0 n1 n2 n3 n4 n5 n6 n7
  have htl : t.length ≤ 12 := by have := typed_len ht; omega
  obtain ⟨ms, h6⟩ := law6 hl htl ht [n0, n1, n2, n3, n4, n5, n6, n7]
  obtain ⟨a, ha6, ha⟩ := natOf (n := 6) (Int.fmod_nonneg_of_pos n7 (by decide)) (Int.fmod_lt_of_pos n7 (by decide))
  obtain ⟨e, he2, he⟩ := natOf (n := 2) (Int.fmod_nonneg_of_pos n7 (by decide)) (Int.fmod_lt_of_pos n7 (by decide))
  obtain ⟨f, hf3, hf⟩ := natOf (n := 3) (Int.fmod_nonneg_of_pos (n7.fdiv 2) (by decide)) (Int.fmod_lt_of_pos (n7.fdiv 2) (by decide))
  obtain ⟨r0, r1, r2, r3, r4, r5, rfl⟩ := len6 hl
  obtain ⟨b0, b1⟩ := base_is r0 (hb r0 (by simp))
  have hpre : ∀ {e : Nat}, n7.fmod 2 = e → seqs [lawF_0, lawF_1, lawF_2, lawF_3, lawF_4, lawF_5, lawF_6, lawF_7, lawF_8, lawF_9, lawF_10, lawF_11] (st1 xs) = some (.next, st11 [r0, r1, r2, r3, r4, r5] [n0, n1, n2, n3, n4, n5, n6, n7] (1 + e) f) := by
    intro e he
    refine (fseq_next (law0 xs)).trans ?_
    refine (fseq_next h1).trans ?_
    refine (fseq_next (law2 _)).trans ?_
    refine (fseq_next h3).trans ?_
    refine (fseq_next h4).trans ?_
    refine (fseq_next (law5 _ t _ htl ht)).trans ?_
    refine (fseq_next h6).trans ?_
    refine (fseq_next (law7 _ t _ ms)).trans ?_
    refine (fseq_next (law8 r0 r1 r2 r3 r4 r5 n0 n1 n2 n3 n4 n5 n6 n7 ha ha6 b0 b1)).trans ?_
    refine (fseq_next (law9 _ (take_lt _ a (by simpa using ha6)) (List.cons_lt_cons_iff.mpr (.inl (by show ((r0 : Int) - 32).toNat < r0; omega))))).trans ?_
    refine (fseq_next (law10 n0 n1 n2 n3 n4 n5 n6 n7 _ a)).trans ?_
    exact seqs_one (law11 n0 n1 n2 n3 n4 n5 n6 n7 _ he hf)
  have hff := f3 f hf3
  rw [lawF_is]
  induction e, he2 using lt2C
  · rw [seqs_app (hpre he), seqs_app (law12_1 r0 r1 r2 r3 r4 r5 n0 n1 n2 n3 n4 n5 n6 n7 f)]
    exact end1 hff hm
  · rw [seqs_app (hpre he), seqs_app (law12_2 r0 r1 r2 r3 r4 r5 n0 n1 n2 n3 n4 n5 n6 n7 f)]
    exact end2 hff hm
end Mine
end
section
open PySem PySem.W PyProof.Rows PySem.Calls
set_option maxHeartbeats 8000000
namespace Mine
theorem said1 : OpenLaw.wellSaid Challenge.rw_wr0042_02 = true := by
  rw [PySem.W.Fast.te9446332074065402090]
  kernel_rfl
theorem chains1 : (chainsOk qv && opensWell (Challenge.rw_wr0042_02.row).prog && (frees (Challenge.rw_wr0042_02.row).toRowW && (Challenge.rw_wr0042_02.row).within.isEmpty)) = true := by kernel_rfl
theorem top1 (hp : PureL lawF) : Challenge.rw_wr0042_02.Holds := by
  refine holds_law said1 fun said => ?_
  refine PySem.W.holds_open (q := qv) (loose := lsv) (Xt := XtV) (XP := XL qv []) (Yf := hk1.obs) (Ya := hk1.val) (YP := hk1.says) (N := NN) left1 hk1.of hk1.keeps (fun s e => xl_of s (Bool.and_eq_true_iff.mp e).1) XL.keeps (d := recAt 8) (kwd := []) def1 (by rfl) (by rfl) (fun s e => recFacts_of (Bool.and_eq_true_iff.mp e).2) (by rfl) said chains1 ⟨rfl, rfl, rfl, rfl, rfl, by decide +kernel⟩ ?hw (entryL rfl lawW hp)
  w_witness2
end Mine
end
set_option Elab.async false
theorem PySem.Challenge.cw_wr0042_02_holds : PySem.Challenge.rw_wr0042_02.Holds :=
  Mine.top1 Mine.pure1
