import PyProof.Rows.All
import Wide.All
import OpenK.AllK
import Wide.FinOn
import KE.KSuper
import Lean
import PySem.Challenge.RW_wr0042_01
set_option Elab.async false
set_option maxRecDepth 100000
section
open PySem PySem.W PyProof.Rows PySem.Calls
set_option genInjectivity false
set_option genSizeOfSpec false
namespace Mine
inductive PV where
  | none
  | bool (b : Bool)
  | int (i : Int)
  | str (s : List Nat)
  | ref (l : Nat)
  | tup (vs : List PV)
  | rng (a b c : Int)
  | raw (v : Value)
  | flist (vs : List PV)
inductive PO where
  | list (xs : List PV)
  | dict (es : List (List Nat × PV))
  | acc (n : Int) (xs : List PV)
  | tab (P : Nat)
  | gone
noncomputable abbrev Led := List (Addr × Obj)
structure Wd where
  mu : List Addr
  T : Led
noncomputable def Wd.le (W W' : Wd) : Prop := (∃ e, W'.mu = W.mu ++ e) ∧ ∀ p ∈ W.T, p ∈ W'.T
theorem Wd.le_refl (W : Wd) : W.le W := ⟨⟨[], (List.append_nil _).symm⟩, fun _ h => h⟩
theorem Wd.le_trans {A B C : Wd} (x : A.le B) (y : B.le C) : A.le C := by
  obtain ⟨⟨e, h⟩, t⟩ := x
  obtain ⟨⟨f, h'⟩, t'⟩ := y
  exact ⟨⟨e ++ f, by rw [h', h, List.append_assoc]⟩, fun p hp => t' p (t p hp)⟩
noncomputable def mkS' (s : List Nat) : Str := ⟨s.toArray⟩
@[simp] theorem mkS'_cps (s : List Nat) : (mkS' s).cps.toList = s := rfl
@[simp] theorem mkS'_len (s : List Nat) : (mkS' s).length = s.length := by simp [mkS', Str.length]
noncomputable def tupO (xs : List Value) : Obj := { cls := .type "tuple", data := .seq xs.toArray }
noncomputable def listO (xs : List Value) (n : Nat) : Obj := { cls := .type "list", data := .seq xs.toArray n }
noncomputable def rngO (a b c : Int) (t u v : Tok) : Obj := { cls := .type "range", data := .fields #[.int a t, .int b u, .int c v] }
mutual
inductive VRel (W : Wd) : PV → Value → Prop
  | none : VRel W .none .none
  | bool (b : Bool) : VRel W (.bool b) (.bool b)
  | int (i : Int) (t : Tok) : VRel W (.int i) (.int i t)
  | str (s : List Nat) (t : Tok) : VRel W (.str s) (.str (mkS' s) t)
  | ref (l : Nat) (a : Addr) : W.mu[l]? = some a → VRel W (.ref l) (.ref a)
  | tup (vs : List PV) (xs : List Value) (a : Addr) : (a, tupO xs) ∈ W.T → VRels W vs xs → VRel W (.tup vs) (.ref a)
  | rng (a b c : Int) (t u v : Tok) (x : Addr) : (x, rngO a b c t u v) ∈ W.T → VRel W (.rng a b c) (.ref x)
  | raw (v : Value) : VRel W (.raw v) v
  | flist (vs : List PV) (xs : List Value) (n : Nat) (a : Addr) : (a, listO xs n) ∈ W.T → VRels W vs xs → VRel W (.flist vs) (.ref a)
inductive VRels (W : Wd) : List PV → List Value → Prop
  | nil : VRels W [] []
  | cons {v : PV} {x : Value} {vs : List PV} {xs : List Value} : VRel W v x → VRels W vs xs → VRels W (v :: vs) (x :: xs)
end
theorem VRel.noneC {W : Wd} {motive : (x : Value) → VRel W .none x → Prop} (none : motive .none .none) {x : Value} (h : VRel W .none x) : motive x h := by cases h; exact none
theorem VRel.boolC {W : Wd} {b : Bool} {motive : (x : Value) → VRel W (.bool b) x → Prop} (bool : motive (.bool b) (.bool b)) {x : Value} (h : VRel W (.bool b) x) : motive x h := by cases h; exact bool
theorem VRel.intC {W : Wd} {i : Int} {motive : (x : Value) → VRel W (.int i) x → Prop} (int : ∀ t, motive (.int i t) (.int i t)) {x : Value} (h : VRel W (.int i) x) : motive x h := by cases h; exact int _
theorem VRel.strC {W : Wd} {s : List Nat} {motive : (x : Value) → VRel W (.str s) x → Prop} (str : ∀ t, motive (.str (mkS' s) t) (.str s t)) {x : Value} (h : VRel W (.str s) x) : motive x h := by cases h; exact str _
theorem VRel.refC {W : Wd} {l : Nat} {motive : (x : Value) → VRel W (.ref l) x → Prop} (ref : ∀ a (e : W.mu[l]? = some a), motive (.ref a) (.ref l a e)) {x : Value} (h : VRel W (.ref l) x) : motive x h := by cases h; apply ref <;> assumption
theorem VRel.tupC {W : Wd} {vs : List PV} {motive : (x : Value) → VRel W (.tup vs) x → Prop} (tup : ∀ xs a (e : (a, tupO xs) ∈ W.T) (r : VRels W vs xs), motive (.ref a) (.tup vs xs a e r)) {x : Value} (h : VRel W (.tup vs) x) : motive x h := by cases h; apply tup <;> assumption
theorem VRel.rawC {W : Wd} {v : Value} {motive : (x : Value) → VRel W (.raw v) x → Prop} (raw : motive v (.raw v)) {x : Value} (h : VRel W (.raw v) x) : motive x h := by cases h; exact raw
theorem VRel.flistC {W : Wd} {vs : List PV} {motive : (x : Value) → VRel W (.flist vs) x → Prop} (flist : ∀ xs n a (e : (a, listO xs n) ∈ W.T) (r : VRels W vs xs), motive (.ref a) (.flist vs xs n a e r)) {x : Value} (h : VRel W (.flist vs) x) : motive x h := by cases h; apply flist <;> assumption
theorem VRels.nilC {W : Wd} {motive : (xs : List Value) → VRels W [] xs → Prop} (nil : motive [] .nil) {xs : List Value} (h : VRels W [] xs) : motive xs h := by cases h; exact nil
theorem VRels.consC {W : Wd} {v : PV} {vs : List PV} {motive : (xs : List Value) → VRels W (v :: vs) xs → Prop} (cons : ∀ {x : Value} {xs : List Value} (r : VRel W v x) (rs : VRels W vs xs), motive (x :: xs) (.cons r rs)) {xs : List Value} (h : VRels W (v :: vs) xs) : motive xs h := by cases h; apply cons <;> assumption
theorem someC {α β : Type} {a : α} {b : β} {motive : (r : α) → (s : β) → some (a, b) = some (r, s) → Prop} (refl : motive a b rfl) {r : α} {s : β} (e : some (a, b) = some (r, s)) : motive r s e := by cases e; exact refl
theorem some1C {α : Type} {a : α} {motive : (r : α) → some a = some r → Prop} (refl : motive a rfl) {r : α} (e : some a = some r) : motive r e := by cases e; exact refl
theorem noneE {α : Type} {a : α} {P : Prop} (e : Option.none = some a) : P := by cases e
theorem natC {motive : Nat → Prop} (zero : motive 0) (succ : ∀ k, motive (k + 1)) (n : Nat) : motive n := by
  cases n
  · exact zero
  · exact succ _
theorem boolC {motive : Bool → Prop} (false : motive .false) (true : motive .true) (b : Bool) : motive b := by
  cases b
  · exact false
  · exact true
theorem optC {α : Type} {motive : Option α → Prop} (none : motive .none) (some : ∀ a, motive (.some a)) (o : Option α) : motive o := by
  cases o
  · exact none
  · exact some _
theorem listC {α : Type} {motive : List α → Prop} (nil : motive []) (cons : ∀ a l, motive (a :: l)) (l : List α) : motive l := by
  cases l
  · exact nil
  · exact cons _ _
theorem mu_mono {W W' : Wd} (h : W.le W') {l : Nat} {a : Addr} (e : W.mu[l]? = some a) : W'.mu[l]? = some a := by
  obtain ⟨⟨f, h⟩, _⟩ := h
  rw [h, List.getElem?_append_left]
  · exact e
  · exact (List.getElem?_eq_some_iff.mp e).1
mutual
theorem VRel.mono {W W' : Wd} (h : W.le W') : ∀ {v : PV} {x : Value}, VRel W v x → VRel W' v x
  | _, _, .none => .none
  | _, _, .bool b => .bool b
  | _, _, .int i t => .int i t
  | _, _, .str s t => .str s t
  | _, _, .ref l a e => .ref l a (mu_mono h e)
  | _, _, .tup vs xs a e r => .tup vs xs a (h.2 _ e) (VRels.mono h r)
  | _, _, .rng a b c t u v x e => .rng a b c t u v x (h.2 _ e)
  | _, _, .raw v => .raw v
  | _, _, .flist vs xs n a e r => .flist vs xs n a (h.2 _ e) (VRels.mono h r)
theorem VRels.mono {W W' : Wd} (h : W.le W') : ∀ {vs : List PV} {xs : List Value}, VRels W vs xs → VRels W' vs xs
  | _, _, .nil => .nil
  | _, _, .cons r rs => .cons (VRel.mono h r) (VRels.mono h rs)
end
theorem VRels.ind {W : Wd} {motive : (vs : List PV) → (xs : List Value) → VRels W vs xs → Prop} (nil : motive [] [] .nil) (cons : ∀ {v x vs xs} (r : VRel W v x) (rs : VRels W vs xs), motive vs xs rs → motive (v :: vs) (x :: xs) (.cons r rs)) : ∀ {vs xs} (h : VRels W vs xs), motive vs xs h
  | _, _, .nil => nil
  | _, _, .cons r rs => cons r rs (VRels.ind nil cons rs)
theorem VRels.length {W : Wd} {vs : List PV} {xs : List Value} (r : VRels W vs xs) : vs.length = xs.length := by
  induction r using VRels.ind with
  | nil => rfl
  | cons _ _ ih => rw [List.length_cons, List.length_cons, ih]
theorem VRels.get {W : Wd} {vs : List PV} {xs : List Value} {i : Nat} {v : PV} (r : VRels W vs xs) (e : vs[i]? = some v) : ∃ x, xs[i]? = some x ∧ VRel W v x := by
  induction r using VRels.ind generalizing i with
  | nil => cases e
  | cons r rs ih => induction i using natC with
    | zero => induction e using some1C; exact ⟨_, rfl, r⟩
    | succ i => exact ih (i := i) e
theorem VRels.snoc {W : Wd} {vs : List PV} {xs : List Value} {v : PV} {x : Value} (r : VRels W vs xs) (q : VRel W v x) : VRels W (vs ++ [v]) (xs ++ [x]) := by
  induction r using VRels.ind with
  | nil => exact .cons q .nil
  | cons r _ ih => exact .cons r ih
theorem VRels.set {W : Wd} {vs : List PV} {xs : List Value} {i : Nat} {v : PV} {x : Value} (r : VRels W vs xs) (q : VRel W v x) : VRels W (vs.set i v) (xs.set i x) := by
  induction r using VRels.ind generalizing i with
  | nil => exact .nil
  | cons r rs ih => induction i using natC with
    | zero => exact .cons q rs
    | succ i => exact .cons r (ih (i := i))
theorem VRels.app {W : Wd} {vs ws : List PV} {xs ys : List Value} (r : VRels W vs xs) (q : VRels W ws ys) : VRels W (vs ++ ws) (xs ++ ys) := by
  induction r using VRels.ind with
  | nil => exact q
  | cons r _ ih => exact .cons r ih
theorem VRels.drop {W : Wd} {vs : List PV} {xs : List Value} {i : Nat} (r : VRels W vs xs) : VRels W (vs.drop i) (xs.drop i) := by
  induction r using VRels.ind generalizing i with
  | nil => rw [List.drop_nil, List.drop_nil]; exact .nil
  | cons r rs ih => induction i using natC with
    | zero => exact .cons r rs
    | succ i => exact ih (i := i)
theorem VRels.take {W : Wd} {vs : List PV} {xs : List Value} {i : Nat} (r : VRels W vs xs) : VRels W (vs.take i) (xs.take i) := by
  induction r using VRels.ind generalizing i with
  | nil => rw [List.take_nil, List.take_nil]; exact .nil
  | cons r rs ih => induction i using natC with
    | zero => exact .nil
    | succ i => exact .cons r (ih (i := i))
structure Acc where
  C : Addr
  P : Params
  p : Program
  w : World
noncomputable def accD (P : Params) (n : Int) (t u : Tok) : Obj := { cls := .type "dict", data := .dict #[⟨PyData.keyHash P (Str.ofString "_initial_size"), .str (Str.ofString "_initial_size") t, .int n u⟩] 1 }
noncomputable def accO (C dx : Addr) (xs : List Value) (e : Nat) : Obj := { cls := .ref C, dict := some dx, data := .seq xs.toArray e }
inductive DRel (W : Wd) : List (List Nat × PV) → List (Str × Value) → Prop
  | nil : DRel W [] []
  | cons {k : List Nat} {v : PV} {x : Value} {es : List (List Nat × PV)} {ds : List (Str × Value)} : VRel W v x → DRel W es ds → DRel W ((k, v) :: es) ((mkS' k, x) :: ds)
noncomputable def DictO (p : Program) (w : World) (o : Obj) (kvs : List (Str × Value)) : Prop := ∃ es ep, o.ExactDict ∧ o.data = .dict es ep ∧ KeysOf (strKind p w) es ∧ Pairs (strKind p w) es.toList kvs ∧ (kvs.map (·.1)).Nodup
noncomputable def tabO (vs : List Value) : Obj := { cls := .none, data := .fields vs.toArray }
inductive ORel (A : Acc) (W : Wd) : PO → Addr → Obj → Prop
  | list {a : Addr} (xs : List PV) (vs : List Value) (n : Nat) : VRels W xs vs → ORel A W (.list xs) a (listO vs n)
  | dict {a : Addr} (es : List (List Nat × PV)) (ds : List (Str × Value)) (o : Obj) : DRel W es ds → DictO A.p A.w o ds → ORel A W (.dict es) a o
  | acc {a : Addr} (n : Int) (xs : List PV) (vs : List Value) (e : Nat) (dx : Addr) (t u : Tok) : VRels W xs vs → (dx, accD A.P n t u) ∈ W.T → ORel A W (.acc n xs) a (accO A.C dx vs e)
  | tab (P : Nat) (vs : List Value) : TriplesOk vs → ORel A W (.tab P) P (tabO vs)
  | gone {a : Addr} {o : Obj} : o.isFreed = false → ORel A W .gone a o
theorem ORel.listC {A : Acc} {W : Wd} {xs : List PV} {a : Addr} {motive : (o : Obj) → ORel A W (.list xs) a o → Prop} (list : ∀ vs n (r : VRels W xs vs), motive (listO vs n) (.list xs vs n r)) {o : Obj} (h : ORel A W (.list xs) a o) : motive o h := by cases h; apply list <;> assumption
theorem ORel.dictC {A : Acc} {W : Wd} {es : List (List Nat × PV)} {a : Addr} {o : Obj} {motive : ORel A W (.dict es) a o → Prop} (dict : ∀ ds (r : DRel W es ds) (d : DictO A.p A.w o ds), motive (.dict es ds o r d)) (h : ORel A W (.dict es) a o) : motive h := by cases h; apply dict <;> assumption
theorem ORel.accC {A : Acc} {W : Wd} {n : Int} {xs : List PV} {a : Addr} {motive : (o : Obj) → ORel A W (.acc n xs) a o → Prop} (acc : ∀ vs e dx t u (r : VRels W xs vs) (m : (dx, accD A.P n t u) ∈ W.T), motive (accO A.C dx vs e) (.acc n xs vs e dx t u r m)) {o : Obj} (h : ORel A W (.acc n xs) a o) : motive o h := by cases h; apply acc <;> assumption
theorem DRel.mono {W W' : Wd} (h : W.le W') {es : List (List Nat × PV)} {ds : List (Str × Value)} (r : DRel W es ds) : DRel W' es ds := by
  induction r with
  | nil => exact .nil
  | cons r _ ih => exact .cons (r.mono h) ih
theorem ORel.mono {A : Acc} {W W' : Wd} (h : W.le W') {po : PO} {a : Addr} {o : Obj} (r : ORel A W po a o) : ORel A W' po a o := by
  cases r with
  | list xs vs n r => exact .list xs vs n (r.mono h)
  | dict es ds o r d => exact .dict es ds o (r.mono h) d
  | acc n xs vs e dx t u r m => exact .acc n xs vs e dx t u (r.mono h) (h.2 _ m)
  | tab _ vs h => exact .tab _ vs h
  | gone h => exact .gone h
theorem ORel.live {A : Acc} {W : Wd} {po : PO} {a : Addr} {o : Obj} (r : ORel A W po a o) : o.isFreed = false := by
  cases r with
  | dict es ds o r d => obtain ⟨_, _, _, hd, _⟩ := d; exact Obj.isFreed_of_dict hd
  | gone h => exact h
  | _ => rfl
inductive MRel (A : Acc) (W : Wd) : List PO → Led → Prop
  | nil : MRel A W [] []
  | cons {po : PO} {p : Addr × Obj} {ps : List PO} {l : Led} : ORel A W po p.1 p.2 → MRel A W ps l → MRel A W (po :: ps) (p :: l)
theorem MRel.mono {A : Acc} {W W' : Wd} (h : W.le W') {ps : List PO} {l : Led} (r : MRel A W ps l) : MRel A W' ps l := by
  induction r with
  | nil => exact .nil
  | cons r _ ih => exact .cons (r.mono h) ih
theorem MRel.length {A : Acc} {W : Wd} {ps : List PO} {l : Led} (r : MRel A W ps l) : ps.length = l.length := by
  induction r with
  | nil => rfl
  | cons _ _ ih => rw [List.length_cons, List.length_cons, ih]
theorem MRel.split {A : Acc} {W : Wd} {ps : List PO} {l : Led} {i : Nat} {po : PO} (r : MRel A W ps l) (e : ps[i]? = some po) :
    ∃ l₁ a o l₂, l = l₁ ++ (a, o) :: l₂ ∧ l₁.length = i ∧ ORel A W po a o ∧ ∀ po' o', ORel A W po' a o' → MRel A W (ps.set i po') (l₁ ++ (a, o') :: l₂) := by
  induction r generalizing i with
  | nil => cases e
  | @cons q p ps l r rs ih =>
    induction i using natC with
    | zero => induction e using some1C; exact ⟨[], p.1, p.2, l, rfl, rfl, r, fun po' o' r' => .cons r' rs⟩
    | succ i =>
      obtain ⟨l₁, a, o, l₂, h, hl, ro, k⟩ := ih (i := i) e
      exact ⟨p :: l₁, a, o, l₂, congrArg (p :: ·) h, congrArg (· + 1) hl, ro, fun po' o' r' => .cons r (k po' o' r')⟩
theorem MRel.gone {A : Acc} {W : Wd} {ps : List PO} {l : Led} {i : Nat} (r : MRel A W ps l) : MRel A W (ps.set i .gone) l := by
  induction r generalizing i with
  | nil => exact .nil
  | cons r rs ih =>
    induction i using natC with
    | zero => exact .cons (.gone r.live) rs
    | succ i => exact .cons r (ih (i := i))
theorem MRel.snoc {A : Acc} {W : Wd} {ps : List PO} {l : Led} {po : PO} {p : Addr × Obj} (r : MRel A W ps l) (q : ORel A W po p.1 p.2) : MRel A W (ps ++ [po]) (l ++ [p]) := by
  induction r with
  | nil => exact .cons q .nil
  | cons r _ ih => exact .cons r ih
structure PS where
  vars : List (Option PV)
  mem : List PO
structure Cx where
  A : Around
  A₀ : Around
  base : Heap
  outer : List Env
  h₀ : Heap
  L : Addr
  fenv : Env
  nm : List (Str × Bool)
  ac : Acc
  os : OsState
  lv : Nat
inductive SRel (W : Wd) (cl : List (Str × Addr)) (m : Str → Option Value) (cs : Led) : List (Str × Bool) → List (Option PV) → Prop
  | nil : SRel W cl m cs [] []
  | loc {x : Str} {v : Option PV} {nm : List (Str × Bool)} {vs : List (Option PV)} : (∀ pv, v = some pv → ∃ y, m x = some y ∧ VRel W pv y) → SRel W cl m cs nm vs → SRel W cl m cs ((x, false) :: nm) (v :: vs)
  | cel {x : Str} {v : Option PV} {nm : List (Str × Bool)} {vs : List (Option PV)} {c : Addr} {o : Obj} {ov : Option Value} : cl.lookup x = some c → (c, o) ∈ cs → o.data = .cell ov → (∀ pv, v = some pv → ∃ y, ov = some y ∧ VRel W pv y) →
      SRel W cl m cs nm vs → SRel W cl m cs ((x, true) :: nm) (v :: vs)
theorem SRel.mono {W W' : Wd} {cl : List (Str × Addr)} {m : Str → Option Value} {cs : Led} (h : W.le W') {nm : List (Str × Bool)} {vs : List (Option PV)} (r : SRel W cl m cs nm vs) : SRel W' cl m cs nm vs := by
  induction r with
  | nil => exact .nil
  | loc k _ ih => exact .loc (fun pv e => let ⟨y, a, b⟩ := k pv e; ⟨y, a, b.mono h⟩) ih
  | cel a b c k _ ih => exact .cel a b c (fun pv e => let ⟨y, a, b⟩ := k pv e; ⟨y, a, b.mono h⟩) ih
structure Rel (C : Cx) (W : Wd) (σ : PS) (X : Led) (s : Shared) : Prop where
  ex : ∃ m cs ms, Fr C.h₀ C.L s.heap m ∧ News C.h₀ C.L s.heap (cs ++ (ms ++ (W.T ++ X))) ∧ ((cs ++ (ms ++ (W.T ++ X))).map (·.1)).Nodup ∧ SRel W C.fenv.cells m cs C.nm σ.vars ∧ MRel C.ac W σ.mem ms ∧ ms.map (·.1) = W.mu
  bare : AllBare s.gens
  os : s.os = C.os
  tk : 0 < s.toks
structure CxOk (C : Cx) : Prop where
  below : Below C.A₀ C.base C.outer C.h₀
  frames : C.A.frames = some (C.fenv :: C.outer)
  frame : C.fenv.frame = some C.L
  kind : C.fenv.scope.kind = .function
  handled : C.A.handled = none
  nm : (C.nm.map (·.1)).Nodup
  globals : C.fenv.globals = mainGlobals
  builtins : C.fenv.builtins = builtinsNs
  locals : C.fenv.locals = C.L
theorem nodup_mid {A B : List Addr} {a : Addr} (h : a ∉ A ++ B) (nd : (A ++ B).Nodup) : (A ++ a :: B).Nodup := by
  rw [List.perm_middle.nodup_iff, List.nodup_cons]
  exact ⟨h, nd⟩
section
variable {C : Cx} {W W' : Wd} {σ σ' : PS} {X X' : Led} {s : Shared}
theorem Rel.toks (R : Rel C W σ X s) (t : Nat) (h : 0 < t := by exact Nat.succ_pos _) : Rel C W σ X { s with toks := t } := ⟨R.ex, R.bare, R.os, h⟩
theorem Rel.exE {P : Prop} (R : Rel C W σ X s) (h : ∀ m cs ms, Fr C.h₀ C.L s.heap m → News C.h₀ C.L s.heap (cs ++ (ms ++ (W.T ++ X))) → ((cs ++ (ms ++ (W.T ++ X))).map (·.1)).Nodup → SRel W C.fenv.cells m cs C.nm σ.vars → MRel C.ac W σ.mem ms → ms.map (·.1) = W.mu → P) : P := by
  obtain ⟨m, cs, ms, a, b, c, d, e, f⟩ := R.ex
  exact h m cs ms a b c d e f
theorem Rel.frN (R : Rel C W σ X s) : ∃ m led, Fr C.h₀ C.L s.heap m ∧ News C.h₀ C.L s.heap led ∧ (∀ p ∈ W.T, p ∈ led) ∧ ∀ p ∈ X, p ∈ led := by
  obtain ⟨m, cs, ms, F, N, _⟩ := R.ex
  exact ⟨m, _, F, N, fun p hp => by simp [hp], fun p hp => by simp [hp]⟩
theorem Rel.getT (R : Rel C W σ X s) {a : Addr} {o : Obj} (h : (a, o) ∈ W.T) : s.heap.get? a = some o := by
  obtain ⟨m, led, F, N, hT, hX⟩ := R.frN
  exact N.get (hT _ h)
theorem Rel.getX (R : Rel C W σ X s) {a : Addr} {o : Obj} (h : (a, o) ∈ X) : s.heap.get? a = some o := by
  obtain ⟨m, led, F, N, hT, hX⟩ := R.frN
  exact N.get (hX _ h)
theorem Rel.keep (R : Rel C W σ X s) {a : Addr} {o : Obj} (h : C.h₀.get? a = some o) : s.heap.get? a = some o := by
  obtain ⟨m, led, F, N, hT, hX⟩ := R.frN
  exact F.keep _ _ h
theorem Rel.getM (R : Rel C W σ X s) {l : Nat} {a : Addr} {po : PO} (h : σ.mem[l]? = some po) (ha : W.mu[l]? = some a) : ∃ o, s.heap.get? a = some o ∧ ORel C.ac W po a o := by
  obtain ⟨m, cs, ms, F, N, nd, sr, mr, mu⟩ := R.ex
  obtain ⟨l₁, a', o, l₂, rfl, hl, ro, _⟩ := mr.split h
  have : a' = a := by
    rw [← mu, List.map_append, List.getElem?_append_right (by simp [hl]), List.length_map, hl, Nat.sub_self] at ha
    simpa using ha
  subst this
  exact ⟨o, N.get (by simp), ro⟩
theorem Rel.getME {P : Prop} (R : Rel C W σ X s) {l : Nat} {a : Addr} {po : PO} (h : σ.mem[l]? = some po) (ha : W.mu[l]? = some a) (k : ∀ o, s.heap.get? a = some o → ORel C.ac W po a o → P) : P := by
  obtain ⟨o, x, y⟩ := R.getM h ha
  exact k o x y
theorem Rel.junk (R : Rel C W σ X s) (o : Obj) : Rel C W σ X { s with heap := s.heap.push o } := by
  obtain ⟨m, cs, ms, F, N, r⟩ := R.ex
  exact ⟨⟨m, cs, ms, F.push o, fun p hp => ⟨Heap.get?_push_of_some o (N p hp).1, (N p hp).2⟩, r⟩, R.bare, R.os, R.tk⟩
theorem Rel.grown (R : Rel C W σ X s) {h' : Heap} (hk : ∀ b o, s.heap.get? b = some o → h'.get? b = some o) : Rel C W σ X { s with heap := h' } := by
  obtain ⟨m, cs, ms, F, N, r⟩ := R.ex
  obtain ⟨oL, es, ep, hL, a, b, c⟩ := F.ns
  exact ⟨⟨m, cs, ms, ⟨⟨oL, es, ep, hk _ _ hL, a, b, c⟩, fun b o e => hk _ _ (F.keep b o e), F.above⟩, fun p hp => ⟨hk _ _ (N p hp).1, (N p hp).2⟩, r⟩, R.bare, R.os, R.tk⟩
theorem new_ne {h₀ h : Heap} {L : Addr} {led : Led} (N : News h₀ L h led) : h.objs.size ∉ led.map (·.1) := fun hm => by
  obtain ⟨p, hp, e⟩ := List.mem_map.mp hm
  exact Nat.lt_irrefl _ (e ▸ Heap.lt_size (N p hp).1)
theorem Rel.alloc (R : Rel C W σ X s) {po : PO} {o : Obj} (ho : ORel C.ac W po s.heap.objs.size o) : Rel C ⟨W.mu ++ [s.heap.objs.size], W.T⟩ { σ with mem := σ.mem ++ [po] } X { s with heap := s.heap.push o } := by
  refine Rel.exE R fun m cs ms F N nd sr mr mu => ?_
  have le : W.le ⟨W.mu ++ [s.heap.objs.size], W.T⟩ := ⟨⟨_, rfl⟩, fun _ h => h⟩
  have N' := N.push F o ho.live
  refine ⟨⟨m, cs, ms ++ [(s.heap.objs.size, o)], F.push o, fun p hp => N' p ?_, ?_, sr.mono le, (mr.mono le).snoc (ho.mono le), by simp [mu]⟩, R.bare, R.os, R.tk⟩
  · simp only [List.mem_append, List.mem_cons, List.not_mem_nil, or_false] at hp ⊢
    rcases hp with h | (h | h) | h | h
    · exact .inr (.inl h)
    · exact .inr (.inr (.inl h))
    · exact .inl h
    · exact .inr (.inr (.inr (.inl h)))
    · exact .inr (.inr (.inr (.inr h)))
  · have := nodup_mid (A := (cs ++ ms).map (·.1)) (B := (W.T ++ X).map (·.1)) (a := s.heap.objs.size) (by have := new_ne N; simpa using this) (by simpa using nd)
    simpa using this
theorem Rel.allocT (R : Rel C W σ X s) {o : Obj} (hf : o.isFreed = false) : Rel C ⟨W.mu, (s.heap.objs.size, o) :: W.T⟩ σ X { s with heap := s.heap.push o } := by
  refine Rel.exE R fun m cs ms F N nd sr mr mu => ?_
  have le : W.le ⟨W.mu, (s.heap.objs.size, o) :: W.T⟩ := ⟨⟨[], by simp⟩, fun _ h => .tail _ h⟩
  have N' := N.push F o hf
  refine ⟨⟨m, cs, ms, F.push o, fun p hp => N' p ?_, ?_, sr.mono le, mr.mono le, mu⟩, R.bare, R.os, R.tk⟩
  · simp only [List.mem_append, List.mem_cons] at hp ⊢
    rcases hp with h | h | (h | h) | h
    · exact .inr (.inl h)
    · exact .inr (.inr (.inl h))
    · exact .inl h
    · exact .inr (.inr (.inr (.inl h)))
    · exact .inr (.inr (.inr (.inr h)))
  · have := nodup_mid (A := (cs ++ ms).map (·.1)) (B := (W.T ++ X).map (·.1)) (a := s.heap.objs.size) (by have := new_ne N; simpa using this) (by simpa using nd)
    simpa using this
theorem Rel.allocX (R : Rel C W σ X s) {o : Obj} (hf : o.isFreed = false) : Rel C W σ ((s.heap.objs.size, o) :: X) { s with heap := s.heap.push o } := by
  refine Rel.exE R fun m cs ms F N nd sr mr mu => ?_
  have N' := N.push F o hf
  refine ⟨⟨m, cs, ms, F.push o, fun p hp => N' p ?_, ?_, sr, mr, mu⟩, R.bare, R.os, R.tk⟩
  · simp only [List.mem_append, List.mem_cons] at hp ⊢
    rcases hp with h | h | h | h | h
    · exact .inr (.inl h)
    · exact .inr (.inr (.inl h))
    · exact .inr (.inr (.inr (.inl h)))
    · exact .inl h
    · exact .inr (.inr (.inr (.inr h)))
  · have := nodup_mid (A := (cs ++ (ms ++ W.T)).map (·.1)) (B := X.map (·.1)) (a := s.heap.objs.size) (by have := new_ne N; simpa using this) (by simpa using nd)
    simpa using this
theorem Rel.dropX {p : Addr × Obj} (R : Rel C W σ (p :: X) s) : Rel C W σ X s := by
  refine Rel.exE R fun m cs ms F N nd sr mr mu => ?_
  refine ⟨⟨m, cs, ms, F, fun q hq => N q ?_, ?_, sr, mr, mu⟩, R.bare, R.os, R.tk⟩
  · simp only [List.mem_append, List.mem_cons] at hq ⊢
    rcases hq with h | h | h | h
    · exact .inl h
    · exact .inr (.inl h)
    · exact .inr (.inr (.inl h))
    · exact .inr (.inr (.inr (.inr h)))
  · have e : (cs ++ (ms ++ (W.T ++ p :: X))).map (·.1) = (cs ++ (ms ++ W.T)).map (·.1) ++ p.1 :: X.map (·.1) := by simp
    rw [e, List.perm_middle.nodup_iff, List.nodup_cons] at nd
    have := nd.2
    simpa using this
theorem fr_upd {h₀ h h' : Heap} {L a : Addr} {m : Str → Option Value} {led : Led} {o : Obj} (F : Fr h₀ L h m) (N : News h₀ L h led) (hm : (a, o) ∈ led) (hs : Heap.SameBut a h h') : Fr h₀ L h' m :=
  ⟨F.ns.sameBut hs (Ne.symm (N _ hm).2.1), fun b ob e => (hs.2 b (fun q => by
    have := (N _ hm).2.2
    rw [q, show h₀.get? a = none from this] at e; exact noneE e)).trans (F.keep b ob e), F.above⟩
theorem led_upd {h₀ h h' : Heap} {L a : Addr} {A B : Led} {o o' : Obj} (N : News h₀ L h (A ++ (a, o) :: B)) (nd : ((A ++ (a, o) :: B).map (·.1)).Nodup) (hs : Heap.SameBut a h h') (ho : h'.get? a = some o') : News h₀ L h' (A ++ (a, o') :: B) := by
  rw [List.map_append, List.map_cons, List.perm_middle.nodup_iff, List.nodup_cons, List.mem_append] at nd
  exact N.setAt (fun p hp q => nd.1 (.inl (List.mem_map.mpr ⟨p, hp, q⟩))) (fun p hp q => nd.1 (.inr (List.mem_map.mpr ⟨p, hp, q⟩))) hs ho
theorem nd_upd {A B : Led} {a : Addr} {o o' : Obj} (nd : ((A ++ (a, o) :: B).map (·.1)).Nodup) : ((A ++ (a, o') :: B).map (·.1)).Nodup := by simpa using nd
theorem Rel.setM (R : Rel C W σ X s) {l : Nat} {a : Addr} {po po' : PO} (h : σ.mem[l]? = some po) (ha : W.mu[l]? = some a) {h' : Heap} {o' : Obj} (hs : Heap.SameBut a s.heap h') (ho : h'.get? a = some o') (ro : ORel C.ac W po' a o') :
    Rel C W { σ with mem := σ.mem.set l po' } X { s with heap := h' } := by
  refine Rel.exE R fun m cs ms F N nd sr mr mu => ?_
  obtain ⟨l₁, a', o, l₂, rfl, hl, _, k⟩ := mr.split h
  have : a' = a := by
    rw [← mu, List.map_append, List.getElem?_append_right (by simp [hl]), List.length_map, hl, Nat.sub_self] at ha
    simpa using ha
  subst this
  have e : ∀ o, cs ++ (l₁ ++ (a', o) :: l₂ ++ (W.T ++ X)) = (cs ++ l₁) ++ (a', o) :: (l₂ ++ (W.T ++ X)) := fun o => by simp
  rw [e] at N nd
  refine ⟨⟨m, cs, l₁ ++ (a', o') :: l₂, fr_upd (o := o) F N (List.mem_append_right _ (.head _)) hs, ?_, ?_, sr, k _ _ ro, by rw [← mu]; simp⟩, R.bare, R.os, R.tk⟩
  · rw [e]; exact led_upd N nd hs ho
  · rw [e]; exact nd_upd nd
theorem Rel.setX {a : Addr} {o o' : Obj} (R : Rel C W σ ((a, o) :: X) s) {h' : Heap} (hs : Heap.SameBut a s.heap h') (ho : h'.get? a = some o') : Rel C W σ ((a, o') :: X) { s with heap := h' } := by
  refine Rel.exE R fun m cs ms F N nd sr mr mu => ?_
  have e : ∀ o, cs ++ (ms ++ (W.T ++ (a, o) :: X)) = (cs ++ (ms ++ W.T)) ++ (a, o) :: X := fun o => by simp
  rw [e] at N nd
  refine ⟨⟨m, cs, ms, fr_upd (o := o) F N (List.mem_append_right _ (.head _)) hs, ?_, ?_, sr, mr, mu⟩, R.bare, R.os, R.tk⟩
  · rw [e]; exact led_upd N nd hs ho
  · rw [e]; exact nd_upd nd
end
end Mine
end
section
open PySem PySem.W PyProof.Rows PySem.Calls
set_option genInjectivity false
set_option genSizeOfSpec false
namespace Mine
structure FnD where
  f : Addr
  name : Str
  qual : Str
  params : Arguments
  body : List Stmt
  scope : Scope
  dV : Value
  kV : Value
  doc : Value
  pm : Value
  cdv : Value
  ct : Value
  an : Option Addr
  pn : List Str
  rn : List Str
  cl : List (Str × Addr) := []
noncomputable def FnD.fd (d : FnD) : FuncData := fnX d.name d.qual d.params d.body d.scope d.cl d.dV d.kV d.doc d.pm d.an d.cdv d.ct
structure Gd where
  p : Program
  w : World
  mg : Str → Option Value
  mb : Str → Option Value
  K : Frag
  fns : List FnD
  acc : Addr
structure GdOk (G : Gd) (h : Heap) : Prop where
  frag : G.K.In h
  g : h.Ns mainGlobals G.mg
  b : h.Ns builtinsNs G.mb
  nolimit : h.NoLimit
  bi : ∀ x : Str, x ≠ "__name__" → G.mb x = bootBuiltins x
  fn : ∀ d ∈ G.fns, ∃ fo, h.get? d.f = some fo ∧ fo.data = .func d.fd ∧ h.CodeRec d.cdv d.qual
theorem GdOk.keeps {G : Gd} {h h' : Heap} (x : GdOk G h) (k : ∀ b o, h.get? b = some o → h'.get? b = some o) : GdOk G h' :=
  ⟨x.frag.keeps k, x.g.keeps k, x.b.keeps k, x.nolimit.keeps k, x.bi, fun d hd => let ⟨fo, a, b, c⟩ := x.fn d hd; ⟨fo, k _ _ a, b, c.keeps k⟩⟩
structure COk (G : Gd) (C : Cx) : Prop extends CxOk C where
  gd : GdOk G C.h₀
  cells : ∀ x b, (x, b) ∈ C.nm → C.fenv.kindOf x = some (if b then .cell else .local)
structure Vw where
  env : Env
  ok : Wd → Led → Prop
  mono : ∀ {W W' X}, Wd.le W W' → ok W X → ok W' X
noncomputable def fv (C : Cx) : Vw := ⟨C.fenv, fun _ _ => True, fun _ h => h⟩
noncomputable abbrev Po (C : Cx) (W : Wd) (σ : PS) (X : Led) (r : PV) (Q : Value → Shared → Prop) : Prop := ∀ W' v s', W.le W' → Rel C W' σ X s' → VRel W' r v → Q v s'
noncomputable def Ev (G : Gd) (C : Cx) (V : Vw) (e : Expr) (f : PS → Option (PV × PS)) : Prop :=
  ∀ W σ X s r σ' (Q : Value → Shared → Prop) (E : Value → Shared → Prop), f σ = some (r, σ') → Rel C W σ X s → V.ok W X → Po C W σ' X r Q → wpAny (model G.p G.w) C.A (eval e V.env) Q E s
noncomputable def Ts (G : Gd) (C : Cx) (V : Vw) (e : Expr) (f : PS → Option (Bool × PS)) : Prop :=
  ∀ W σ X s r σ' (Q : Bool → Shared → Prop) (E : Value → Shared → Prop), f σ = some (r, σ') → Rel C W σ X s → V.ok W X → (∀ W' s', W.le W' → Rel C W' σ' X s' → Q r s') → wpAny (model G.p G.w) C.A (isTrue e V.env (eval e V.env)) Q E s
inductive Fl where
  | next
  | brk
  | cont
  | ret (v : PV)
inductive FlR (W : Wd) : Fl → Flow → Prop
  | next : FlR W .next .next
  | brk : FlR W .brk .brk
  | cont : FlR W .cont .cont
  | ret (v : PV) (x : Value) : VRel W v x → FlR W (.ret v) (.ret x)
noncomputable def Xs (G : Gd) (C : Cx) (b : List Stmt) (f : PS → Option (Fl × PS)) : Prop :=
  ∀ W σ X s r σ' (Q : Flow → Shared → Prop) (E : Value → Shared → Prop), f σ = some (r, σ') → Rel C W σ X s → (∀ W' v s', W.le W' → Rel C W' σ' X s' → FlR W' r v → Q v s') → wpAny (model G.p G.w) C.A (execs b C.fenv) Q E s
noncomputable def X1 (G : Gd) (C : Cx) (b : Stmt) (f : PS → Option (Fl × PS)) : Prop :=
  ∀ W σ X s r σ' (Q : Flow → Shared → Prop) (E : Value → Shared → Prop), f σ = some (r, σ') → Rel C W σ X s → (∀ W' v s', W.le W' → Rel C W' σ' X s' → FlR W' r v → Q v s') → wpAny (model G.p G.w) C.A (exec b C.fenv) Q E s
noncomputable def Op2 (G : Gd) (C : Cx) (m : Value → Value → Sem Value) (f : PV → PV → PS → Option (PV × PS)) : Prop :=
  ∀ W σ X s a b x y r σ' (Q : Value → Shared → Prop) (E : Value → Shared → Prop), f a b σ = some (r, σ') → Rel C W σ X s → VRel W a x → VRel W b y → Po C W σ' X r Q → wpAny (model G.p G.w) C.A (m x y) Q E s
noncomputable def Op1 (G : Gd) (C : Cx) (m : Value → Sem Value) (f : PV → PS → Option (PV × PS)) : Prop :=
  ∀ W σ X s a x r σ' (Q : Value → Shared → Prop) (E : Value → Shared → Prop), f a σ = some (r, σ') → Rel C W σ X s → VRel W a x → Po C W σ' X r Q → wpAny (model G.p G.w) C.A (m x) Q E s
noncomputable def fb {α β : Type} (m : Option (α × PS)) (k : α → PS → Option β) : Option β :=
  match m with
  | some (a, σ) => k a σ
  | none => none
noncomputable abbrev fbf {α β : Type} (f : PS → Option (α × PS)) (σ : PS) (k : α → PS → Option β) : Option β := fb (f σ) k
theorem fb_some {α β : Type} {m : Option (α × PS)} {k : α → PS → Option β} {r : β} (h : fb m k = some r) : ∃ a σ, m = some (a, σ) ∧ k a σ = some r := by
  unfold fb at h
  split at h
  · exact ⟨_, _, rfl, h⟩
  · exact noneE h
theorem fbE {α β : Type} {P : Prop} {m : Option (α × PS)} {k : α → PS → Option β} {r : β} (h : fb m k = some r) (f : ∀ a σ, m = some (a, σ) → k a σ = some r → P) : P := by
  obtain ⟨a, σ, x, y⟩ := fb_some h
  exact f a σ x y
noncomputable def fvar (i : Nat) (σ : PS) : Option (PV × PS) :=
  match σ.vars[i]? with
  | some (some v) => some (v, σ)
  | _ => none
noncomputable def fset (i : Nat) (v : PV) (σ : PS) : PS := ⟨σ.vars.set i (some v), σ.mem⟩
section
variable {G : Gd} {C : Cx} {W W' : Wd} {σ σ' : PS} {X X' : Led} {s : Shared} {Q : Value → Shared → Prop} {E : Value → Shared → Prop} {V : Vw}
theorem SRel.getL {cl : List (Str × Addr)} {m : Str → Option Value} {cs : Led} {nm : List (Str × Bool)} {vs : List (Option PV)} {i : Nat} {x : Str} {v : PV} (r : SRel W cl m cs nm vs) (e : nm[i]? = some (x, false)) (e' : vs[i]? = some (some v)) : ∃ y, m x = some y ∧ VRel W v y := by
  induction r generalizing i with
  | nil => cases e
  | loc k _ ih => induction i using natC with
    | zero => cases e; cases e'; exact k _ rfl
    | succ i => exact ih (i := i) e e'
  | cel _ _ _ _ _ ih => induction i using natC with
    | zero => cases e
    | succ i => exact ih (i := i) e e'
theorem SRel.getC {cl : List (Str × Addr)} {m : Str → Option Value} {cs : Led} {nm : List (Str × Bool)} {vs : List (Option PV)} {i : Nat} {x : Str} {v : PV} (r : SRel W cl m cs nm vs) (e : nm[i]? = some (x, true)) (e' : vs[i]? = some (some v)) :
    ∃ c o y, cl.lookup x = some c ∧ (c, o) ∈ cs ∧ o.data = .cell (some y) ∧ VRel W v y := by
  induction r generalizing i with
  | nil => cases e
  | loc _ _ ih => induction i using natC with
    | zero => cases e
    | succ i => exact ih (i := i) e e'
  | cel a b d k _ ih => induction i using natC with
    | zero => cases e; cases e'; obtain ⟨y, rfl, r⟩ := k _ rfl; exact ⟨_, _, y, a, b, d, r⟩
    | succ i => exact ih (i := i) e e'
theorem SRel.cellOf {cl : List (Str × Addr)} {m : Str → Option Value} {cs : Led} {nm : List (Str × Bool)} {vs : List (Option PV)} {i : Nat} {x : Str} (r : SRel W cl m cs nm vs) (e : nm[i]? = some (x, true)) :
    ∃ c o ov, cl.lookup x = some c ∧ (c, o) ∈ cs ∧ o.data = .cell ov := by
  induction r generalizing i with
  | nil => cases e
  | loc _ _ ih => induction i using natC with
    | zero => cases e
    | succ i => exact ih (i := i) e
  | cel a b d _ _ ih => induction i using natC with
    | zero => cases e; exact ⟨_, _, _, a, b, d⟩
    | succ i => exact ih (i := i) e
theorem SRel.skipM {cl : List (Str × Addr)} {m : Str → Option Value} {cs : Led} {x : Str} {v : Value} {nm : List (Str × Bool)} {vs : List (Option PV)} (r : SRel W cl m cs nm vs) (h : x ∉ nm.map (·.1)) : SRel W cl (fun y => if y = x then some v else m y) cs nm vs := by
  induction r with
  | nil => exact .nil
  | @loc z w nm vs k r ih => exact .loc (fun pv e => by rw [if_neg fun q : z = x => h (q ▸ .head _)]; exact k pv e) (ih fun q => h (.tail _ q))
  | cel a b d k _ ih => exact .cel a b d k (ih fun q => h (.tail _ q))
theorem SRel.setL {cl : List (Str × Addr)} {m : Str → Option Value} {cs : Led} {x : Str} {v : Value} {pv : PV} {nm : List (Str × Bool)} {vs : List (Option PV)} {i : Nat} (r : SRel W cl m cs nm vs) (e : nm[i]? = some (x, false)) (nd : (nm.map (·.1)).Nodup) (rv : VRel W pv v) :
    SRel W cl (fun y => if y = x then some v else m y) cs nm (vs.set i (some pv)) := by
  induction r generalizing i with
  | nil => cases e
  | @loc z w nm vs k r ih =>
    have nd' := List.nodup_cons.mp nd
    induction i using natC with
    | zero =>
      obtain rfl : z = x := congrArg Prod.fst (Option.some.inj e)
      exact .loc (fun pv' e' => by induction e' using some1C; exact ⟨v, if_pos rfl, rv⟩) (r.skipM nd'.1)
    | succ i => exact .loc (fun pv' e' => by rw [if_neg fun q : z = x => nd'.1 (q ▸ List.mem_map.mpr ⟨(x, false), List.mem_of_getElem? (i := i) e, rfl⟩)]; exact k _ e') (ih (i := i) e nd'.2)
  | cel a b d k _ ih =>
    induction i using natC with
    | zero => cases e
    | succ i => exact .cel a b d k (ih (i := i) e (List.nodup_cons.mp nd).2)
theorem mem_but {A B : Led} {p q r : Addr × Obj} (h : p ∈ A ++ q :: B) (n : p.1 ≠ q.1) : p ∈ A ++ r :: B := by
  rcases List.mem_append.mp h with h | h
  · exact List.mem_append_left _ h
  · rcases List.mem_cons.mp h with rfl | h
    · exact absurd rfl n
    · exact List.mem_append_right _ (.tail _ h)
theorem SRel.skipC {cl : List (Str × Addr)} {m : Str → Option Value} {A B : Led} {c : Addr} {o o' : Obj} {nm : List (Str × Bool)} {vs : List (Option PV)} (r : SRel W cl m (A ++ (c, o) :: B) nm vs) (h : ∀ x, (x, true) ∈ nm → cl.lookup x ≠ some c) : SRel W cl m (A ++ (c, o') :: B) nm vs := by
  induction r with
  | nil => exact .nil
  | loc k _ ih => exact .loc k (ih fun x hx => h x (.tail _ hx))
  | cel a b d k _ ih => exact .cel a (mem_but b fun q => h _ (.head _) (by rw [a]; exact congrArg some q)) d k (ih fun x hx => h x (.tail _ hx))
theorem SRel.setC {cl : List (Str × Addr)} {m : Str → Option Value} {A B : Led} {c : Addr} {o o' : Obj} {x : Str} {v : Value} {pv : PV} (hx : cl.lookup x = some c) (hd : o'.data = .cell (some v)) (rv : VRel W pv v)
    (inj : ∀ y, cl.lookup y = some c → y = x) {nm : List (Str × Bool)} {vs : List (Option PV)} {i : Nat} (r : SRel W cl m (A ++ (c, o) :: B) nm vs) (e : nm[i]? = some (x, true)) (nd : (nm.map (·.1)).Nodup) : SRel W cl m (A ++ (c, o') :: B) nm (vs.set i (some pv)) := by
  induction r generalizing i with
  | nil => cases e
  | loc k _ ih =>
    induction i using natC with
    | zero => cases e
    | succ i => exact .loc k (ih (i := i) e (List.nodup_cons.mp nd).2)
  | @cel z w nm vs c' oo ov a b d k r ih =>
    have nd' := List.nodup_cons.mp nd
    induction i using natC with
    | zero =>
      obtain rfl : z = x := congrArg Prod.fst (Option.some.inj e)
      exact .cel hx (List.mem_append_right _ (.head _)) hd (fun pv' e' => by induction e' using some1C; exact ⟨v, rfl, rv⟩) (r.skipC fun y hy q => nd'.1 (inj y q ▸ List.mem_map.mpr ⟨_, hy, rfl⟩))
    | succ i => exact .cel a (mem_but b fun q => nd'.1 (inj z (by rw [a]; exact congrArg some q) ▸ List.mem_map.mpr ⟨(x, true), List.mem_of_getElem? (i := i) e, rfl⟩)) d k (ih (i := i) e nd'.2)
end
end Mine
end
section
open PySem PySem.W PyProof.Rows PySem.Calls
set_option genInjectivity false
set_option genSizeOfSpec false
namespace Mine
section
variable {G : Gd} {C : Cx} {W W' : Wd} {σ σ' : PS} {X X' : Led} {s : Shared} {E : Value → Shared → Prop} {V : Vw}
theorem ld_var (K : COk G C) {i : Nat} {x : Str} {b : Bool} {v : PV} {Q : Value → Shared → Prop} (hn : C.nm[i]? = some (x, b)) (R : Rel C W σ X s) (e : σ.vars[i]? = some (some v)) (h : ∀ y, VRel W v y → Q y s) : wpAny (model G.p G.w) C.A (loadName C.fenv x) Q E s := by
  refine Rel.exE R fun m cs ms F N nd sr mr mu => ?_
  have hk := K.cells x b (List.mem_of_getElem? hn)
  induction b using boolC with
  | false =>
    obtain ⟨y, hy, ry⟩ := sr.getL hn e
    exact wpAny_loadName_local K.kind hk (K.locals ▸ F.ns) hy (h y ry)
  | true =>
    obtain ⟨c, o, y, hc, hm, hd, ry⟩ := sr.getC hn e
    exact wpAny_loadName_cell K.kind hk hc ⟨o, N.get (List.mem_append_left _ hm), hd⟩ (h y ry)
theorem st_var (K : COk G C) (inj : ∀ x y c, C.fenv.cells.lookup x = some c → C.fenv.cells.lookup y = some c → y = x) {i : Nat} {x : Str} {b : Bool} {v : PV} {y : Value} {Q : Unit → Shared → Prop} (hn : C.nm[i]? = some (x, b)) (R : Rel C W σ X s) (rv : VRel W v y)
    (h : ∀ s', Rel C W (fset i v σ) X s' → Q () s') : wpAny (model G.p G.w) C.A (storeName C.fenv x y) Q E s := by
  refine Rel.exE R fun m cs ms F N nd sr mr mu => ?_
  have hk := K.cells x b (List.mem_of_getElem? hn)
  induction b using boolC with
  | false =>
    refine wpAny_storeName_local hk (K.locals ▸ F.ns) (fun h' hn' hs => h _ ⟨⟨_, cs, ms, F.set (K.locals ▸ hn') (K.locals ▸ hs), N.set (K.locals ▸ hs), nd, sr.setL hn K.nm rv, mr, mu⟩, R.bare, R.os, Nat.succ_pos _⟩) ?_
    rw [K.kind]; rfl
  | true =>
    obtain ⟨c, o, ov, hc, hm, hd⟩ := sr.cellOf hn
    obtain ⟨A, B, rfl⟩ := List.append_of_mem hm
    refine wpAny_storeName_cell K.kind hk hc ⟨o, N.get (List.mem_append_left _ hm), hd⟩ fun h' hv hs => ?_
    obtain ⟨o', ho', hd'⟩ := hv
    have e : ∀ o, A ++ (c, o) :: B ++ (ms ++ (W.T ++ X)) = A ++ (c, o) :: (B ++ (ms ++ (W.T ++ X))) := fun o => by simp
    rw [e] at N nd
    refine h _ ⟨⟨m, A ++ (c, o') :: B, ms, fr_upd (o := o) F N (List.mem_append_right _ (.head _)) hs, ?_, ?_, sr.setC hc hd' rv (fun y => inj x y c hc) hn K.nm, mr, mu⟩, R.bare, R.os, R.tk⟩
    · rw [e]; exact led_upd N nd hs ho'
    · rw [e]; exact nd_upd nd
end
structure COk1 (G : Gd) (C : Cx) : Prop extends COk G C where
  room : C.A.depth + C.lv < recursionLimit
  units : C.A.units + 3 * C.lv + 8 < cLine
  acp : C.ac.p = G.p
  acC : C.ac.C = G.acc
  acP : C.ac.P = G.w.params
  acw : C.ac.w = G.w
  inj : ∀ x y c, C.fenv.cells.lookup x = some c → C.fenv.cells.lookup y = some c → y = x
section
variable {G : Gd} {C : Cx} {V : Vw}
theorem Ev.var (K : COk1 G C) {i : Nat} {x : Str} {b : Bool} {p : Pos} (hn : C.nm[i]? = some (x, b)) (hd : (x == ("__debug__" : Str)) = false := by decide) : Ev G C (fv C) (.Name x p) (fvar i) := by
  intro W σ X s r σ' Q E e R _ h
  unfold fvar at e
  split at e
  · rename_i v hv
    induction e using someC
    exact wpAny_Name (ld_var K.toCOk hn R hv fun y ry => h W y s (Wd.le_refl _) R ry) hd
  · exact noneE e
noncomputable def cvw (C : Cx) (sc : Scope) (cl : List (Str × Addr)) (Cn : Addr) (x : Str) (pv : PV) : Vw :=
  ⟨compEnvC sc cl Cn C.fenv, fun W X => ∃ oC m₂ y, (Cn, oC) ∈ X ∧ LCg.NsObj oC m₂ ∧ m₂ x = some y ∧ VRel W pv y, fun le ⟨oC, m₂, y, a, b, c, d⟩ => ⟨oC, m₂, y, a, b, c, d.mono le⟩⟩
theorem Ev.cv {sc : Scope} {cl : List (Str × Addr)} {Cn : Addr} {x : Str} {pv : PV} {p : Pos} (hk : sc.kind = .function) (hx : sc.names.lookup x = some .local) (hd : (x == ("__debug__" : Str)) = false := by decide) :
    Ev G C (cvw C sc cl Cn x pv) (.Name x p) (fun σ => some (pv, σ)) := by
  intro W σ X s r σ' Q E e R ok h
  induction e using someC
  obtain ⟨oC, m₂, y, hm, hn, hy, ry⟩ := ok
  exact wpAny_Name (wpAny_loadName_local hk (lookup_relabel_local hx) (hn.ns (R.getX hm)) hy (h W y s (Wd.le_refl _) R ry)) hd
theorem lookup_relabel_cell {env : Env} (hk : env.scope.kind = .function) : ∀ {names : List (Str × NameKind)} {x : Str}, names.lookup x = some .free → env.kindOf x = some .cell →
    (names.map fun (n, k) => if (k == NameKind.free && env.scope.kind == .function && env.kindOf n == some .cell) then (n, NameKind.cell) else (n, k)).lookup x = some .cell
  | [], _, h, _ => by simp at h
  | (n, k) :: r, x, h, hc => by
    have ih := @lookup_relabel_cell env hk r x
    show List.lookup x ((if (k == NameKind.free && env.scope.kind == .function && env.kindOf n == some .cell) = true then (n, NameKind.cell) else (n, k)) :: _) = _
    cases hx : x == n with
    | true =>
      simp only [List.lookup_cons, hx] at h
      cases h
      have : x = n := by simpa using hx
      subst this
      simp [List.lookup_cons, hc, hk]
    | false =>
      simp only [List.lookup_cons, hx] at h
      by_cases hq : (k == NameKind.free && env.scope.kind == .function && env.kindOf n == some .cell) = true
      · rw [if_pos hq]; simp only [List.lookup_cons, hx]; exact ih h hc
      · rw [if_neg hq]; simp only [List.lookup_cons, hx]; exact ih h hc
theorem Ev.cel (K : COk1 G C) {i : Nat} {sc : Scope} {cl : List (Str × Addr)} {Cn : Addr} {x z : Str} {pv : PV} {p : Pos} (hn : C.nm[i]? = some (x, true)) (hk : sc.kind = .function) (hx : sc.names.lookup x = some .free)
    (hc : ∀ c, C.fenv.cells.lookup x = some c → cl.lookup x = some c) (hd : (x == ("__debug__" : Str)) = false := by decide) :
    Ev G C (cvw C sc cl Cn z pv) (.Name x p) (fvar i) := by
  intro W σ X s r σ' Q E e R ok h
  unfold fvar at e
  split at e
  · rename_i v hv
    induction e using someC
    refine Rel.exE R fun m cs ms F N nd sr mr mu => ?_
    obtain ⟨c, o, y, hl, hm, hd', ry⟩ := sr.getC hn hv
    exact wpAny_Name (wpAny_loadName_cell (by exact hk) (lookup_relabel_cell K.kind hx (K.cells x true (List.mem_of_getElem? hn))) (hc c hl) ⟨o, N.get (List.mem_append_left _ hm), hd'⟩ (h W y s (Wd.le_refl _) R ry)) hd
  · exact noneE e
structure VG (V : Vw) : Prop where
  kind : V.env.scope.kind = .function
  g : V.env.globals = mainGlobals
  b : V.env.builtins = builtinsNs
theorem VG.f (K : COk1 G C) : VG (fv C) := ⟨K.kind, K.globals, K.builtins⟩
theorem VG.c (K : COk1 G C) {sc : Scope} {cl : List (Str × Addr)} {Cn : Addr} {x : Str} {pv : PV} (hk : sc.kind = .function) : VG (cvw C sc cl Cn x pv) := ⟨hk, K.globals, K.builtins⟩
theorem Ev.glo (K : COk1 G C) (VV : VG V) {x : Str} {p : Pos} {v : Value} {pv : PV} (hx : V.env.kindOf x = some .globalImplicit) (e : nsIn G.K mainGlobals x = some (some v)) (rv : ∀ W, VRel W pv v) (hd : (x == ("__debug__" : Str)) = false := by decide) :
    Ev G C V (.Name x p) (fun σ => some (pv, σ)) := by
  intro W σ X s r σ' Q E e' R _ h
  induction e' using someC
  exact Name_function_global VV.kind hx (loadGlobal_global (VV.g.symm ▸ K.gd.g.keeps fun _ _ => R.keep) (mg_of K.gd.frag K.gd.g e) (h W v s (Wd.le_refl _) R (rv W))) hd
theorem Ev.bui (K : COk1 G C) (VV : VG V) {x : Str} {p : Pos} {v : Value} (hx : V.env.kindOf x = some .globalImplicit) (e : nsIn G.K mainGlobals x = some none) (hv : bootBuiltins x = some v) (hn : x ≠ "__name__") (hd : (x == ("__debug__" : Str)) = false := by decide) :
    Ev G C V (.Name x p) (fun σ => some (.raw v, σ)) := by
  intro W σ X s r σ' Q E e' R _ h
  induction e' using someC
  exact Name_function_global VV.kind hx (loadGlobal_builtin (VV.g.symm ▸ K.gd.g.keeps fun _ _ => R.keep) (mg_none_of K.gd.frag K.gd.g e) (VV.b.symm ▸ K.gd.b.keeps fun _ _ => R.keep) ((K.gd.bi x hn).trans hv) (h W v s (Wd.le_refl _) R (.raw v))) hd
theorem Ev.int {i : Int} {k : Nat} {p : Pos} : Ev G C V (.Constant (.int i) k p) (fun σ => some (.int i, σ)) := by
  intro W σ X s r σ' Q E e R _ h
  induction e using someC
  exact wpAny_Constant_int (h W _ _ (Wd.le_refl _) (R.toks _) (.int i _))
theorem Ev.bool {b : Bool} {k : Nat} {p : Pos} : Ev G C V (.Constant (.bool b) k p) (fun σ => some (.bool b, σ)) := by
  intro W σ X s r σ' Q E e R _ h
  induction e using someC
  exact wpAny_Constant_bool (h W _ _ (Wd.le_refl _) R (.bool b))
theorem Ev.cnone {k : Nat} {p : Pos} : Ev G C V (.Constant .none k p) (fun σ => some (.none, σ)) := by
  intro W σ X s r σ' Q E e R _ h
  induction e using someC
  exact wpAny_Constant_none (h W _ _ (Wd.le_refl _) R .none)
theorem Ev.bin {op : Operator} {l r : Expr} {p : Pos} {f g : PS → Option (PV × PS)} {o : PV → PV → PS → Option (PV × PS)} (hl : Ev G C V l f) (hr : Ev G C V r g) (ho : Op2 G C (binaryOp op) o) :
    Ev G C V (.BinOp l op r p) (fun σ => fbf f σ fun a σ => fbf g σ fun b σ => o a b σ) := by
  intro W σ X s v σ' Q E e R ok h
  refine fbE e fun a σ₁ e₁ e => ?_
  refine fbE e fun b σ₂ e₂ e₃ => ?_
  exact wpAny_BinOp (hl W σ X s a σ₁ _ E e₁ R ok fun W₁ x s₁ l₁ R₁ r₁ => hr W₁ σ₁ X s₁ b σ₂ _ E e₂ R₁ (V.mono l₁ ok) fun W₂ y s₂ l₂ R₂ r₂ =>
    ho W₂ σ₂ X s₂ a b x y v σ' _ E e₃ R₂ (r₁.mono l₂) r₂ fun W₃ z s₃ l₃ R₃ r₃ => h W₃ z s₃ (Wd.le_trans l₁ (Wd.le_trans l₂ l₃)) R₃ r₃)
theorem Ev.cmp {op : CmpOp} {l r : Expr} {p : Pos} {f g : PS → Option (PV × PS)} {o : PV → PV → PS → Option (PV × PS)} (hl : Ev G C V l f) (hr : Ev G C V r g) (ho : Op2 G C (compareOp op) o) (hm : behindInMarks op r = false := by with_unfolding_all rfl) :
    Ev G C V (.Compare l [op] [r] p) (fun σ => fbf f σ fun a σ => fbf g σ fun b σ => o a b σ) := by
  intro W σ X s v σ' Q E e R ok h
  refine fbE e fun a σ₁ e₁ e => ?_
  refine fbE e fun b σ₂ e₂ e₃ => ?_
  exact wpAny_Compare1 (hl W σ X s a σ₁ _ E e₁ R ok fun W₁ x s₁ l₁ R₁ r₁ => hr W₁ σ₁ X s₁ b σ₂ _ E e₂ R₁ (V.mono l₁ ok) fun W₂ y s₂ l₂ R₂ r₂ =>
    ho W₂ σ₂ X s₂ a b x y v σ' _ E e₃ R₂ (r₁.mono l₂) r₂ fun W₃ z s₃ l₃ R₃ r₃ => h W₃ z s₃ (Wd.le_trans l₁ (Wd.le_trans l₂ l₃)) R₃ r₃) hm
end
end Mine
end
section
open PySem PySem.W PyProof.Rows PySem.Calls
namespace Mine
noncomputable def oAdd : PV → PV → PS → Option (PV × PS)
  | .int a, .int b, σ => some (.int (a + b), σ)
  | .str a, .str b, σ => if (a ++ b).length ≤ 4096 then some (.str (a ++ b), σ) else none
  | _, _, _ => none
noncomputable def oSub : PV → PV → PS → Option (PV × PS)
  | .int a, .int b, σ => some (.int (a - b), σ)
  | .bool a, .bool b, σ => some (.int (b2i a - b2i b), σ)
  | _, _, _ => none
noncomputable def oFdiv : PV → PV → PS → Option (PV × PS)
  | .int a, .int b, σ => if 0 < b.natAbs ∧ b.natAbs < 1073741824 then some (.int (a.fdiv b), σ) else none
  | _, _, _ => none
noncomputable def oMod : PV → PV → PS → Option (PV × PS)
  | .int a, .int b, σ => if 0 < b.natAbs then some (.int (a.fmod b), σ) else none
  | _, _, _ => none
noncomputable def oPow : PV → PV → PS → Option (PV × PS)
  | .int a, .int b, σ => if 0 ≤ b ∧ (Builtin.Int.intBits a : Int) * b ≤ 2 ^ 27 then some (.int (a ^ b.toNat), σ) else none
  | _, _, _ => none
noncomputable def oMul : PV → PV → PS → Option (PV × PS)
  | .int a, .int b, σ => if Builtin.Int.intBits b ≤ 64 ∨ Builtin.Int.intBits a ≤ 64 ∨ Builtin.Int.intBits a + Builtin.Int.intBits b ≤ 1000000 then some (.int (a * b), σ) else none
  | .str a, .int b, σ => if 0 ≤ b ∧ b ≤ 64 ∧ a.length ≤ 64 then some (.str (List.replicate b.toNat a).flatten, σ) else none
  | _, _, _ => none
noncomputable def oLt : PV → PV → PS → Option (PV × PS)
  | .int a, .int b, σ => some (.bool (decide (a < b)), σ)
  | .str a, .str b, σ => some (.bool (decide (a < b)), σ)
  | _, _, _ => none
noncomputable def oGt : PV → PV → PS → Option (PV × PS)
  | .int a, .int b, σ => some (.bool (decide (b < a)), σ)
  | .str a, .str b, σ => some (.bool (decide (b < a)), σ)
  | _, _, _ => none
noncomputable def oLe : PV → PV → PS → Option (PV × PS)
  | .int a, .int b, σ => some (.bool (decide (a ≤ b)), σ)
  | _, _, _ => none
noncomputable def oGe : PV → PV → PS → Option (PV × PS)
  | .int a, .int b, σ => some (.bool (decide (b ≤ a)), σ)
  | _, _, _ => none
noncomputable def oIsNot : PV → PV → PS → Option (PV × PS)
  | .bool a, .bool b, σ => some (.bool (a != b), σ)
  | .str _, .none, σ => some (.bool true, σ)
  | .none, .none, σ => some (.bool false, σ)
  | _, _, _ => none
theorem size4096 : 4096 ≤ sizeLine := by decide +kernel
section
variable {G : Gd} {C : Cx}
theorem Op2.add : Op2 G C (binaryOp .Add) oAdd := by
  intro W σ X s a b x y r σ' Q E e R ra rb h
  unfold oAdd at e
  split at e
  · induction ra using VRel.intC; induction rb using VRel.intC; induction e using someC; exact add_int (h W _ _ (Wd.le_refl _) (R.toks _) (.int _ _))
  · split at e
    · rename_i hl
      induction ra using VRel.strC; induction rb using VRel.strC; induction e using someC
      refine P.add_str ?_
      rename_i σ₀ a b t u
      rw [mkS'_len, mkS'_len]
      by_cases ha : a = []
      · subst ha; exact h W _ _ (Wd.le_refl _) R (.str b u)
      · rw [if_neg (by simpa using ha)]
        by_cases hb : b = []
        · subst hb
          rw [List.append_nil] at h
          exact h W _ _ (Wd.le_refl _) R (.str a t)
        · rw [if_neg (by simpa using hb)]
          have : mkS' a ++ mkS' b = mkS' (a ++ b) := by
            show Str.append _ _ = _
            simp [Str.append, mkS']
          rw [this]
          exact ⟨by rw [mkS'_len]; exact Nat.le_trans hl size4096, h W _ _ (Wd.le_refl _) (R.toks _) (.str _ _)⟩
    · exact noneE e
  · exact noneE e
theorem Op2.sub : Op2 G C (binaryOp .Sub) oSub := by
  intro W σ X s a b x y r σ' Q E e R ra rb h
  unfold oSub at e
  split at e
  · induction ra using VRel.intC; induction rb using VRel.intC; induction e using someC; exact sub_int (h W _ _ (Wd.le_refl _) (R.toks _) (.int _ _))
  · induction ra using VRel.boolC; induction rb using VRel.boolC; induction e using someC; exact sub_bool (h W _ _ (Wd.le_refl _) (R.toks _) (.int _ _))
  · exact noneE e
theorem Op2.fdiv : Op2 G C (binaryOp .FloorDiv) oFdiv := by
  intro W σ X s a b x y r σ' Q E e R ra rb h
  unfold oFdiv at e
  split at e
  · split at e
    · rename_i hb
      induction ra using VRel.intC; induction rb using VRel.intC; induction e using someC
      exact floordiv_int (fun q => by rw [q] at hb; exact absurd hb.1 (by decide)) (h W _ _ (Wd.le_refl _) (R.toks _) (.int _ _)) (hp := .inl (PyProof.noPylong_small hb.2))
    · exact noneE e
  · exact noneE e
theorem Op2.mod : Op2 G C (binaryOp .Mod) oMod := by
  intro W σ X s a b x y r σ' Q E e R ra rb h
  unfold oMod at e
  split at e
  · split at e
    · rename_i hb
      induction ra using VRel.intC; induction rb using VRel.intC; induction e using someC
      exact mod_int' (fun q => by rw [q] at hb; exact absurd hb (by decide)) (h W _ _ (Wd.le_refl _) (R.toks _) (.int _ _))
    · exact noneE e
  · exact noneE e
theorem Op2.pow : Op2 G C (binaryOp .Pow) oPow := by
  intro W σ X s a b x y r σ' Q E e R ra rb h
  unfold oPow at e
  split at e
  · split at e
    · rename_i hb
      induction ra using VRel.intC; induction rb using VRel.intC; induction e using someC
      exact pow_int hb.1 hb.2 (h W _ _ (Wd.le_refl _) (R.toks _) (.int _ _))
    · exact noneE e
  · exact noneE e
theorem intMul_ok {a b : Int} (h : Builtin.Int.intBits b ≤ 64 ∨ Builtin.Int.intBits a ≤ 64 ∨ Builtin.Int.intBits a + Builtin.Int.intBits b ≤ 1000000) : IntMulOk a b := by
  unfold IntMulOk
  intro q
  simp only [Bool.and_eq_true, decide_eq_true_eq, Builtin.Int.intTooBig] at q
  have h64 : shortFactorBits = 64 := rfl
  have hbl : 1000000 < bitsLine := by decide +kernel
  rw [h64] at q
  rcases h with h | h | h
  · omega
  · omega
  · omega
theorem foldl_rep (a : List Nat) : ∀ (n : Nat) (z : Array Nat), ((List.replicate n a.toArray).foldl (· ++ ·) z).toList = z.toList ++ (List.replicate n a).flatten
  | 0, z => by simp
  | n + 1, z => by
    rw [List.replicate_succ, List.foldl_cons, foldl_rep a n, List.replicate_succ, List.flatten_cons]
    simp
theorem Op2.mul : Op2 G C (binaryOp .Mult) oMul := by
  intro W σ X s a b x y r σ' Q E e R ra rb h
  unfold oMul at e
  split at e
  · split at e
    · rename_i hb
      induction ra using VRel.intC; induction rb using VRel.intC; induction e using someC
      exact mul_int (h W _ _ (Wd.le_refl _) (R.toks _) (.int _ _)) (intMul_ok hb)
    · exact noneE e
  · split at e
    · rename_i σ₀ a b hb
      induction ra using VRel.strC; induction rb using VRel.intC; induction e using someC
      obtain ⟨h0, h1, h2⟩ := hb
      have hlen : a.length * b.toNat ≤ 64 * 64 := Nat.mul_le_mul h2 (by omega)
      refine P.mul_str (by simp; omega) (fun _ _ => ?_) (fun _ _ => ?_) ?_
      · have h3 : (64 : Int) ≤ (2 ^ 63 - 1) / b := by
          have hb0 : 0 < b := by omega
          exact (Int.le_ediv_iff_mul_le hb0).mpr (by omega)
        rw [mkS'_len]; omega
      · rw [mkS'_len]; show decide (a.length * b.toNat > sizeLine) = false
        exact decide_eq_false (by have := size4096; omega)
      · by_cases hb1 : b < 1
        · rw [if_pos hb1]
          have hb0 : b.toNat = 0 := by omega
          rw [hb0] at h
          exact ⟨Nat.zero_le _, h W _ _ (Wd.le_refl _) (R.toks _) (.str [] _)⟩
        · rw [if_neg hb1]
          split
          · rename_i t u hq
            have : (List.replicate b.toNat a).flatten = a := by
              rw [mkS'_len] at hq
              simp only [Bool.or_eq_true, beq_iff_eq] at hq
              rcases hq with hq | hq
              · subst hq; simp
              · have : a = [] := List.eq_nil_of_length_eq_zero hq
                subst this; simp
            rw [this] at h
            exact h W _ _ (Wd.le_refl _) R (.str a t)
          · have : (⟨(List.replicate b.toNat (mkS' a).cps).foldl (· ++ ·) #[]⟩ : Str) = mkS' (List.replicate b.toNat a).flatten := by
              unfold mkS'
              congr 1
              apply Array.toList_inj.mp
              rw [foldl_rep]; simp
            rw [this]
            refine ⟨?_, h W _ _ (Wd.le_refl _) (R.toks _) (.str _ _)⟩
            rw [mkS'_len]
            have := size4096
            simp only [List.length_flatten, List.map_replicate, List.sum_replicate_nat]
            rw [Nat.mul_comm]
            omega
    · exact noneE e
  · exact noneE e
theorem Op2.lt : Op2 G C (compareOp .Lt) oLt := by
  intro W σ X s a b x y r σ' Q E e R ra rb h
  unfold oLt at e
  split at e
  · induction ra using VRel.intC; induction rb using VRel.intC; induction e using someC; exact lt_int (h W _ _ (Wd.le_refl _) R (.bool _))
  · induction ra using VRel.strC; induction rb using VRel.strC; induction e using someC; exact P.lt_str (h W _ _ (Wd.le_refl _) R (.bool _))
  · exact noneE e
theorem Op2.gt : Op2 G C (compareOp .Gt) oGt := by
  intro W σ X s a b x y r σ' Q E e R ra rb h
  unfold oGt at e
  split at e
  · induction ra using VRel.intC; induction rb using VRel.intC; induction e using someC; exact PyProof.Rows.gt_int (h W _ _ (Wd.le_refl _) R (.bool _))
  · induction ra using VRel.strC; induction rb using VRel.strC; induction e using someC; exact P.gt_str (h W _ _ (Wd.le_refl _) R (.bool _))
  · exact noneE e
theorem Op2.le : Op2 G C (compareOp .LtE) oLe := by
  intro W σ X s a b x y r σ' Q E e R ra rb h
  unfold oLe at e
  split at e
  · induction ra using VRel.intC; induction rb using VRel.intC; induction e using someC; exact P.le_int (h W _ _ (Wd.le_refl _) R (.bool _))
  · exact noneE e
theorem Op2.ge : Op2 G C (compareOp .GtE) oGe := by
  intro W σ X s a b x y r σ' Q E e R ra rb h
  unfold oGe at e
  split at e
  · induction ra using VRel.intC; induction rb using VRel.intC; induction e using someC; exact P.ge_int (h W _ _ (Wd.le_refl _) R (.bool _))
  · exact noneE e
theorem Op2.isNot : Op2 G C (compareOp .IsNot) oIsNot := by
  intro W σ X s a b x y r σ' Q E e R ra rb h
  unfold oIsNot at e
  split at e
  · induction ra using VRel.boolC; induction rb using VRel.boolC; induction e using someC; exact isnot_bool (h W _ _ (Wd.le_refl _) R (.bool _))
  · induction ra using VRel.strC; induction rb using VRel.noneC; induction e using someC; exact isnot_str_none (h W _ _ (Wd.le_refl _) R (.bool _))
  · induction ra using VRel.noneC; induction rb using VRel.noneC; induction e using someC; exact isnot_none_none (h W _ _ (Wd.le_refl _) R (.bool _))
  · exact noneE e
end
end Mine
end
section
open PySem PySem.W PyProof.Rows PySem.Calls
namespace Mine
section
variable {C : Cx} {W W' : Wd} {σ σ' : PS} {X X' : Led} {s : Shared}
theorem Rel.extX {a : Addr} {o o' : Obj} (R : Rel C W σ ((a, o) :: X) s) {h' : Heap} {tk : Nat} (hk : ∀ b x, b ≠ a → s.heap.get? b = some x → h'.get? b = some x) (ho : h'.get? a = some o') (ht : 0 < tk) : Rel C W σ ((a, o') :: X) { s with heap := h', toks := tk } := by
  obtain ⟨m, cs, ms, F, N, nd, r⟩ := R.ex
  have ha := N (a, o) (by simp)
  have e : ∀ o, cs ++ (ms ++ (W.T ++ (a, o) :: X)) = (cs ++ (ms ++ W.T)) ++ (a, o) :: X := fun o => by simp
  rw [e] at N nd
  have nd' := nd
  rw [List.map_append, List.map_cons, List.perm_middle.nodup_iff, List.nodup_cons, List.mem_append] at nd'
  refine ⟨⟨m, cs, ms, ⟨F.ns.at' fun o e => hk _ o (Ne.symm ha.2.1) e, fun b x q => hk b x (fun z => ?_) (F.keep b x q), F.above⟩, ?_, ?_, r⟩, R.bare, R.os, ht⟩
  · have := ha.2.2; rw [z, show C.h₀.get? a = none from this] at q; exact noneE q
  · rw [e]
    intro p hp
    rcases List.mem_append.mp hp with q | q
    · exact ⟨hk _ _ (fun z => nd'.1 (.inl (List.mem_map.mpr ⟨p, q, z⟩))) (N p (List.mem_append_left _ q)).1, (N p (List.mem_append_left _ q)).2⟩
    · rcases List.mem_cons.mp q with rfl | q
      · exact ⟨ho, ha.2⟩
      · exact ⟨hk _ _ (fun z => nd'.1 (.inr (List.mem_map.mpr ⟨p, q, z⟩))) (N p (List.mem_append_right _ (.tail _ q))).1, (N p (List.mem_append_right _ (.tail _ q))).2⟩
  · rw [e]; exact nd_upd nd
theorem Rel.endX {a : Addr} {o : Obj} (R : Rel C W σ ((a, o) :: X) s) {h' : Heap} {tk : Nat} (hk : ∀ b x, b ≠ a → s.heap.get? b = some x → h'.get? b = some x) (ht : 0 < tk) : Rel C W σ X { s with heap := h', toks := tk } := by
  obtain ⟨m, cs, ms, F, N, nd, r⟩ := R.ex
  have ha := N (a, o) (by simp)
  have e : ∀ o, cs ++ (ms ++ (W.T ++ (a, o) :: X)) = (cs ++ (ms ++ W.T)) ++ (a, o) :: X := fun o => by simp
  rw [e] at N nd
  rw [List.map_append, List.map_cons, List.perm_middle.nodup_iff, List.nodup_cons, List.mem_append] at nd
  have e' : cs ++ (ms ++ (W.T ++ X)) = (cs ++ (ms ++ W.T)) ++ X := by simp
  refine ⟨⟨m, cs, ms, ⟨F.ns.at' fun o e => hk _ o (Ne.symm ha.2.1) e, fun b x q => hk b x (fun z => ?_) (F.keep b x q), F.above⟩, ?_, ?_, r⟩, R.bare, R.os, ht⟩
  · have := ha.2.2; rw [z, show C.h₀.get? a = none from this] at q; exact noneE q
  · rw [e']
    intro p hp
    rcases List.mem_append.mp hp with q | q
    · exact ⟨hk _ _ (fun z => nd.1 (.inl (List.mem_map.mpr ⟨p, q, z⟩))) (N p (List.mem_append_left _ q)).1, (N p (List.mem_append_left _ q)).2⟩
    · exact ⟨hk _ _ (fun z => nd.1 (.inr (List.mem_map.mpr ⟨p, q, z⟩))) (N p (List.mem_append_right _ (.tail _ q))).1, (N p (List.mem_append_right _ (.tail _ q))).2⟩
  · rw [e', List.map_append]; exact nd.2
end
noncomputable def nxOf : PV → Nat → PS → Option (Option PV)
  | .ref l, i, σ => match σ.mem[l]? with
    | some (.list xs) => some xs[i]?
    | _ => none
  | .str x, i, _ => some (x[i]?.map fun c => .str [c])
  | .tup vs, i, _ => some vs[i]?
  | .rng a b c, i, _ => if c = 1 ∧ Builtin.Range.small a b 1 = true then some (if a + i < b then some (.int (a + i)) else none) else none
  | _, _, _ => none
structure Stp (G : Gd) (C : Cx) (I : Addr) (ok : Nat → Wd → Obj → Prop) (nx : Nat → PS → Option (Option PV)) : Prop where
  item : ∀ i W σ X s o v (Q : Option Value → Shared → Prop) (E : Value → Shared → Prop), ok i W o → Rel C W σ ((I, o) :: X) s → nx i σ = some (some v) →
    (∀ o' y s', ok (i + 1) W o' → Rel C W σ ((I, o') :: X) s' → VRel W v y → Q (some y) s') → wpAny (model G.p G.w) C.A (pyNext (.ref I)) Q E s
  done : ∀ i W σ X s o (Q : Option Value → Shared → Prop) (E : Value → Shared → Prop), ok i W o → Rel C W σ ((I, o) :: X) s → nx i σ = some none →
    (∀ s', Rel C W σ X s' → Q none s') → wpAny (model G.p G.w) C.A (pyNext (.ref I)) Q E s
  mono : ∀ {i W W' o}, Wd.le W W' → ok i W o → ok i W' o
  self : ∀ i W σ X s o (Q : Value → Shared → Prop) (E : Value → Shared → Prop), ok i W o → Rel C W σ ((I, o) :: X) s → Q (.ref I) s → wpAny (model G.p G.w) C.A (pyIter (.ref I)) Q E s
theorem striter_ty (x : Str) : strIterType x = "str_ascii_iterator" ∨ strIterType x = "str_iterator" := by
  unfold strIterType
  split
  · exact .inl rfl
  · exact .inr rfl
section
variable {G : Gd} {C : Cx} {W W' : Wd} {σ σ' : PS} {X X' : Led} {s : Shared}
theorem stp_list (K : COk1 G C) {l : Nat} {I a : Addr} : Stp G C I (fun i W o => W.mu[l]? = some a ∧ o.cls = .type "list_iterator" ∧ o.data = .fields #[.ref a, .int i 0]) (nxOf (.ref l)) where
  item := by
    intro i W σ X s o v Q E ⟨hm, hc, hd⟩ R e h
    simp only [nxOf] at e
    split at e
    · rename_i xs hx
      refine Rel.getME R hx hm fun o' ho' ro => ?_
      induction ro using ORel.listC with
      | list vs n rv =>
        obtain ⟨y, hy, ry⟩ := rv.get (Option.some.inj e)
        refine wpAny_pyNext_list_item ⟨o, R.getX (.head _), hc, hd⟩ ⟨_, ho', rfl, _, rfl⟩ (by simpa using hy) fun h' hit hs => ?_
        obtain ⟨o₂, h1, h2, h3⟩ := hit
        exact h o₂ y _ ⟨hm, h2, h3⟩ (R.setX hs h1) ry
    · exact noneE e
  done := by
    intro i W σ X s o Q E ⟨hm, hc, hd⟩ R e h
    simp only [nxOf] at e
    split at e
    · rename_i xs hx
      refine Rel.getME R hx hm fun o' ho' ro => ?_
      induction ro using ORel.listC with
      | list vs n rv =>
        have hn : xs[i]? = none := Option.some.inj e
        have : vs[i]? = none := by
          rw [List.getElem?_eq_none_iff] at hn ⊢
          rw [← rv.length]; exact hn
        exact wpAny_pyNext_list_end K.handled ⟨o, R.getX (.head _), hc, hd⟩ ⟨_, ho', rfl, _, rfl⟩ (by simpa using this) fun h' hs => h _ (R.endX (tk := s.toks) (fun b x hb e => hs b x hb e) R.tk)
    · exact noneE e
  mono := fun le ⟨a, b⟩ => ⟨mu_mono le a, b⟩
  self := fun i W σ X s o Q E ⟨_, hc, hd⟩ R h => wpAny_pyIter_listiter ⟨o, R.getX (.head _), hc, hd⟩ h
theorem stp_tup (K : COk1 G C) {vs : List PV} {xs : List Value} {I a : Addr} : Stp G C I (fun i W o => (a, tupO xs) ∈ W.T ∧ VRels W vs xs ∧ o.cls = .type "tuple_iterator" ∧ o.data = .fields #[.ref a, .int i 0]) (nxOf (.tup vs)) where
  item := by
    intro i W σ X s o v Q E ⟨hm, rv, hc, hd⟩ R e h
    obtain ⟨y, hy, ry⟩ := rv.get (Option.some.inj e)
    refine wpAny_pyNext_tuple_item ⟨o, R.getX (.head _), hc, hd⟩ ⟨_, R.getT hm, rfl, _, rfl⟩ (by simpa using hy) fun h' hit hs => ?_
    obtain ⟨o₂, h1, h2, h3⟩ := hit
    exact h o₂ y _ ⟨hm, rv, h2, h3⟩ (R.setX hs h1) ry
  done := by
    intro i W σ X s o Q E ⟨hm, rv, hc, hd⟩ R e h
    have hn : vs[i]? = none := Option.some.inj e
    have : xs[i]? = none := by
      rw [List.getElem?_eq_none_iff] at hn ⊢
      rw [← rv.length]; exact hn
    exact wpAny_pyNext_tuple_end K.handled ⟨o, R.getX (.head _), hc, hd⟩ ⟨_, R.getT hm, rfl, _, rfl⟩ (by simpa using this) fun h' hs => h _ (R.endX (tk := s.toks) (fun b x hb e => hs b x hb e) R.tk)
  mono := fun le ⟨a, b, c⟩ => ⟨le.2 _ a, b.mono le, c⟩
  self := fun i W σ X s o Q E ⟨hm, _, hc, hd⟩ R h => wpAny_pyIter_tupleiter ⟨o, R.getX (.head _), hc, hd⟩ h
theorem stp_str (K : COk1 G C) {x : List Nat} {t : Tok} {I : Addr} : Stp G C I (fun i _ o => i ≤ x.length ∧ o.cls = .type (strIterType (mkS' x)) ∧ o.data = .fields #[.str (mkS' x) t, .int i 0]) (nxOf (.str x)) := by
  have key : ∃ ty, strIterType (mkS' x) = ty ∧ Walks G.p G.w C.A I [I] [I] x.length (SignAt (mkS' x)) (fun i h => h.IsStrIter I ty (mkS' x) t i) := by
    rcases striter_ty (mkS' x) with h | h
    · exact ⟨_, h, Walks.strAscii K.handled I (mkS' x) t⟩
    · exact ⟨_, h, Walks.strWide K.handled I (mkS' x) t⟩
  obtain ⟨ty, ht, Wk⟩ := key
  rw [ht]
  refine ⟨?_, ?_, fun _ h => h, fun i W σ X s o Q E ⟨_, hc, hd⟩ R h => Wk.self i s Q E ⟨o, R.getX (.head _), hc, hd⟩ h⟩
  · intro i W σ X s o v Q E ⟨_, hc, hd⟩ R e h
    simp only [nxOf, Option.some.injEq, Option.map_eq_some_iff] at e
    obtain ⟨c, hxc, rfl⟩ := e
    have hi := (List.getElem?_eq_some_iff.mp hxc).1
    refine wpAny_with_toks R.tk (Wk.item i s _ _ hi ⟨o, R.getX (.head _), hc, hd⟩ fun v h' tk hP hst hk ht => ?_)
    obtain ⟨c', u, hc', rfl⟩ := hP
    obtain ⟨o₂, h1, h2, h3⟩ := hst
    have : c' = c := by
      have : x[i]? = some c' := by simpa [mkS'] using hc'
      rw [hxc] at this; induction this using some1C; rfl
    subst this
    exact h o₂ _ _ ⟨hi, h2, h3⟩ (R.extX (fun b x hb e => hk b x (by simpa using hb) e) h1 ht) (.str [c'] u)
  · intro i W σ X s o Q E ⟨hle, hc, hd⟩ R e h
    simp only [nxOf, Option.some.injEq, Option.map_eq_none_iff] at e
    have hi : i = x.length := Nat.le_antisymm hle (List.getElem?_eq_none_iff.mp e)
    subst hi
    exact wpAny_with_toks R.tk (Wk.done s _ _ ⟨o, R.getX (.head _), hc, hd⟩ fun h' tk hk ht => h _ (R.endX (fun b x hb e => hk b x (by simpa using hb) e) ht))
theorem stp_rng (K : COk1 G C) {a b : Int} {I : Addr} : Stp G C I (fun i _ o => ∃ left, o = { cls := .type "range_iterator", dict := none, data := .fields #[rawInt (a + (i : Nat)), rawInt left, rawInt 1], slots := #[] } ∧ (left = b - (a + (i : Nat)) ∨ (left ≤ 0 ∧ b ≤ a + (i : Nat)))) (nxOf (.rng a b 1)) := by
  refine ⟨?_, ?_, fun _ h => h, fun i W σ X s o Q E ⟨left, ho, _⟩ R h => wpAny_pyIter_rangeiter (ho ▸ R.getX (.head _)) h⟩
  · intro i W σ X s o v Q E ⟨left, ho, hl⟩ R e h
    simp only [nxOf, true_and] at e
    split at e
    · have hlt : a + (i : Int) < b := by
        cases hd : decide (a + (i : Int) < b) with
        | true => exact of_decide_eq_true hd
        | false => rw [if_neg (of_decide_eq_false hd)] at e; cases e
      rw [if_pos hlt] at e
      cases e
      subst ho
      refine wpAny_pyNext_range_item (R.getX (.head _)) (by omega) fun h' hit hs => ?_
      refine h _ _ _ ⟨left - 1, ?_, ?_⟩ ((R.setX hs hit).toks _) (.int _ _)
      · simp only [Int.add_assoc]; rfl
      · push_cast; omega
    · exact noneE e
  · intro i W σ X s o Q E ⟨left, ho, hl⟩ R e h
    simp only [nxOf, true_and] at e
    split at e
    · have hlt : ¬ a + (i : Int) < b := by
        intro hd
        rw [if_pos hd] at e; cases e
      subst ho
      exact wpAny_pyNext_range_end K.handled (R.getX (.head _)) (by omega) fun h' hs => h _ (R.endX (tk := s.toks) (fun b x hb e => hs b x hb e) R.tk)
    · exact noneE e
theorem iter_ok (K : COk1 G C) {v : PV} {x : Value} {r : Option PV} {Q : Value → Shared → Prop} {E : Value → Shared → Prop} (e : nxOf v 0 σ = some r) (R : Rel C W σ X s) (rv : VRel W v x)
    (h : ∀ I o ok s', Stp G C I ok (nxOf v) → ok 0 W o → Rel C W σ ((I, o) :: X) s' → Q (.ref I) s') : wpAny (model G.p G.w) C.A (pyIter x) Q E s := by
  cases rv with
  | none => cases e
  | bool b => cases e
  | int i t => cases e
  | raw v => cases e
  | flist => cases e
  | str x t =>
    refine wpAny_pyIter_strU ?_
    exact h _ _ _ _ (stp_str K) ⟨Nat.zero_le _, rfl, rfl⟩ (R.allocX rfl)
  | ref l a ha =>
    simp only [nxOf] at e
    split at e
    · rename_i xs hx
      refine Rel.getME R hx ha fun o' ho' ro => ?_
      induction ro using ORel.listC with
      | list vs n rv =>
        refine wpAny_pyIter_list ⟨_, ho', rfl, _, rfl⟩ ?_
        exact h _ _ _ _ (stp_list K) ⟨ha, rfl, rfl⟩ (R.allocX rfl)
    · exact noneE e
  | tup vs xs a hm rv =>
    refine wpAny_pyIter_tuple ⟨_, R.getT hm, rfl, _, rfl⟩ ?_
    exact h _ _ _ _ (stp_tup K) ⟨hm, rv, rfl, rfl⟩ (R.allocX rfl)
  | rng a b c t u v y hm =>
    simp only [nxOf] at e
    split at e
    · rename_i hc
      obtain ⟨rfl, hs⟩ := hc
      refine wpAny_pyIter_range (R.getT hm) hs ?_
      refine h _ _ _ _ (stp_rng K) ⟨Builtin.Range.rangeSize a b 1, ?_, ?_⟩ (R.allocX rfl)
      · simp
      · unfold Builtin.Range.rangeSize
        rw [if_pos (by decide)]
        split
        · left; simp
        · right; refine ⟨Int.le_refl _, ?_⟩; simp; omega
    · exact noneE e
end
end Mine
end
section
open PySem PySem.W PyProof.Rows PySem.Calls
namespace Mine
noncomputable def fTruth : PV → PS → Option (Bool × PS)
  | .bool b, σ => some (b, σ)
  | .str s, σ => if s.length ≤ 4096 then some (s.length != 0, σ) else none
  | .int i, σ => some (i != 0, σ)
  | _, _ => none
noncomputable def fseq (f g : PS → Option (Fl × PS)) (σ : PS) : Option (Fl × PS) :=
  match f σ with
  | some (.next, σ₁) => g σ₁
  | o => o
noncomputable def fwhile (t : PS → Option (Bool × PS)) (b : PS → Option (Fl × PS)) : Nat → PS → Option (Fl × PS)
  | 0, _ => none
  | n + 1, σ => fb (t σ) fun c σ₁ => match c with
    | true => fb (b σ₁) fun r σ₂ => match r with
      | .next => fwhile t b n σ₂
      | .cont => fwhile t b n σ₂
      | .brk => some (.next, σ₂)
      | .ret v => some (.ret v, σ₂)
    | false => some (.next, σ₁)
noncomputable def ffor (nx : Nat → PS → Option (Option PV)) (st : PV → PS → Option PS) (b : PS → Option (Fl × PS)) : Nat → Nat → PS → Option (Fl × PS)
  | 0, _, _ => none
  | n + 1, i, σ => match nx i σ with
    | some (some v) => match st v σ with
      | some σ₁ => fb (b σ₁) fun r σ₂ => match r with
        | .next => ffor nx st b n (i + 1) σ₂
        | .cont => ffor nx st b n (i + 1) σ₂
        | .brk => some (.next, σ₂)
        | .ret v => some (.ret v, σ₂)
      | none => none
    | some none => some (.next, σ)
    | none => none
noncomputable def Tg (G : Gd) (C : Cx) (t : Expr) (st : PV → PS → Option PS) : Prop :=
  ∀ W σ X s v x σ' (Q : Unit → Shared → Prop) (E : Value → Shared → Prop), st v σ = some σ' → Rel C W σ X s → VRel W v x → (∀ W' s', W.le W' → Rel C W' σ' X s' → Q () s') → wpAny (model G.p G.w) C.A (assign t C.fenv x) Q E s
section
variable {G : Gd} {C : Cx} {V : Vw}
theorem tru {W σ X s} {v : PV} {x : Value} {b : Bool} {σ' : PS} {Q : Bool → Shared → Prop} {E : Value → Shared → Prop} (e : fTruth v σ = some (b, σ')) (R : Rel C W σ X s) (rv : VRel W v x) (h : ∀ s', Rel C W σ' X s' → Q b s') :
    wpAny (model G.p G.w) C.A (truthy x) Q E s := by
  unfold fTruth at e
  split at e
  · induction rv using VRel.boolC; induction e using someC; exact wpAny_truthy_bool (h _ R)
  · split at e
    · rename_i hl
      induction rv using VRel.strC; induction e using someC
      refine P.truthy_str (by rw [mkS'_len]; omega) ?_
      rw [mkS'_len]
      have := h _ (R.toks (s.toks + 1 + 1))
      rename_i x t
      have e : ((x.length : Int) != 0) = (x.length != 0) := by
        rw [Bool.eq_iff_iff]; simp
      rw [e]; exact this
    · exact noneE e
  · induction rv using VRel.intC; induction e using someC; exact P.truthy_int (h _ R)
  · exact noneE e
theorem Ts.val {e : Expr} {f : PS → Option (PV × PS)} (he : Ev G C V e f) (hi : isTrue e V.env (eval e V.env) = (do let v ← eval e V.env; standAt e.pos; holding [v] (truthy v)) := by rfl) : Ts G C V e (fun σ => fbf f σ fTruth) := by
  intro W σ X s r σ' Q E e R ok h
  refine fbE e fun a σ₁ e₁ e₂ => ?_
  exact wpAny_isTrue_value (he W σ X s a σ₁ _ E e₁ R ok fun W₁ x s₁ l₁ R₁ r₁ => tru e₂ R₁ r₁ fun s' R' => h W₁ s' l₁ R') hi
theorem Ts.cmp {op : CmpOp} {l r : Expr} {p : Pos} {f g : PS → Option (PV × PS)} {o : PV → PV → PS → Option (PV × PS)} (hl : Ev G C V l f) (hr : Ev G C V r g) (ho : Op2 G C (compareOp op) o) (hm : behindInMarks op r = false := by with_unfolding_all rfl) :
    Ts G C V (.Compare l [op] [r] p) (fun σ => fbf f σ fun a σ => fbf g σ fun b σ => fb (o a b σ) fTruth) := by
  intro W σ X s v σ' Q E e R ok h
  refine fbE e fun a σ₁ e₁ e => ?_
  refine fbE e fun b σ₂ e₂ e => ?_
  refine fbE e fun c σ₃ e₃ e₄ => ?_
  exact wpAny_isTrue_Compare1 (hl W σ X s a σ₁ _ E e₁ R ok fun W₁ x s₁ l₁ R₁ r₁ => hr W₁ σ₁ X s₁ b σ₂ _ E e₂ R₁ (V.mono l₁ ok) fun W₂ y s₂ l₂ R₂ r₂ =>
    ho W₂ σ₂ X s₂ a b x y c σ₃ _ E e₃ R₂ (r₁.mono l₂) r₂ fun W₃ z s₃ l₃ R₃ r₃ => tru e₄ R₃ r₃ fun s' R' => h W₃ s' (Wd.le_trans l₁ (Wd.le_trans l₂ l₃)) R') hm
theorem Ts.not {e : Expr} {p : Pos} {f : PS → Option (Bool × PS)} (he : Ts G C V e f) : Ts G C V (.UnaryOp .Not e p) (fun σ => fbf f σ fun b σ => some (!b, σ)) := by
  intro W σ X s r σ' Q E e R ok h
  refine fbE e fun a σ₁ e₁ e₂ => ?_
  induction e₂ using someC
  exact wpAny_isTrue_Not (he W σ X s a _ _ E e₁ R ok fun W₁ s₁ l₁ R₁ => h W₁ s₁ l₁ R₁)
inductive Tss (G : Gd) (C : Cx) (V : Vw) : List Expr → List (PS → Option (Bool × PS)) → Prop
  | nil : Tss G C V [] []
  | cons {e es f fs} : Ts G C V e f → Tss G C V es fs → Tss G C V (e :: es) (f :: fs)
noncomputable def fand : List (PS → Option (Bool × PS)) → PS → Option (Bool × PS)
  | [], σ => some (true, σ)
  | f :: fs, σ => fb (f σ) fun b σ => match b with
    | true => fand fs σ
    | false => some (false, σ)
noncomputable def ffor' : List (PS → Option (Bool × PS)) → PS → Option (Bool × PS)
  | [], σ => some (false, σ)
  | f :: fs, σ => fb (f σ) fun b σ => match b with
    | true => some (true, σ)
    | false => ffor' fs σ
theorem tss_and {es : List Expr} {fs : List (PS → Option (Bool × PS))} (T : Tss G C V es fs) : ∀ W σ X s r σ' (Q : Bool → Shared → Prop) (E : Value → Shared → Prop), fand fs σ = some (r, σ') → Rel C W σ X s → V.ok W X → (∀ W' s', W.le W' → Rel C W' σ' X s' → Q r s') → wpAny (model G.p G.w) C.A (allTrue .And es V.env) Q E s := by
  induction T with
  | nil => intro W σ X s r σ' Q E e R ok h; cases e; exact wpAny_allTrue_And_nil (h W s (Wd.le_refl _) R)
  | cons te _ ih =>
    intro W σ X s r σ' Q E e R ok h
    refine fbE e fun b σ₁ e₁ e₂ => ?_
    refine wpAny_allTrue_And_cons (te W σ X s b σ₁ _ E e₁ R ok fun W₁ s₁ l₁ R₁ => ?_)
    induction b using boolC with
    | true => exact ih W₁ σ₁ X s₁ r σ' Q E e₂ R₁ (V.mono l₁ ok) fun W₂ s₂ l₂ R₂ => h W₂ s₂ (Wd.le_trans l₁ l₂) R₂
    | false => induction e₂ using someC; exact h W₁ s₁ l₁ R₁
theorem tss_or {es : List Expr} {fs : List (PS → Option (Bool × PS))} (T : Tss G C V es fs) : ∀ W σ X s r σ' (Q : Bool → Shared → Prop) (E : Value → Shared → Prop), ffor' fs σ = some (r, σ') → Rel C W σ X s → V.ok W X → (∀ W' s', W.le W' → Rel C W' σ' X s' → Q r s') → wpAny (model G.p G.w) C.A (allTrue .Or es V.env) Q E s := by
  induction T with
  | nil => intro W σ X s r σ' Q E e R ok h; cases e; exact wpAny_allTrue_Or_nil (h W s (Wd.le_refl _) R)
  | cons te _ ih =>
    intro W σ X s r σ' Q E e R ok h
    refine fbE e fun b σ₁ e₁ e₂ => ?_
    refine wpAny_allTrue_Or_cons (te W σ X s b σ₁ _ E e₁ R ok fun W₁ s₁ l₁ R₁ => ?_)
    induction b using boolC with
    | false => exact ih W₁ σ₁ X s₁ r σ' Q E e₂ R₁ (V.mono l₁ ok) fun W₂ s₂ l₂ R₂ => h W₂ s₂ (Wd.le_trans l₁ l₂) R₂
    | true => induction e₂ using someC; exact h W₁ s₁ l₁ R₁
theorem Ts.and {es : List Expr} {p : Pos} {fs : List (PS → Option (Bool × PS))} (T : Tss G C V es fs) : Ts G C V (.BoolOp .And es p) (fand fs) :=
  fun W σ X s r σ' Q E e R ok h => wpAny_isTrue_BoolOp (tss_and T W σ X s r σ' Q E e R ok h)
theorem Ts.or {es : List Expr} {p : Pos} {fs : List (PS → Option (Bool × PS))} (T : Tss G C V es fs) : Ts G C V (.BoolOp .Or es p) (ffor' fs) :=
  fun W σ X s r σ' Q E e R ok h => wpAny_isTrue_BoolOp (tss_or T W σ X s r σ' Q E e R ok h)
theorem Ev.ife {t a b : Expr} {p : Pos} {ft : PS → Option (Bool × PS)} {fa fc : PS → Option (PV × PS)} (ht : Ts G C V t ft) (ha : Ev G C V a fa) (hb : Ev G C V b fc) :
    Ev G C V (.IfExp t a b p) (fun σ => fbf ft σ fun c σ => match c with | true => fa σ | false => fc σ) := by
  intro W σ X s r σ' Q E e R ok h
  refine fbE e fun c σ₁ e₁ e₂ => ?_
  refine wpAny_IfExp (ht W σ X s c σ₁ _ E e₁ R ok fun W₁ s₁ l₁ R₁ => ?_)
  induction c using boolC with
  | true => exact ha W₁ σ₁ X s₁ r σ' Q E e₂ R₁ (V.mono l₁ ok) fun W₂ x s₂ l₂ R₂ r₂ => h W₂ x s₂ (Wd.le_trans l₁ l₂) R₂ r₂
  | false => exact hb W₁ σ₁ X s₁ r σ' Q E e₂ R₁ (V.mono l₁ ok) fun W₂ x s₂ l₂ R₂ r₂ => h W₂ x s₂ (Wd.le_trans l₁ l₂) R₂ r₂
theorem Xs.nil : Xs G C [] (fun σ => some (.next, σ)) := by
  intro W σ X s r σ' Q E e R h
  induction e using someC
  exact wpAny_execs_nil (h W _ s (Wd.le_refl _) R .next)
theorem Xs.cons {a : Stmt} {r : List Stmt} {f g : PS → Option (Fl × PS)} (ha : X1 G C a f) (hr : Xs G C r g) : Xs G C (a :: r) (fseq f g) := by
  intro W σ X s r σ' Q E e R h
  unfold fseq at e
  refine wpAny_execs_cons ?_
  cases hf : f σ with
  | none => rw [hf] at e; exact noneE e
  | some q =>
    obtain ⟨fl, σ₁⟩ := q
    rw [hf] at e
    refine ha W σ X s fl σ₁ _ E hf R fun W₁ v s₁ l₁ R₁ fr => ?_
    induction fr with
    | next => exact hr W₁ σ₁ X s₁ _ σ' Q E e R₁ fun W₂ v s₂ l₂ R₂ fr => h W₂ v s₂ (Wd.le_trans l₁ l₂) R₂ fr
    | brk => induction e using someC; exact h W₁ _ s₁ l₁ R₁ .brk
    | cont => induction e using someC; exact h W₁ _ s₁ l₁ R₁ .cont
    | ret v x rv => induction e using someC; exact h W₁ _ s₁ l₁ R₁ (.ret v x rv)
theorem X1.assign (K : COk1 G C) {i : Nat} {x : Str} {b : Bool} {p' p : Pos} {e : Expr} {f : PS → Option (PV × PS)} (hn : C.nm[i]? = some (x, b)) (he : Ev G C (fv C) e f) (hs : swapsWith e (some (.Name x p')) p.line C.fenv = pure false := by rfl) :
    X1 G C (.Assign [.Name x p'] e p) (fun σ => fbf f σ fun v σ => some (.next, fset i v σ)) := by
  intro W σ X s r σ' Q E e R h
  refine fbE e fun v σ₁ e₁ e₂ => ?_
  induction e₂ using someC
  exact wpAny_Assign_Name (he W σ X s v σ₁ _ E e₁ R trivial fun W₁ y s₁ l₁ R₁ rv => st_var K.toCOk K.inj hn R₁ rv fun s' R' => h W₁ _ s' l₁ R' .next) hs
theorem Tg.name (K : COk1 G C) {i : Nat} {x : Str} {b : Bool} {p : Pos} (hn : C.nm[i]? = some (x, b)) : Tg G C (.Name x p) (fun v σ => some (fset i v σ)) := by
  intro W σ X s v y σ' Q E e R rv h
  induction e using some1C
  exact PySem.wpAny_assign_Name (st_var K.toCOk K.inj hn R rv fun s' R' => h W s' (Wd.le_refl _) R')
theorem X1.aug (K : COk1 G C) {i : Nat} {x : Str} {b : Bool} {p' p : Pos} {op : Operator} {e : Expr} {f : PS → Option (PV × PS)} {o : PV → PV → PS → Option (PV × PS)} (hn : C.nm[i]? = some (x, b)) (he : Ev G C (fv C) e f) (ho : Op2 G C (inplaceOp op) o) :
    X1 G C (.AugAssign (.Name x p') op e p) (fun σ => fb (fvar i σ) fun a σ => fbf f σ fun b σ => fb (o a b σ) fun v σ => some (.next, fset i v σ)) := by
  intro W σ X s r σ' Q E e R h
  refine fbE e fun a σ₁ e₁ e => ?_
  refine fbE e fun b σ₂ e₂ e => ?_
  refine fbE e fun v σ₃ e₃ e₄ => ?_
  induction e₄ using someC
  unfold fvar at e₁
  split at e₁
  · rename_i a' ha
    cases e₁ using someC
    exact wpAny_AugAssign_Name (ld_var K.toCOk hn R ha fun y ry => he W σ X s b σ₂ _ E e₂ R trivial fun W₁ z s₁ l₁ R₁ rz => ho W₁ σ₂ X s₁ a b y z v σ₃ _ E e₃ R₁ (ry.mono l₁) rz fun W₂ u s₂ l₂ R₂ ru =>
      st_var K.toCOk K.inj hn R₂ ru fun s' R' => h W₂ _ s' (Wd.le_trans l₁ l₂) R' .next)
  · exact noneE e₁
theorem X1.ite {t : Expr} {a b : List Stmt} {p : Pos} {ft : PS → Option (Bool × PS)} {fa fc : PS → Option (Fl × PS)} (ht : Ts G C (fv C) t ft) (ha : Xs G C a fa) (hb : Xs G C b fc) :
    X1 G C (.If t a b p) (fun σ => fbf ft σ fun c σ => match c with | true => fa σ | false => fc σ) := by
  intro W σ X s r σ' Q E e R h
  refine fbE e fun c σ₁ e₁ e₂ => ?_
  refine wpAny_If (ht W σ X s c σ₁ _ E e₁ R trivial fun W₁ s₁ l₁ R₁ => ?_)
  induction c using boolC with
  | true => exact ha W₁ σ₁ X s₁ r σ' Q E e₂ R₁ fun W₂ x s₂ l₂ R₂ r₂ => h W₂ x s₂ (Wd.le_trans l₁ l₂) R₂ r₂
  | false => exact hb W₁ σ₁ X s₁ r σ' Q E e₂ R₁ fun W₂ x s₂ l₂ R₂ r₂ => h W₂ x s₂ (Wd.le_trans l₁ l₂) R₂ r₂
theorem X1.ret {e : Expr} {p : Pos} {f : PS → Option (PV × PS)} (he : Ev G C (fv C) e f) : X1 G C (.Return (some e) p) (fun σ => fbf f σ fun v σ => some (.ret v, σ)) := by
  intro W σ X s r σ' Q E e R h
  refine fbE e fun v σ₁ e₁ e₂ => ?_
  induction e₂ using someC
  exact wpAny_Return_some (he W σ X s v _ _ E e₁ R trivial fun W₁ y s₁ l₁ R₁ rv => h W₁ _ s₁ l₁ R₁ (.ret v y rv))
theorem X1.asrt {t : Expr} {m : Option Expr} {p : Pos} {ft : PS → Option (Bool × PS)} (ht : Ts G C (fv C) t ft) : X1 G C (.Assert t m p) (fun σ => fbf ft σ fun c σ => match c with | true => some (.next, σ) | false => none) := by
  intro W σ X s r σ' Q E e R h
  refine fbE e fun c σ₁ e₁ e₂ => ?_
  induction c using boolC with
  | true => induction e₂ using someC; exact wpAny_Assert_holds (ht W σ X s _ _ _ E e₁ R trivial fun W₁ s₁ l₁ R₁ => ⟨rfl, h W₁ _ s₁ l₁ R₁ .next⟩)
  | false => exact noneE e₂
theorem X1.expr {e : Expr} {p : Pos} {f : PS → Option (PV × PS)} (he : Ev G C (fv C) e f) (hi : interactive C.fenv = false := by rfl) (hs : swapsWith e none p.line C.fenv = pure false := by rfl) :
    X1 G C (.Expr e p) (fun σ => fbf f σ fun v σ => match v with | .none => some (.next, σ) | _ => none) := by
  intro W σ X s r σ' Q E e R h
  refine fbE e fun v σ₁ e₁ e₂ => ?_
  cases v with
  | none => induction e₂ using someC; exact wpAny_Expr (he W σ X s _ _ _ E e₁ R trivial fun W₁ y s₁ l₁ R₁ rv => by induction rv using VRel.noneC; exact h W₁ _ s₁ l₁ R₁ .next) hi hs
  | _ => exact noneE e₂
theorem X1.while {t : Expr} {b : List Stmt} {p : Pos} {ft : PS → Option (Bool × PS)} {f : PS → Option (Fl × PS)} (n : Nat) (ht : Ts G C (fv C) t ft) (hb : Xs G C b f) : X1 G C (.While t b [] p) (fwhile ft f n) := by
  intro W σ X s r σ' Q E e R h
  refine wpAny_While (codeAny_whileLoop (fun k s' => ∃ W' σ₁, W.le W' ∧ Rel C W' σ₁ X s' ∧ fwhile ft f k σ₁ = some (r, σ')) ?_ n ⟨W, σ, Wd.le_refl _, R, e⟩)
  rintro k s' ⟨W', σ₁, le, R', e'⟩
  induction k using natC with
  | zero => cases e'
  | succ k =>
    refine fbE e' fun c σ₂ e₁ e₂ => ?_
    refine ht W' σ₁ X s' c σ₂ _ _ e₁ R' trivial fun W₂ s₂ l₂ R₂ => ?_
    induction c using boolC with
    | true =>
      refine fbE e₂ fun fl σ₃ e₃ e₄ => ?_
      refine hb W₂ σ₂ X s₂ fl σ₃ _ _ e₃ R₂ fun W₃ v s₃ l₃ R₃ fr => ?_
      have le₃ := Wd.le_trans le (Wd.le_trans l₂ l₃)
      induction fr with
      | next => exact ⟨k, Nat.lt_succ_self _, W₃, σ₃, le₃, R₃, e₄⟩
      | cont => exact ⟨k, Nat.lt_succ_self _, W₃, σ₃, le₃, R₃, e₄⟩
      | brk => induction e₄ using someC; exact h W₃ _ s₃ le₃ R₃ .next
      | ret v x rv => induction e₄ using someC; exact h W₃ _ s₃ le₃ R₃ (.ret v x rv)
    | false =>
      induction e₂ using someC
      exact wpAny_execs_nil (h W₂ _ s₂ (Wd.le_trans le l₂) R₂ .next)
inductive FrInv (C : Cx) (W : Wd) (X : Led) (I : Addr) (ok : Nat → Wd → Obj → Prop) (g : Nat → Nat → PS → Prop) (k : Nat) (s' : Shared) : Prop
  | mk (W' : Wd) (σ₂ : PS) (i : Nat) (o' : Obj) : W.le W' → ok i W' o' → Rel C W' σ₂ ((I, o') :: X) s' → g k i σ₂ → FrInv C W X I ok g k s'
theorem X1.for (K : COk1 G C) {t e : Expr} {b : List Stmt} {p : Pos} {st : PV → PS → Option PS} {fe : PS → Option (PV × PS)} {f : PS → Option (Fl × PS)} (n : Nat) (he : Ev G C (fv C) e fe) (ht : Tg G C t st) (hb : Xs G C b f)
    (hg : ∀ it v, letOwnedTupleGo t it v = pure () := by intro _ _; rfl) (hs : ∀ x, foldedSetIterable e C.fenv x = pure x := by intro _; rfl) :
    X1 G C (.For t e b [] p) (fun σ => fbf fe σ fun v σ => ffor (nxOf v) st f n 0 σ) := by
  intro W σ X s r σ' Q E e R h
  refine fbE e fun v σ₁ e₁ e₂ => ?_
  refine wpAny_For (he W σ X s v σ₁ _ E e₁ R trivial fun W₁ x s₁ l₁ R₁ rv => ?_) hs
  have hnx : ∃ q, nxOf v 0 σ₁ = some q := by
    induction n using natC with
    | zero => cases e₂
    | succ n =>
      simp only [ffor] at e₂
      split at e₂
      · rename_i q; exact ⟨_, q⟩
      · rename_i q; exact ⟨_, q⟩
      · exact noneE e₂
  obtain ⟨q, hq⟩ := hnx
  refine iter_ok K hq R₁ rv fun I o ok s₂ S hok R₂ => ?_
  refine codeAny_forLoop_any (FrInv C W X I ok fun k i σ₂ => ffor (nxOf v) st f k i σ₂ = some (r, σ')) ?_ n (.mk W₁ σ₁ 0 o l₁ hok R₂ e₂)
  rintro k s' ⟨W', σ₂, i, o', le, hok', R', e'⟩
  induction k using natC with
  | zero => cases e'
  | succ k =>
    simp only [ffor] at e'
    split at e'
    · rename_i w hw
      refine S.item i W' σ₂ X s' o' w _ _ hok' R' hw fun o₂ y s₃ hok₂ R₃ ry => ?_
      dsimp only
      rw [hg]
      refine wpAny_pure ?_
      split at e'
      · rename_i σ₃ h₃
        refine fbE e' fun fl σ₄ e₄ e₅ => ?_
        refine ht W' σ₂ _ s₃ w y σ₃ _ _ h₃ R₃ ry fun W₄ s₄ l₄ R₄ => ?_
        refine hb W₄ σ₃ _ s₄ fl σ₄ _ _ e₄ R₄ fun W₅ u s₅ l₅ R₅ fr => ?_
        have le₅ := Wd.le_trans le (Wd.le_trans l₄ l₅)
        induction fr with
        | next => exact ⟨k, Nat.lt_succ_self _, .mk W₅ σ₄ (i + 1) o₂ le₅ (S.mono (Wd.le_trans l₄ l₅) hok₂) R₅ e₅⟩
        | cont => exact ⟨k, Nat.lt_succ_self _, .mk W₅ σ₄ (i + 1) o₂ le₅ (S.mono (Wd.le_trans l₄ l₅) hok₂) R₅ e₅⟩
        | brk => induction e₅ using someC; exact h W₅ _ s₅ le₅ R₅.dropX .next
        | ret v x rv => induction e₅ using someC; exact h W₅ _ s₅ le₅ R₅.dropX (.ret v x rv)
      · exact noneE e'
    · rename_i hw
      induction e' using someC
      refine S.done i W' _ X s' o' _ _ hok' R' hw fun s₃ R₃ => ?_
      exact wpAny_execs_nil (h W' _ s₃ le R₃ .next)
    · exact noneE e'
end
end Mine
end
section
open PySem PySem.W PyProof.Rows PySem.Calls
namespace Mine
inductive Evs (G : Gd) (C : Cx) (V : Vw) : List Expr → (PS → Option (List PV × PS)) → Prop
  | nil : Evs G C V [] (fun σ => some ([], σ))
  | cons {e es f g} : Ev G C V e f → Evs G C V es g → starEach (e :: es) V.env = (false, eval e V.env) :: starEach es V.env → Evs G C V (e :: es) (fun σ => fbf f σ fun v σ => fbf g σ fun vs σ => some (v :: vs, σ))
noncomputable def Cl (G : Gd) (C : Cx) (c : Value) (g : List PV → PS → Option (PV × PS)) : Prop :=
  ∀ W σ X s vs xs r σ' (Q : Value → Shared → Prop) (E : Value → Shared → Prop), g vs σ = some (r, σ') → Rel C W σ X s → VRels W vs xs → Po C W σ' X r Q → wpAny (model G.p G.w) C.A (call c xs) Q E s
section
variable {G : Gd} {C : Cx} {V : Vw}
theorem Evs.spl {es : List Expr} {f : PS → Option (List PV × PS)} (H : Evs G C V es f) : ∀ W σ X s rs σ' (Q : List Value → Shared → Prop) (E : Value → Shared → Prop) (pos : Pos), f σ = some (rs, σ') → Rel C W σ X s → V.ok W X →
    (∀ W' vs s', W.le W' → Rel C W' σ' X s' → VRels W' rs vs → Q vs s') → wpAny (model G.p G.w) C.A (spliced (backTo pos (starEach es V.env))) Q E s := by
  induction H with
  | nil => intro W σ X s rs σ' Q E pos e R ok h; induction e using someC; exact wpAny_items_nil (h W [] s (Wd.le_refl _) R .nil)
  | cons he _ hs ih =>
    intro W σ X s rs σ' Q E pos e R ok h
    refine fbE e fun v σ₁ e₁ e => ?_
    refine fbE e fun vs σ₂ e₂ e₃ => ?_
    induction e₃ using someC
    exact wpAny_items_cons (he W σ X s v σ₁ _ E e₁ R ok fun W₁ x s₁ l₁ R₁ r₁ => ih W₁ σ₁ X s₁ vs _ _ E pos e₂ R₁ (V.mono l₁ ok) fun W₂ xs s₂ l₂ R₂ r₂ => h W₂ (x :: xs) s₂ (Wd.le_trans l₁ l₂) R₂ (.cons (r₁.mono l₂) r₂)) hs
theorem Evs.plain {es : List Expr} {f : PS → Option (List PV × PS)} (H : Evs G C V es f) (pos : Pos) : (backTo pos (starEach es V.env)).any (·.1) = false := by
  induction H with
  | nil => rfl
  | cons _ _ hs ih => rw [hs]; simpa [backTo] using ih
theorem Evs.alln {es : List Expr} {f : PS → Option (List PV × PS)} (H : Evs G C V es f) (pos : Pos) : (backTo pos (starEach es V.env)).all (fun x => !x.1) = true := by
  induction H with
  | nil => rfl
  | cons _ _ hs ih => rw [hs]; simpa [backTo] using ih
theorem Evs.args {es : List Expr} {f : PS → Option (List PV × PS)} (H : Evs G C V es f) (c : Value) {W σ X s rs σ'} {Q : Args → Shared → Prop} {E : Value → Shared → Prop} {pos : Pos} (e : f σ = some (rs, σ')) (R : Rel C W σ X s) (ok : V.ok W X)
    (h : ∀ W' vs s', W.le W' → Rel C W' σ' X s' → VRels W' rs vs → Q ⟨vs, []⟩ s') : wpAny (model G.p G.w) C.A (evalArgs c true (backTo pos (starEach es V.env)) []) Q E s := by
  have key := H.spl W σ X s rs σ' (fun vs s' => Q ⟨vs, []⟩ s') E pos e R ok h
  cases H with
  | nil => induction e using someC; exact evalArgs_nil3 (h W [] s (Wd.le_refl _) R .nil)
  | cons he hes hs =>
    rw [hs] at key ⊢
    exact evalArgs_plain key
theorem Ev.callB {x : Str} {p pos : Pos} {id : String} {es : List Expr} {f : PS → Option (List PV × PS)} {g : List PV → PS → Option (PV × PS)} (hx : Ev G C V (.Name x p) (fun σ => some (.raw (.builtin id), σ))) (H : Evs G C V es f) (hc : Cl G C (.builtin id) g) :
    Ev G C V (.Call (.Name x p) es [] pos) (fun σ => fbf f σ fun vs σ => g vs σ) := by
  intro W σ X s r σ' Q E e R ok h
  refine fbE e fun vs σ₁ e₁ e₂ => ?_
  refine Call_Name rfl (hx W σ X s _ _ _ E rfl R ok fun W₁ y s₁ l₁ R₁ ry => ?_)
  induction ry using VRel.rawC
  refine Calls.callWith_builtin (H.plain _) (H.args _ e₁ R₁ (V.mono l₁ ok) fun W₂ xs s₂ l₂ R₂ rs => ?_)
  exact hc W₂ σ₁ X s₂ vs xs r σ' Q E e₂ R₂ rs fun W₃ z s₃ l₃ R₃ r₃ => h W₃ z s₃ (Wd.le_trans l₁ (Wd.le_trans l₂ l₃)) R₃ r₃
theorem Ev.callT {x : Str} {p pos : Pos} {T : String} {es : List Expr} {f : PS → Option (List PV × PS)} {g : List PV → PS → Option (PV × PS)} (hx : Ev G C V (.Name x p) (fun σ => some (.raw (.type T), σ))) (H : Evs G C V es f) (hc : Cl G C (.type T) g) :
    Ev G C V (.Call (.Name x p) es [] pos) (fun σ => fbf f σ fun vs σ => g vs σ) := by
  intro W σ X s r σ' Q E e R ok h
  refine fbE e fun vs σ₁ e₁ e₂ => ?_
  refine Call_Name rfl (hx W σ X s _ _ _ E rfl R ok fun W₁ y s₁ l₁ R₁ ry => ?_)
  induction ry using VRel.rawC
  refine PyProof.Rows.callWith_type (H.plain _) (H.args _ e₁ R₁ (V.mono l₁ ok) fun W₂ xs s₂ l₂ R₂ rs => ?_)
  exact hc W₂ σ₁ X s₂ vs xs r σ' Q E e₂ R₂ rs fun W₃ z s₃ l₃ R₃ r₃ => h W₃ z s₃ (Wd.le_trans l₁ (Wd.le_trans l₂ l₃)) R₃ r₃
theorem Ev.callF {x : Str} {p pos : Pos} {a : Addr} {o : Obj} {fd : FuncData} {es : List Expr} {f : PS → Option (List PV × PS)} {g : List PV → PS → Option (PV × PS)} (hx : Ev G C V (.Name x p) (fun σ => some (.raw (.ref a), σ))) (ho : C.h₀.get? a = some o) (hd : o.data = .func fd) (H : Evs G C V es f) (hc : Cl G C (.ref a) g) :
    Ev G C V (.Call (.Name x p) es [] pos) (fun σ => fbf f σ fun vs σ => g vs σ) := by
  intro W σ X s r σ' Q E e R ok h
  refine fbE e fun vs σ₁ e₁ e₂ => ?_
  refine Call_Name rfl (hx W σ X s _ _ _ E rfl R ok fun W₁ y s₁ l₁ R₁ ry => ?_)
  induction ry using VRel.rawC
  refine Calls.callWith_function (fd := fd) (o := o) (H.args _ e₁ R₁ (V.mono l₁ ok) fun W₂ xs s₂ l₂ R₂ rs => ⟨⟨R₂.keep ho, hd⟩, ?_⟩)
  exact hc W₂ σ₁ X s₂ vs xs r σ' Q E e₂ R₂ rs fun W₃ z s₃ l₃ R₃ r₃ => h W₃ z s₃ (Wd.le_trans l₁ (Wd.le_trans l₂ l₃)) R₃ r₃
noncomputable def tyOf : PV → PS → Option String
  | .str _, _ => some "str"
  | .ref l, σ => match σ.mem[l]? with
    | some (.list _) => some "list"
    | _ => none
  | _, _ => none
theorem typ {W σ X s} {v : PV} {x : Value} {T : String} (e : tyOf v σ = some T) (R : Rel C W σ X s) (rv : VRel W v x) : s.TypeIs x T ∧ ∀ a, x = .ref a → ∃ ob, s.heap.get? a = some ob ∧ ob.dict = none := by
  cases rv with
  | none => cases e
  | bool b => cases e
  | int i t => cases e
  | raw v => cases e
  | flist => cases e
  | str x t => cases e; exact ⟨typeIs_str _ _ _, fun _ q => nomatch q⟩
  | tup => cases e
  | rng => cases e
  | ref l a ha =>
    simp only [tyOf] at e
    split at e
    · rename_i xs hx
      induction e using some1C
      refine Rel.getME R hx ha fun o ho ro => ?_
      induction ro using ORel.listC
      exact ⟨⟨_, ho, rfl⟩, fun b q => by cases q; exact ⟨_, ho, rfl⟩⟩
    · exact noneE e
theorem Ev.meth {o : Expr} {name : Str} {apos pos : Pos} {T id : String} {es : List Expr} {fo : PS → Option (PV × PS)} {f : PS → Option (List PV × PS)} {g : List PV → PS → Option (PV × PS)} (pa : PlainAttrs T) (sl : Slot T name id) (ty : typeOf (.builtin id) = pure (.type "method_descriptor"))
    (hf : Ev G C V o fo) (H : Evs G C V es f) (hc : Cl G C (.builtin id) g) (hbase : attributeBase o name V.env (eval o V.env) = eval o V.env := by rfl) (hl : decide (es.length < 30) = true := by rfl) (hline : (apos.endLine == pos.line) = true := by rfl) :
    Ev G C V (.Call (.Attribute o name apos) es [] pos) (fun σ => fbf fo σ fun v σ => match tyOf v σ with | some T' => if T' = T then fbf f σ fun vs σ => g (v :: vs) σ else none | none => none) := by
  intro W σ X s r σ' Q E e R ok h
  refine fbE e fun v σ₁ e₁ e' => ?_
  refine wpAny_Call_method_lateS hbase (by rw [H.alln]; show decide (es.length + 0 + 0 < 30) = true; simpa using of_decide_eq_true hl) hline (hf W σ X s v σ₁ _ E e₁ R ok fun W₁ y s₁ l₁ R₁ ry => ?_)
  split at e'
  · rename_i T' hT
    split at e'
    · rename_i q
      subst q
      refine fbE e' fun vs σ₂ e₂ e₃ => ?_
      obtain ⟨t1, t2⟩ := typ hT R₁ ry
      refine ⟨T', id, pa, sl, ty, t1, t2, ?_⟩
      refine Calls.callWith_builtin (H.plain _) (H.args _ e₂ R₁ (V.mono l₁ ok) fun W₂ xs s₂ l₂ R₂ rs => ?_)
      exact hc W₂ σ₂ X s₂ (v :: vs) (y :: xs) r σ' Q E e₃ R₂ (.cons (ry.mono l₂) rs) fun W₃ z s₃ l₃ R₃ r₃ => h W₃ z s₃ (Wd.le_trans l₁ (Wd.le_trans l₂ l₃)) R₃ r₃
    · exact noneE e'
  · exact noneE e'
theorem Ev.tup {es : List Expr} {k : Nat} {pos : Pos} {f : PS → Option (List PV × PS)} (H : Evs G C V es f) : Ev G C V (.Tuple es k pos) (fun σ => fbf f σ fun vs σ => if vs.length ≤ 4096 then some (.tup vs, σ) else none) := by
  intro W σ X s r σ' Q E e R ok h
  refine fbE e fun vs σ₁ e₁ e => ?_
  split at e
  · rename_i hl
    induction e using someC
    refine wpAny_Tuple (H.spl W σ X s vs _ _ E pos e₁ R ok fun W₁ xs s₁ l₁ R₁ rs => ⟨by rw [← rs.length]; exact Nat.le_trans hl size4096, ?_⟩)
    have le : W₁.le ⟨W₁.mu, (s₁.heap.objs.size, tupO xs) :: W₁.T⟩ := ⟨⟨[], by simp⟩, fun _ h => .tail _ h⟩
    exact h _ _ _ (Wd.le_trans l₁ le) (R₁.allocT rfl) (.tup vs xs _ (.head _) (rs.mono le))
  · exact noneE e
noncomputable def fnew (po : PO) (σ : PS) : Option (PV × PS) := some (.ref σ.mem.length, ⟨σ.vars, σ.mem ++ [po]⟩)
theorem Rel.len {W σ X s} (R : Rel C W σ X s) : W.mu.length = σ.mem.length := by
  refine Rel.exE R fun m cs ms F N nd sr mr mu => ?_
  rw [← mu, List.length_map, mr.length]
theorem new_ok {W σ X s} {po : PO} {o : Obj} {r : PV} {σ' : PS} {Q : Value → Shared → Prop} (e : fnew po σ = some (r, σ')) (R : Rel C W σ X s) (ho : ORel C.ac W po s.heap.objs.size o) (h : Po C W σ' X r Q) : Q (.ref s.heap.objs.size) { s with heap := s.heap.push o } := by
  cases e
  exact h ⟨W.mu ++ [s.heap.objs.size], W.T⟩ _ _ ⟨⟨_, rfl⟩, fun _ h => h⟩ (R.alloc ho) (.ref _ _ (by rw [← R.len]; simp))
theorem Ev.lst {es : List Expr} {pos : Pos} {f : PS → Option (List PV × PS)} (H : Evs G C V es f) : Ev G C V (.List es pos) (fun σ => fbf f σ fun vs σ => if vs.length ≤ 4096 then fnew (.list vs) σ else none) := by
  intro W σ X s r σ' Q E e R ok h
  refine fbE e fun vs σ₁ e₁ e => ?_
  split at e
  · rename_i hl
    refine wpAny_List (H.spl W σ X s vs _ _ E pos e₁ R ok fun W₁ xs s₁ l₁ R₁ rs => ⟨by rw [← rs.length]; exact Nat.le_trans hl size4096, ?_⟩)
    exact new_ok (Q := Q) e R₁ (.list vs xs 0 rs) fun W₂ z s₂ l₂ R₂ r₂ => h W₂ z s₂ (Wd.le_trans l₁ l₂) R₂ r₂
  · exact noneE e
theorem Ev.str {x : Str} {k : Nat} {p : Pos} (l : List Nat) (hl : x = mkS' l := by rfl) : Ev G C V (.Constant (.str x) k p) (fun σ => some (.str l, σ)) := by
  intro W σ X s r σ' Q E e R _ h
  induction e using someC
  subst hl
  exact wpAny_Constant_str (h W _ _ (Wd.le_refl _) (R.toks _) (.str l _))
noncomputable def oNeg : PV → PS → Option (PV × PS)
  | .int a, σ => some (.int (-a), σ)
  | _, _ => none
theorem Ev.un {op : UnaryOp} {e : Expr} {p : Pos} {f : PS → Option (PV × PS)} {o : PV → PS → Option (PV × PS)} (he : Ev G C V e f) (ho : Op1 G C (unaryOp op) o) : Ev G C V (.UnaryOp op e p) (fun σ => fbf f σ fun v σ => o v σ) := by
  intro W σ X s r σ' Q E e R ok h
  refine fbE e fun v σ₁ e₁ e₂ => ?_
  exact wpAny_UnaryOp (he W σ X s v σ₁ _ E e₁ R ok fun W₁ y s₁ l₁ R₁ ry => ho W₁ σ₁ X s₁ v y r σ' Q E e₂ R₁ ry fun W₂ z s₂ l₂ R₂ r₂ => h W₂ z s₂ (Wd.le_trans l₁ l₂) R₂ r₂)
theorem Op1.neg : Op1 G C (unaryOp .USub) oNeg := by
  intro W σ X s a x r σ' Q E e R ra h
  unfold oNeg at e
  split at e
  · induction ra using VRel.intC; induction e using someC; exact neg_int (h W _ _ (Wd.le_refl _) (R.toks _) (.int _ _))
  · exact noneE e
end
end Mine
end
section
open PySem PySem.W PyProof.Rows PySem.Calls
namespace Mine
section
variable {C : Cx} {W W' : Wd} {σ σ' : PS} {X X' : Led} {s : Shared}
theorem Rel.perm (R : Rel C W σ X s) (h : X.Perm X') : Rel C W σ X' s := by
  obtain ⟨m, cs, ms, F, N, nd, r⟩ := R.ex
  have hp : (cs ++ (ms ++ (W.T ++ X'))).Perm (cs ++ (ms ++ (W.T ++ X))) := List.Perm.append_left _ (List.Perm.append_left _ (List.Perm.append_left _ h.symm))
  exact ⟨⟨m, cs, ms, F, fun p hp' => N p (hp.mem_iff.mp hp'), (hp.map _).nodup_iff.mpr nd, r⟩, R.bare, R.os, R.tk⟩
theorem Rel.freshX (R : Rel C W σ X s) {a : Addr} {o : Obj} {h' : Heap} {tk : Nat} (hn : s.heap.get? a = none) (hk : ∀ b x, s.heap.get? b = some x → h'.get? b = some x) (ho : h'.get? a = some o) (ht : 0 < tk) : Rel C W σ ((a, o) :: X) { s with heap := h', toks := tk } := by
  obtain ⟨m, cs, ms, F, N, nd, r⟩ := R.ex
  have h0 : C.h₀.get? a = none := by
    cases q : C.h₀.get? a with
    | none => rfl
    | some x => have := F.keep a x q; rw [hn] at this; exact noneE this
  have hL : a ≠ C.L := by
    obtain ⟨oL, es, ep, hL, _⟩ := F.ns
    rintro rfl
    rw [hn] at hL; exact noneE hL
  have hnew : a ∉ (cs ++ (ms ++ (W.T ++ X))).map (·.1) := fun hm => by
    obtain ⟨p, hp, e⟩ := List.mem_map.mp hm
    have := (N p hp).1
    rw [e, hn] at this; exact noneE this
  refine ⟨⟨m, cs, ms, ⟨F.ns.at' fun o e => hk _ o e, fun b x q => hk b x (F.keep b x q), F.above⟩, ?_, ?_, r⟩, R.bare, R.os, ht⟩
  · intro p hp
    simp only [List.mem_append, List.mem_cons] at hp
    have old : ∀ p ∈ cs ++ (ms ++ (W.T ++ X)), h'.get? p.1 = some p.2 ∧ p.1 ≠ C.L ∧ C.h₀.get? p.1 = none := fun p hp => ⟨hk _ _ (N p hp).1, (N p hp).2⟩
    rcases hp with h | h | h | h | h
    · exact old p (by simp [h])
    · exact old p (by simp [h])
    · exact old p (by simp [h])
    · subst h; exact ⟨ho, hL, h0⟩
    · exact old p (by simp [h])
  · have := nodup_mid (A := (cs ++ (ms ++ W.T)).map (·.1)) (B := X.map (·.1)) (a := a) (by simpa using hnew) (by simpa using nd)
    simpa using this
theorem Rel.promote {a : Addr} {o : Obj} {po : PO} (R : Rel C W σ ((a, o) :: X) s) (ho : ORel C.ac W po a o) : Rel C ⟨W.mu ++ [a], W.T⟩ ⟨σ.vars, σ.mem ++ [po]⟩ X s := by
  refine Rel.exE R fun m cs ms F N nd sr mr mu => ?_
  have le : W.le ⟨W.mu ++ [a], W.T⟩ := ⟨⟨_, rfl⟩, fun _ h => h⟩
  have hp : (cs ++ (ms ++ [(a, o)] ++ (W.T ++ X))).Perm (cs ++ (ms ++ (W.T ++ (a, o) :: X))) := by
    refine List.Perm.append_left _ ?_
    rw [List.append_assoc]
    refine List.Perm.append_left _ ?_
    show ((a, o) :: (W.T ++ X)).Perm _
    exact List.perm_middle.symm
  exact ⟨⟨m, cs, ms ++ [(a, o)], F, fun p hp' => N p (hp.mem_iff.mp hp'), (hp.map _).nodup_iff.mpr nd, sr.mono le, (mr.mono le).snoc (ho.mono le), by simp [mu]⟩, R.bare, R.os, R.tk⟩
end
noncomputable def fcomp (nx : Nat → PS → Option (Option PV)) (ts : PV → PS → Option (Bool × PS)) (el : PV → PS → Option (PV × PS)) : Nat → Nat → List PV → PS → Option (List PV × PS)
  | 0, _, _, _ => none
  | n + 1, i, acc, σ => match nx i σ with
    | some (some v) => fb (ts v σ) fun b σ => match b with
      | true => fb (el v σ) fun y σ => if acc.length ≤ 4096 then fcomp nx ts el n (i + 1) (acc ++ [y]) σ else none
      | false => fcomp nx ts el n (i + 1) acc σ
    | some none => some (acc, σ)
    | none => none
inductive Cts (G : Gd) (C : Cx) (V : Vw) : List Expr → (PS → Option (Bool × PS)) → Prop
  | nil : Cts G C V [] (fun σ => some (true, σ))
  | one {c f} : Ts G C V c f → Cts G C V [c] f
section
variable {G : Gd} {C : Cx} {V : Vw}
theorem Cts.run {ifs : List Expr} {f : PS → Option (Bool × PS)} (H : Cts G C V ifs f) {W σ X s r σ'} {Q : Bool → Shared → Prop} {E : Value → Shared → Prop} (e : f σ = some (r, σ')) (R : Rel C W σ X s) (ok : V.ok W X) (h : ∀ W' s', W.le W' → Rel C W' σ' X s' → Q r s') :
    wpAny (model G.p G.w) C.A (forIn ifs true fun c r => if r = true then do let ok ← isTrue c V.env (eval c V.env); pure (ForInStep.yield ok) else pure (ForInStep.yield r)) Q E s := by
  cases H with
  | nil => induction e using someC; exact wpAny_tests_nil (h W s (Wd.le_refl _) R)
  | one hc => exact wpAny_tests_one (hc W σ X s r σ' Q E e R ok h)
theorem perm3 {α : Type} (a b c : α) (l : List α) : (a :: b :: c :: l).Perm (b :: a :: c :: l) := List.Perm.swap b a _
theorem perm4 {α : Type} (a b c : α) (l : List α) : (a :: b :: c :: l).Perm (c :: b :: a :: l) := by
  refine (List.Perm.cons a (List.Perm.swap c b l)).trans ?_
  refine (List.Perm.swap c a _).trans ?_
  exact List.Perm.cons c (List.Perm.swap b a l)
inductive CpInv (C : Cx) (W : Wd) (X : Led) (Cn D I : Addr) (ok : Nat → Wd → Obj → Prop) (g : Nat → Nat → List PV → PS → Prop) (k : Nat) (s' : Shared) : Prop
  | mk (W' : Wd) (σ₁ : PS) (i : Nat) (o' oC' : Obj) (m' : Str → Option Value) (xs : List Value) (k' : Nat) (ys : List PV) : W.le W' → ok i W' o' → LCg.NsObj oC' m' → VRels W' ys xs → Rel C W' σ₁ ((Cn, oC') :: (D, listO xs k') :: (I, o') :: X) s' → g k i ys σ₁ → CpInv C W X Cn D I ok g k s'
theorem comp_run (K : COk1 G C) {elt iter : Expr} {x : Str} {px : Pos} {ifs : List Expr} {sc : Scope} {cl : List (Str × Addr)} {pos : Pos} {ts : PV → PS → Option (Bool × PS)} {el : PV → PS → Option (PV × PS)}
    (hcell : ∀ y ∈ sc.names, y.2 ≠ .cell) (hkind : sc.kind = .function) (hx : sc.names.lookup x = some .local)
    (ht : ∀ Cn v, Cts G C (cvw C sc cl Cn x v) ifs (ts v)) (hel : ∀ Cn v, Ev G C (cvw C sc cl Cn x v) elt (el v)) {W σ X s v y q σ' acc} {n : Nat} {E : Value → Shared → Prop} (T : Value → Addr → Result → Shared → Prop)
    (hq : nxOf v 0 σ = some q) (R : Rel C W σ X s) (rv : VRel W v y) (e : fcomp (nxOf v) ts el n 0 [] σ = some (acc, σ'))
    (hT : ∀ W' s' Cn oC D xs k m, W.le W' → Rel C W' σ' ((Cn, oC) :: (D, listO xs k) :: X) s' → VRels W' acc xs → LCg.NsObj oC m → T (.ref D) Cn (.ok .next) s') :
    wpAny (model G.p G.w) C.A (pyIter y) (fun it s₂ => wpAny (model G.p G.w) C.A (newList []) (fun acc s₃ => wpAny (model G.p G.w) C.A (newFunctionEnv sc C.fenv.globals cl [] C.fenv.qual none .none (some C.fenv)) (fun cenv s₄ =>
      codeAny (model G.p G.w) C.A (.compStart (.ListComp elt [⟨.Name x px, iter, ifs, 0⟩] sc pos) 0 it acc { cenv with scope := relabel sc C.fenv }) (T acc cenv.locals) s₄) E s₃) E s₂) E s := by
  refine iter_ok K hq R rv fun I o ok s₁ S hok R₁ => ?_
  refine wpAny_newObj_type ?_
  have R₂ := R₁.allocX (o := { cls := .type "list", dict := none, data := .seq ([] : List Value).toArray }) rfl
  generalize hD : s₁.heap.objs.size = D at R₂ ⊢
  generalize hs₂ : ({ s₁ with heap := s₁.heap.push { cls := .type "list", dict := none, data := .seq ([] : List Value).toArray } } : Shared) = s₂ at R₂ ⊢
  refine wpAny_newFunctionEnv hcell (by intro y hy; simp at hy) (fun h₁ hns₁ hsb₁ => ?_) hkind
  generalize hCn : s₂.heap.objs.size = Cn at hns₁ hsb₁ ⊢
  obtain ⟨oC, heC, hoC⟩ := LCg.ns_obj hns₁
  have fresh : s₂.heap.get? Cn = none := by
    cases e : s₂.heap.get? Cn with
    | none => rfl
    | some o' => have := Heap.lt_size e; rw [hCn] at this; exact absurd this (Nat.lt_irrefl _)
  have old : ∀ b x, s₂.heap.get? b = some x → h₁.get? b = some x := fun b x e => hsb₁.extBut b x (fun q => by rw [q, fresh] at e; exact noneE e) (Heap.get?_push_of_some _ e)
  have R₃ := R₂.freshX (tk := s₂.toks + ([] : List (Str × Value)).length) fresh old heC R₂.tk
  generalize hs₃ : ({ s₂ with heap := h₁, toks := s₂.toks + ([] : List (Str × Value)).length } : Shared) = s₃ at R₃ ⊢
  have loop : codeAny (model G.p G.w) C.A (.compLoop (.ListComp elt [⟨.Name x px, iter, ifs, 0⟩] sc pos) 0 (.ref I) (.ref D) (compEnvC sc cl Cn C.fenv)) (T (.ref D) Cn) s₃ := by
    refine codeAny_compLoop_tests (CpInv C W X Cn D I ok fun k i ys σ₁ => fcomp (nxOf v) ts el k i ys σ₁ = some (acc, σ')) ?_ n (.mk W σ 0 o oC _ [] _ [] (Wd.le_refl _) hok hoC .nil R₃ e)
    rintro k s' ⟨W', σ₁, i, o', oC', m', xs, k', ys, le, hok', hoC', rys, R', e'⟩
    induction k using natC with
    | zero => cases e'
    | succ k =>
      simp only [fcomp] at e'
      split at e'
      · rename_i v' hv'
        refine S.item i W' σ₁ _ s' o' v' _ _ hok' (R'.perm (perm4 _ _ _ _)) hv' fun o₂ z s₄ hok₂ R₄ rz => ?_
        have R₄' := R₄.perm (perm4 _ _ _ _)
        refine fbE e' fun b σ₂ e₁ e₂ => ?_
        refine PySem.wpAny_assign_Name (wpAny_storeName_local (lookup_relabel_local hx) (hoC'.ns (R₄'.getX (.head _))) (fun h₅ hn₅ hs₅ => ?_) (by simp [compEnvC, relabel, hkind]))
        obtain ⟨oC₅, heC₅, hoC₅⟩ := LCg.ns_obj hn₅
        have R₅ := (R₄'.setX hs₅ heC₅).toks (s₄.toks + 1)
        have okc : (cvw C sc cl Cn x v').ok W' ((Cn, oC₅) :: (D, listO xs k') :: (I, o₂) :: X) := ⟨oC₅, _, z, .head _, hoC₅, by simp, rz⟩
        refine (ht Cn v').run e₁ R₅ okc fun W₆ s₆ l₆ R₆ => ?_
        have okc₆ := (cvw C sc cl Cn x v').mono l₆ okc
        induction b using boolC with
        | true =>
          simp only [if_true]
          refine fbE e₂ fun u σ₃ e₃ e₄ => ?_
          split at e₄
          · rename_i hlen
            refine hel Cn v' W₆ σ₂ _ s₆ u σ₃ _ _ e₃ R₆ okc₆ fun W₇ yv s₇ l₇ R₇ ry => ?_
            have rys₇ := (rys.mono l₆).mono l₇
            refine append_at (hsz := by rw [List.size_toArray, ← rys.length]; exact Nat.le_trans hlen size4096) (R₇.getX (.tail _ (.head _))) fun h₈ hs₈ hD₈ => ?_
            rw [List.push_toArray] at hD₈
            have R₈ := ((R₇.perm (perm3 _ _ _ _)).setX hs₈ hD₈).perm (perm3 _ _ _ _)
            exact ⟨k, Nat.lt_succ_self _, .mk W₇ σ₃ (i + 1) o₂ oC₅ _ (xs ++ [yv]) (k' + 1) (ys ++ [u]) (Wd.le_trans le (Wd.le_trans l₆ l₇)) (S.mono (Wd.le_trans l₆ l₇) hok₂) hoC₅ (rys₇.snoc ry) R₈ e₄⟩
          · exact noneE e₄
        | false =>
          simp only [Bool.false_eq_true, if_false]
          exact ⟨k, Nat.lt_succ_self _, .mk W₆ σ₂ (i + 1) o₂ oC₅ _ xs k' ys (Wd.le_trans le l₆) (S.mono l₆ hok₂) hoC₅ (rys.mono l₆) R₆ e₂⟩
      · rename_i hv'
        induction e' using someC
        exact S.done i W' _ _ s' o' _ _ hok' (R'.perm (perm4 _ _ _ _)) hv' fun s₄ R₄ => hT W' s₄ Cn oC' D xs k' m' le (R₄.perm (List.Perm.swap _ _ _)) rys hoC'
      · exact noneE e'
  refine codeAny_compStart_list loop (S.self 0 W σ _ s₃ o _ _ hok (R₃.perm (perm4 _ _ _ _)) loop)
theorem Ev.comp (K : COk1 G C) {elt iter : Expr} {x : Str} {px : Pos} {ifs : List Expr} {sc : Scope} {cl : List (Str × Addr)} {pos : Pos} {fi : PS → Option (PV × PS)} {ts : PV → PS → Option (Bool × PS)} {el : PV → PS → Option (PV × PS)} (n : Nat)
    (hi : Ev G C (fv C) iter fi) (hclos : closureFor sc C.fenv = pure cl) (hcell : ∀ y ∈ sc.names, y.2 ≠ .cell) (hkind : sc.kind = .function)
    (hnames : ∀ y ∈ sc.names, y.2 = .local → sc.names.lookup y.1 = some .local) (hx : sc.names.lookup x = some .local)
    (ht : ∀ Cn v, Cts G C (cvw C sc cl Cn x v) ifs (ts v)) (hel : ∀ Cn v, Ev G C (cvw C sc cl Cn x v) elt (el v)) (hs : ∀ x, foldedSetIterable iter C.fenv x = pure x := by intro _; rfl) :
    Ev G C (fv C) (.ListComp elt [⟨.Name x px, iter, ifs, 0⟩] sc pos) (fun σ => fbf fi σ fun v σ => fb (fcomp (nxOf v) ts el n 0 [] σ) fun acc σ => fnew (.list acc) σ) := by
  intro W σ X s r σ' Q E e R ok h
  refine fbE e fun v σ₁ e₁ e => ?_
  refine fbE e fun acc σ₂ e₂ e₃ => ?_
  have hq : ∃ q, nxOf v 0 σ₁ = some q := by
    induction n using natC with
    | zero => cases e₂
    | succ n =>
      simp only [fcomp] at e₂
      split at e₂
      · rename_i q; exact ⟨_, q⟩
      · rename_i q; exact ⟨_, q⟩
      · exact noneE e₂
  obtain ⟨q, hq⟩ := hq
  show wpAny _ _ (eval (.ListComp elt [⟨.Name x px, iter, ifs, 0⟩] sc pos) C.fenv) _ _ _
  rw [eval_ListComp]
  refine wpAny_comprehension_free (use := none) rfl hs hclos hkind hnames (hi W σ X s v σ₁ _ E e₁ R ok fun W₁ y s₁ l₁ R₁ ry => ?_)
  refine comp_run K hcell hkind hx ht hel _ hq R₁ ry e₂ fun W₂ s₂ Cn oC D xs k m l₂ R₂ rs hoC => ?_
  refine ⟨m, hoC.ns (R₂.getX (.head _)), fun h' hs' => ?_⟩
  have R₃ := R₂.endX (h' := h') (tk := s₂.toks) (fun b x hb e => hs'.extBut b x hb e) R₂.tk
  cases e₃
  refine h ⟨W₂.mu ++ [D], W₂.T⟩ _ _ (Wd.le_trans (Wd.le_trans l₁ l₂) ⟨⟨_, rfl⟩, fun _ h => h⟩) (R₃.promote (.list acc xs k rs)) (.ref _ _ ?_)
  rw [← R₃.len]; simp
end
end Mine
end
section
open PySem PySem.W PyProof.Rows PySem.Calls
namespace Mine
theorem ls1 {xs : List Value} (h : xs.length = 1) : ∃ a, xs = [a] := by
  induction xs using listC with
  | nil => cases h
  | cons a xs => induction xs using listC with
    | nil => exact ⟨a, rfl⟩
    | cons _ _ => cases h
theorem ls2 {xs : List Value} (h : xs.length = 2) : ∃ a b, xs = [a, b] := by
  induction xs using listC with
  | nil => cases h
  | cons a xs => obtain ⟨b, rfl⟩ := ls1 (Nat.succ.inj h); exact ⟨a, b, rfl⟩
theorem ls3 {xs : List Value} (h : xs.length = 3) : ∃ a b c, xs = [a, b, c] := by
  induction xs using listC with
  | nil => cases h
  | cons a xs => obtain ⟨b, c, rfl⟩ := ls2 (Nat.succ.inj h); exact ⟨a, b, c, rfl⟩
noncomputable def FnD.env (d : FnD) (L : Addr) : Env := envX d.qual d.scope L d.f d.cdv d.cl
noncomputable def FnD.nm (d : FnD) : List (Str × Bool) := (d.pn ++ d.rn).map fun x => (x, false)
structure FnOk (G : Gd) (d : FnD) : Prop where
  obj : d ∈ G.fns
  kinds : ∀ x ∈ d.pn ++ d.rn, d.scope.names.lookup x = some .local
  nodup : (d.pn ++ d.rn).Nodup
  nocell : ∀ x ∈ d.scope.names, x.2 ≠ .cell
  co : d.scope.isCoroutine = false
  gen : d.scope.isGenerator = false
  kind : d.scope.kind = .function
  inj : ∀ x y c, d.cl.lookup x = some c → d.cl.lookup y = some c → y = x := by intro x y c h; cases h
  bind : ∀ s xs, G.K.In s.heap → xs.length = d.pn.length → BindsTo s d.fd ⟨xs, []⟩ (d.pn.zip xs)
noncomputable def fnChk (d : FnD) : Bool := ((d.pn ++ d.rn).all fun x => decide (d.scope.names.lookup x = some .local)) && (decide (d.pn ++ d.rn).Nodup && d.scope.names.all fun x => decide (x.2 ≠ .cell))
theorem fnChk_kinds {d : FnD} (h : fnChk d = true) : ∀ x ∈ d.pn ++ d.rn, d.scope.names.lookup x = some .local := fun x hx => of_decide_eq_true (List.all_eq_true.mp (Bool.and_eq_true_iff.mp h).1 x hx)
theorem fnChk_nodup {d : FnD} (h : fnChk d = true) : (d.pn ++ d.rn).Nodup := of_decide_eq_true (Bool.and_eq_true_iff.mp (Bool.and_eq_true_iff.mp h).2).1
theorem fnChk_nocell {d : FnD} (h : fnChk d = true) : ∀ x ∈ d.scope.names, x.2 ≠ .cell := fun x hx => of_decide_eq_true (List.all_eq_true.mp (Bool.and_eq_true_iff.mp (Bool.and_eq_true_iff.mp h).2).2 x hx)
noncomputable def cxF (C : Cx) (d : FnD) (L : Addr) (g : Heap) : Cx :=
  { A := C.A.deeper (d.env L), A₀ := C.A, base := C.base, outer := C.fenv :: C.outer, h₀ := g, L := L, fenv := d.env L, nm := d.nm, ac := C.ac, os := C.os, lv := C.lv - 1 }
theorem cxF_ok {G : Gd} {C : Cx} {d : FnD} (K : COk1 G C) (D : FnOk G d) {L : Addr} {g : Heap} (B : Below C.A C.base (C.fenv :: C.outer) g) (st : C.h₀.StaysIn g) (hlv : 0 < C.lv) : COk1 G (cxF C d L g) where
  below := B
  frames := Around.frames_deeper K.frames
  frame := rfl
  kind := D.kind
  handled := K.handled
  nm := by
    show ((d.nm).map (·.1)).Nodup
    unfold FnD.nm
    rw [List.map_map]
    have : ((fun x : Str × Bool => x.1) ∘ fun x : Str => (x, false)) = id := rfl
    rw [this, List.map_id]; exact D.nodup
  globals := rfl
  builtins := rfl
  locals := rfl
  gd := K.gd.keeps st
  cells := by
    intro x b hm
    obtain ⟨y, hy, e⟩ := List.mem_map.mp (show (x, b) ∈ d.nm from hm)
    cases e
    exact D.kinds x hy
  room := by
    have := K.room
    show C.A.depth + 1 + (C.lv - 1) < _
    omega
  inj := D.inj
  acp := K.acp
  acC := K.acC
  acP := K.acP
  acw := K.acw
  units := by
    have := K.units
    show C.A.units + 3 + 3 * (C.lv - 1) + 8 < _
    omega
theorem SRel.nones {W : Wd} {cl : List (Str × Addr)} {m : Str → Option Value} {cs : Led} (rn : List Str) : SRel W cl m cs (rn.map fun x => (x, false)) (rn.map fun _ => none) := by
  induction rn with
  | nil => exact .nil
  | cons x r ih => exact .loc (fun pv e => nomatch e) ih
theorem SRel.of {W : Wd} {cl : List (Str × Addr)} {m : Str → Option Value} {cs : Led} {rn : List Str} {pn : List Str} {vs : List PV} {xs : List Value} (h : pn.length = vs.length) (r : VRels W vs xs) (hm : ∀ x y, (x, y) ∈ pn.zip xs → m x = some y) :
    SRel W cl m cs ((pn ++ rn).map fun x => (x, false)) (vs.map some ++ rn.map fun _ => none) := by
  induction r using VRels.ind generalizing pn with
  | nil =>
    obtain rfl : pn = [] := List.eq_nil_of_length_eq_zero h
    exact SRel.nones rn
  | cons r rs ih =>
    induction pn using listC with
    | nil => cases h
    | cons x pn => exact .loc (fun pv e => by induction e using some1C; exact ⟨_, hm _ _ (.head _), r⟩) (ih (Nat.succ.inj h) fun x y hx => hm x y (.tail _ hx))
theorem lookup_zip {pn : List Str} {xs : List Value} (nd : pn.Nodup) {x : Str} {y : Value} (h : (x, y) ∈ pn.zip xs) : ((pn.zip xs).reverse).lookup x = some y := by
  have key : ∀ (l : List (Str × Value)), (l.map (·.1)).Nodup → (x, y) ∈ l → l.lookup x = some y := by
    intro l
    induction l with
    | nil => intro _ h; cases h
    | cons p l ih =>
      intro nd h
      obtain ⟨a, b⟩ := p
      rw [List.map_cons, List.nodup_cons] at nd
      rcases List.mem_cons.mp h with e | h
      · cases e; simp
      · have : x ≠ a := fun q => nd.1 (q ▸ List.mem_map.mpr ⟨_, h, rfl⟩)
        rw [List.lookup_cons, show (x == a) = false by simpa using this]
        exact ih nd.2 h
  refine key _ ?_ (List.mem_reverse.mpr h)
  rw [List.map_reverse]
  refine (List.reverse_perm _).nodup_iff.mpr ?_
  refine List.Nodup.sublist ?_ nd
  clear key h nd
  induction pn generalizing xs with
  | nil => exact .slnil
  | cons a pn ih =>
    induction xs using listC with
    | nil => exact List.nil_sublist _
    | cons b xs => exact (ih (xs := xs)).cons₂ a
noncomputable def fcall (d : FnD) (F : PS → Option (Fl × PS)) (vs : List PV) (σ : PS) : Option (PV × PS) :=
  if vs.length = d.pn.length then
    match F ⟨vs.map some ++ d.rn.map fun _ => none, σ.mem⟩ with
    | some (.ret v, σ') => some (v, ⟨σ.vars, σ'.mem⟩)
    | some (.next, σ') => some (.none, ⟨σ.vars, σ'.mem⟩)
    | _ => none
  else none
end Mine
end
section
open PySem PySem.W PyProof.Rows PySem.Calls
namespace Mine
noncomputable def idxOk (k : Int) : Bool := decide (-4096 ≤ k) && decide (k ≤ 4096)
noncomputable def fgi : PV → PV → PS → Option (PV × PS)
  | .str x, .int k, σ => if idxOk k = true then (seqIndex? k x.length).bind fun j => x[j]?.map fun c => (.str [c], σ) else none
  | .tup vs, .int k, σ => if idxOk k = true then (seqIndex? k vs.length).bind fun j => vs[j]?.map fun v => (v, σ) else none
  | .ref l, .int k, σ => match σ.mem[l]? with
    | some (.list xs) => if idxOk k = true then (seqIndex? k xs.length).bind fun j => xs[j]?.map fun v => (v, σ) else none
    | _ => none
  | .ref l, .str key, σ => match σ.mem[l]? with
    | some (.dict es) => (es.lookup key).map fun v => (v, σ)
    | _ => none
  | _, _, _ => none
noncomputable def dstore (es : List (List Nat × PV)) (k : List Nat) (v : PV) : List (List Nat × PV) :=
  if es.any (fun kv => kv.1 = k) then es.map (fun kv => if kv.1 = k then (kv.1, v) else kv) else es ++ [(k, v)]
noncomputable def fsi : PV → PV → PV → PS → Option PS
  | .ref l, .int k, v, σ => match σ.mem[l]? with
    | some (.list xs) => if idxOk k = true then (seqIndex? k xs.length).map fun j => ⟨σ.vars, σ.mem.set l (.list (xs.set j v))⟩ else none
    | _ => none
  | .ref l, .str key, v, σ => match σ.mem[l]? with
    | some (.dict es) => if es.length ≤ 4096 then some ⟨σ.vars, σ.mem.set l (.dict (dstore es key v))⟩ else none
    | _ => none
  | _, _, _, _ => none
noncomputable def fdi : PV → PV → PS → Option PS
  | .ref l, .int k, σ => match σ.mem[l]? with
    | some (.list xs) => if idxOk k = true ∧ xs.length ≤ 4096 then (seqIndex? k xs.length).map fun j => ⟨σ.vars, σ.mem.set l (.list (xs.eraseIdx j))⟩ else none
    | _ => none
  | _, _, _ => none
theorem idxOk_le {k : Int} (h : idxOk k = true) : -4096 ≤ k ∧ k ≤ 4096 := by
  unfold idxOk at h
  simp only [Bool.and_eq_true, decide_eq_true_eq] at h
  exact h
theorem seqIdx {k : Int} {n j : Nat} (h : seqIndex? k n = some j) : j < n ∧ ((0 ≤ k ∧ k.toNat = j) ∨ (k < 0 ∧ -(n : Int) ≤ k ∧ (k + n).toNat = j)) := by
  unfold seqIndex? at h
  by_cases hk : k < 0
  · simp only [if_pos hk] at h
    by_cases q : 0 ≤ k + (n : Int) ∧ k + (n : Int) < n
    · rw [if_pos (by simpa using q)] at h
      injection h with h
      exact ⟨by omega, .inr ⟨hk, by omega, h⟩⟩
    · rw [if_neg (by simpa using q)] at h; exact noneE h
  · simp only [if_neg hk] at h
    by_cases q : 0 ≤ k ∧ k < n
    · rw [if_pos (by simpa using q)] at h
      injection h with h
      exact ⟨by omega, .inl ⟨by omega, h⟩⟩
    · rw [if_neg (by simpa using q)] at h; exact noneE h
theorem mkS'_inj {a b : List Nat} (h : mkS' a = mkS' b) : a = b := by
  have := congrArg (fun s : Str => s.cps.toList) h
  simpa using this
section
variable {W : Wd}
theorem DRel.find {es : List (List Nat × PV)} {ds : List (Str × Value)} {key : List Nat} {v : PV} (r : DRel W es ds) (e : es.lookup key = some v) : ∃ x, valueAt ds (mkS' key) = some x ∧ VRel W v x := by
  induction r with
  | nil => cases e
  | @cons k v' x es ds rv _ ih =>
    rw [List.lookup_cons] at e
    by_cases hk : key = k
    · subst hk
      rw [show (key == key) = true by simp] at e
      induction e using some1C
      exact ⟨x, by simp [valueAt], rv⟩
    · rw [show (key == k) = false by simpa using hk] at e
      obtain ⟨y, hy, ry⟩ := ih e
      refine ⟨y, ?_, ry⟩
      have : ¬ mkS' k = mkS' key := fun q => hk (mkS'_inj q).symm
      simpa [valueAt, List.find?_cons, this] using hy
theorem DRel.any {es : List (List Nat × PV)} {ds : List (Str × Value)} {key : List Nat} (r : DRel W es ds) : es.any (fun kv => kv.1 = key) = ds.any (fun kv => kv.1 = mkS' key) := by
  induction r with
  | nil => rfl
  | @cons k v x es ds rv _ ih =>
    rw [List.any_cons, List.any_cons, ih]
    congr 1
    by_cases hk : k = key
    · subst hk; simp
    · have : ¬ mkS' k = mkS' key := fun q => hk (mkS'_inj q)
      simp [hk, this]
theorem DRel.app {es es' : List (List Nat × PV)} {ds ds' : List (Str × Value)} (r : DRel W es ds) (r' : DRel W es' ds') : DRel W (es ++ es') (ds ++ ds') := by
  induction r with
  | nil => exact r'
  | cons rv _ ih => exact .cons rv ih
theorem DRel.map {es : List (List Nat × PV)} {ds : List (Str × Value)} {key : List Nat} {v : PV} {x : Value} (r : DRel W es ds) (rv : VRel W v x) : DRel W (es.map (fun kv => if kv.1 = key then (kv.1, v) else kv)) (ds.map (fun kv => if kv.1 = mkS' key then (kv.1, x) else kv)) := by
  induction r with
  | nil => exact .nil
  | @cons k v' x' es ds rv' _ ih =>
    rw [List.map_cons, List.map_cons]
    by_cases hk : k = key
    · subst hk
      rw [if_pos rfl, if_pos rfl]
      exact .cons rv ih
    · have : ¬ mkS' k = mkS' key := fun q => hk (mkS'_inj q)
      rw [if_neg hk, if_neg this]
      exact .cons rv' ih
theorem DRel.store {es : List (List Nat × PV)} {ds : List (Str × Value)} {key : List Nat} {v : PV} {x : Value} (r : DRel W es ds) (rv : VRel W v x) : DRel W (dstore es key v) (stored ds (mkS' key) x) := by
  unfold dstore stored
  rw [r.any]
  split
  · exact r.map rv
  · exact r.app (.cons rv .nil)
theorem DRel.length {es : List (List Nat × PV)} {ds : List (Str × Value)} (r : DRel W es ds) : es.length = ds.length := by
  induction r with
  | nil => rfl
  | cons _ _ ih => rw [List.length_cons, List.length_cons, ih]
end
theorem isStr_mk {p : Program} {w : World} (k : List Nat) (t : Tok) : (strKind p w).is (mkS' k) (.str (mkS' k) t) = true := by
  simp [PySem.strKind, PySem.Value.isStrOf]
section
variable {G : Gd} {C : Cx} {V : Vw}
theorem Op2.gi (K : COk1 G C) : Op2 G C getItem fgi := by
  intro W σ X s a b x y r σ' Q E e R ra rb h
  unfold fgi at e
  split at e
  · split at e
    · rename_i hk
      obtain ⟨j, hj, e⟩ := Option.bind_eq_some_iff.mp e
      obtain ⟨c, hc, e⟩ := Option.map_eq_some_iff.mp e
      induction ra using VRel.strC; induction rb using VRel.intC; cases e
      have hk := idxOk_le hk
      refine P.getItem_str (c := c) (by simp; omega) ?_ (h W _ _ (Wd.le_refl _) (R.toks _) (.str [c] _))
      rw [mkS'_len, hj]
      simpa [mkS'] using hc
    · exact noneE e
  · split at e
    · rename_i hk
      obtain ⟨j, hj, e⟩ := Option.bind_eq_some_iff.mp e
      obtain ⟨c, hc, e⟩ := Option.map_eq_some_iff.mp e
      cases e
      have hk := idxOk_le hk
      induction ra using VRel.tupC with
      | tup xs t hm rv =>
        induction rb using VRel.intC
        obtain ⟨z, hz, rz⟩ := rv.get hc
        refine getItem_tuple (items := xs.toArray) (j := j) ⟨_, R.getT hm, rfl, _, rfl⟩ (by omega) (by omega) ?_ (by simpa using hz) (h W z s (Wd.le_refl _) R rz)
        rw [List.size_toArray, ← rv.length]; exact hj
    · exact noneE e
  · split at e
    · rename_i xs hx
      split at e
      · rename_i hk
        obtain ⟨j, hj, e⟩ := Option.bind_eq_some_iff.mp e
        obtain ⟨c, hc, e⟩ := Option.map_eq_some_iff.mp e
        cases e
        have hk := idxOk_le hk
        induction ra using VRel.refC with
        | ref ad ha =>
          induction rb using VRel.intC
          refine Rel.getME R hx ha fun o ho ro => ?_
          induction ro using ORel.listC with
          | list vs n rv =>
            obtain ⟨z, hz, rz⟩ := rv.get hc
            obtain ⟨hlt, hcase⟩ := seqIdx hj
            rcases hcase with ⟨h0, rfl⟩ | ⟨h0, h1, h2⟩
            · exact wpAny_getItem_list ⟨_, ho, rfl, _, rfl⟩ h0 (by omega) (by simpa using hz) (h W z s (Wd.le_refl _) R rz)
            · refine wpAny_getItem_list_neg ⟨_, ho, rfl, _, rfl⟩ h0 ?_ (by omega) ?_ (h W z s (Wd.le_refl _) R rz)
              · rw [List.size_toArray, ← rv.length]; exact h1
              · rw [List.size_toArray, ← rv.length, h2]; simpa using hz
      · exact noneE e
    · exact noneE e
  · split at e
    · rename_i es hx
      obtain ⟨v, hv, e⟩ := Option.map_eq_some_iff.mp e
      cases e
      induction ra using VRel.refC with
      | ref ad ha =>
        induction rb using VRel.strC
        refine Rel.getME R hx ha fun o ho ro => ?_
        induction ro using ORel.dictC with
        | dict ds rd dd =>
          obtain ⟨z, hz, rz⟩ := rd.find hv
          obtain ⟨es', ep, d1, d2, d3, d4, d5⟩ := dd
          rw [K.acp, K.acw] at d3 d4
          exact wpAny_getItem_of (knd := strKind G.p G.w) (isStr_mk _ _) (Heap.DictOf.mapOf ⟨o, es', ep, ho, d1, d2, d3, d4, d5⟩) hz (h W z _ (Wd.le_refl _) (R.toks _) rz)
    · exact noneE e
  · exact noneE e
theorem sameUpd {h : Heap} {l : Addr} {vs : List Value} {n : Nat} (ho : h.get? l = some (listO vs n)) (j : Nat) (v : Value) : (h.update l (Obj.mapSeq (·.setIfInBounds j v))).get? l = some (listO (vs.set j v) n) := by
  have e : (listO vs n).mapSeq (·.setIfInBounds j v) = listO (vs.set j v) n := by
    unfold listO Obj.mapSeq
    simp
  rw [Heap.get?_update_self _ ho (by rw [e]; rfl), e]
theorem si_ok (K : COk1 G C) {W σ X s} {a k v : PV} {x y z : Value} {σ' : PS} {Q : Unit → Shared → Prop} {E : Value → Shared → Prop} (e : fsi a k v σ = some σ') (R : Rel C W σ X s) (ra : VRel W a x) (rk : VRel W k y) (rv : VRel W v z)
    (h : ∀ s', Rel C W σ' X s' → Q () s') : wpAny (model G.p G.w) C.A (setItem x y z) Q E s := by
  unfold fsi at e
  split at e
  · split at e
    · rename_i xs hx
      split at e
      · rename_i hk
        obtain ⟨j, hj, e⟩ := Option.map_eq_some_iff.mp e
        cases e
        have hk := idxOk_le hk
        induction ra using VRel.refC with
        | ref ad ha =>
          induction rk using VRel.intC
          refine Rel.getME R hx ha fun o ho ro => ?_
          induction ro using ORel.listC with
          | list vs n rvs =>
            obtain ⟨hlt, hcase⟩ := seqIdx hj
            have fin : ∀ j', j' = j → Q () { s with heap := s.heap.update ad (Obj.mapSeq (·.setIfInBounds j' z)) } := by
              rintro _ rfl
              exact h _ (R.setM hx ha (Heap.SameBut.update ..) (sameUpd ho _ z) (.list _ _ n (rvs.set rv)))
            rcases hcase with ⟨h0, h2⟩ | ⟨h0, h1, h2⟩
            · refine ki_setAt ho h0 (by omega) ?_ (fin _ h2)
              rw [List.size_toArray, ← rvs.length]; omega
            · refine ki_setBack ho h0 ?_ (by omega) (fin _ ?_)
              · rw [List.size_toArray, ← rvs.length]; exact h1
              · rw [List.size_toArray, ← rvs.length]; exact h2
      · exact noneE e
    · exact noneE e
  · split at e
    · rename_i es hx
      split at e
      · rename_i hlen
        induction e using some1C
        induction ra using VRel.refC with
        | ref ad ha =>
          induction rk using VRel.strC
          refine Rel.getME R hx ha fun o ho ro => ?_
          induction ro using ORel.dictC with
          | dict ds rd dd =>
            obtain ⟨es', ep, d1, d2, d3, d4, d5⟩ := dd
            rw [K.acp, K.acw] at d3 d4
            refine wpAny_setItem_pairs (knd := strKind G.p G.w) (kvs := ds) (isStr_mk _ _) ⟨o, es', ep, ho, d1, d2, d3, d4, d5⟩ (fun h' hd hs => ?_) (by rw [← rd.length]; exact Nat.le_trans hlen size4096)
            obtain ⟨o', es₂, ep₂, ho₂, e1, e2, e3, e4, e5⟩ := hd
            have := (R.setM (o' := o') hx ha hs ho₂ (.dict _ _ _ (rd.store rv) ⟨es₂, ep₂, e1, e2, by rw [K.acp, K.acw]; exact e3, by rw [K.acp, K.acw]; exact e4, e5⟩)).toks (s.toks + 1)
            exact h _ this
      · exact noneE e
    · exact noneE e
  · exact noneE e
theorem di_ok {W σ X s} {a k : PV} {x y : Value} {σ' : PS} {Q : Unit → Shared → Prop} {E : Value → Shared → Prop} (e : fdi a k σ = some σ') (R : Rel C W σ X s) (ra : VRel W a x) (rk : VRel W k y)
    (h : ∀ s', Rel C W σ' X s' → Q () s') : wpAny (model G.p G.w) C.A (delItem x y) Q E s := by
  unfold fdi at e
  split at e
  · split at e
    · rename_i xs hx
      split at e
      · rename_i hk
        obtain ⟨j, hj, e⟩ := Option.map_eq_some_iff.mp e
        cases e
        obtain ⟨hk, hlen⟩ := hk
        have hk := idxOk_le hk
        induction ra using VRel.refC with
        | ref ad ha =>
          induction rk using VRel.intC
          refine Rel.getME R hx ha fun o ho ro => ?_
          induction ro using ORel.listC with
          | list vs n rvs =>
            refine delItem_at (k := j) ho ?_ (by rw [List.size_toArray, ← rvs.length]; exact hj) (fun h' hs ho' => h _ (R.setM hx ha hs ho' ?_)) (by rw [List.size_toArray, ← rvs.length]; exact Nat.le_trans hlen size4096)
            · unfold Builtin.List.listFitsIndex
              simp; omega
            · refine .list _ _ (n + 1) ?_
              have : ∀ {ps : List PV} {qs : List Value} (i : Nat), VRels W ps qs → VRels W (ps.eraseIdx i) (qs.eraseIdx i) := by
                intro ps qs i r
                induction i generalizing ps qs with
                | zero => cases r with
                  | nil => exact .nil
                  | cons _ rs => exact rs
                | succ i ih => cases r with
                  | nil => exact .nil
                  | cons r rs => exact .cons r (ih rs)
              exact this j rvs
      · exact noneE e
    · exact noneE e
  · exact noneE e
end
end Mine
end
section
open PySem PySem.W PyProof.Rows PySem.Calls
namespace Mine
noncomputable def funpack : PV → Nat → PS → Option (List PV)
  | .tup vs, n, _ => if vs.length = n then some vs else none
  | .ref l, n, σ => match σ.mem[l]? with
    | some (.list vs) => if vs.length = n then some vs else none
    | _ => none
  | _, _, _ => none
noncomputable def fsets : List Nat → List PV → PS → PS
  | i :: is, v :: vs, σ => fsets is vs (fset i v σ)
  | _, _, σ => σ
inductive Tns (C : Cx) : List Expr → List Nat → Prop
  | nil : Tns C [] []
  | cons {x : Str} {b : Bool} {p : Pos} {i : Nat} {es : List Expr} {is : List Nat} : C.nm[i]? = some (x, b) → Tns C es is → Tns C (.Name x p :: es) (i :: is)
inductive Tnb (C : Cx) : List Str → List Nat → Prop
  | nil : Tnb C [] []
  | cons {x : Str} {b : Bool} {i : Nat} {es : List Str} {is : List Nat} : C.nm[i]? = some (x, b) → Tnb C es is → Tnb C (x :: es) (i :: is)
section
variable {C : Cx} {W W' : Wd} {σ σ' : PS} {X X' : Led} {s : Shared}
theorem Rel.ext (R : Rel C W σ X s) {h' : Heap} (he : Heap.ExtBut s.heap.objs.size s.heap h') : Rel C W σ X { s with heap := h' } :=
  R.grown fun b o e => he b o (Nat.ne_of_lt (Heap.lt_size e)) e
end
section
variable {G : Gd} {C : Cx} {V : Vw}
theorem getType {a b : PV} {W σ X s} {x : Value} {r : PV × PS} (e : fgi a b σ = some r) (R : Rel C W σ X s) (ra : VRel W a x) : ∃ T id, typeLookup (.type T) "__getitem__" = pure (some (.builtin id)) ∧ s.TypeIs x T := by
  unfold fgi at e
  split at e
  · induction ra using VRel.strC; exact ⟨"str", _, F.slot_str_getitem.lookup, typeIs_str _ _ _⟩
  · induction ra using VRel.tupC with
    | tup xs t hm rv => exact ⟨"tuple", _, slot_tuple_getitem.lookup, ⟨_, R.getT hm, rfl⟩⟩
  · split at e
    · rename_i xs hx
      induction ra using VRel.refC with
      | ref ad ha =>
        refine Rel.getME R hx ha fun o ho ro => ?_
        induction ro using ORel.listC
        exact ⟨"list", _, list_getitem_lookup, ⟨_, ho, rfl⟩⟩
    · exact noneE e
  · split at e
    · rename_i es hx
      induction ra using VRel.refC with
      | ref ad ha =>
        refine Rel.getME R hx ha fun o ho ro => ?_
        induction ro using ORel.dictC with
        | dict ds rd dd =>
          obtain ⟨_, _, d1, _⟩ := dd
          exact ⟨"dict", _, F.slot_dict_getitem.lookup, ⟨_, ho, d1.1⟩⟩
    · exact noneE e
  · exact noneE e
theorem Ev.sub (K : COk1 G C) {value slice : Expr} {p : Pos} {f g : PS → Option (PV × PS)} (hv : Ev G C V value f) (hi : Ev G C V slice g) (hsl : ∀ o i, subscripted slice false o i = operate [o, i] (getItem o i) := by intro _ _; rfl) :
    Ev G C V (.Subscript value slice p) (fun σ => fbf f σ fun a σ => fbf g σ fun b σ => fgi a b σ) := by
  intro W σ X s r σ' Q E e R ok h
  refine fbE e fun a σ₁ e₁ e' => ?_
  refine fbE e' fun b σ₂ e₂ e₃ => ?_
  rw [eval_Subscript]
  refine wpAny_bind (hv W σ X s a σ₁ _ E e₁ R ok fun W₁ o s₁ l₁ R₁ r₁ => wpAny_bind (wpAny_holding (hi W₁ σ₁ X s₁ b σ₂ _ E e₂ R₁ (V.mono l₁ ok) fun W₂ i s₂ l₂ R₂ r₂ => wpAny_bind (wpAny_standAt ?_))))
  obtain ⟨T, id, hl, hT⟩ := getType e₃ R₂ (r₁.mono l₂)
  refine wpAny_bind ?_
  rw [getitemInPython_of_ne hT.not_modules]
  refine wpAny_bind (wpAny_specialOf hT hl ?_)
  have fin : wpAny (model G.p G.w) C.A (subscripted slice false o i) (fun r s₃ => wpAny (model G.p G.w) C.A (letTemporaryGo value o r >>= fun _ => pure r) Q E s₃) E s₂ := by
    rw [hsl]
    exact wpAny_operating (Op2.gi K W₂ σ₂ X s₂ a b o i r σ' _ E e₃ R₂ (r₁.mono l₂) r₂ fun W₃ z s₃ l₃ R₃ r₃ => wpAny_bind (wpAny_letTemporaryGo (wpAny_pure (h W₃ z s₃ (Wd.le_trans l₁ (Wd.le_trans l₂ l₃)) R₃ r₃))))
  exact wpAny_pure (wpAny_bind fin)
theorem X1.setSub (K : COk1 G C) {o i value : Expr} {p' p : Pos} {fo fi f : PS → Option (PV × PS)} (ho : Ev G C (fv C) o fo) (hi : Ev G C (fv C) i fi) (hv : Ev G C (fv C) value f) (hs : swapsWith value (some (.Subscript o i p')) p.line C.fenv = pure false := by rfl) :
    X1 G C (.Assign [.Subscript o i p'] value p) (fun σ => fbf f σ fun v σ => fbf fo σ fun a σ => fbf fi σ fun k σ => match fsi a k v σ with | some σ => some (.next, σ) | none => none) := by
  intro W σ X s r σ' Q E e R h
  refine fbE e fun v σ₁ e₁ e' => ?_
  refine fbE e' fun a σ₂ e₂ e'' => ?_
  refine fbE e'' fun k σ₃ e₃ e₄ => ?_
  split at e₄
  · rename_i σ₄ h₄
    induction e₄ using someC
    exact wpAny_Assign_Subscript (hv W σ X s v σ₁ _ E e₁ R trivial fun W₁ x s₁ l₁ R₁ r₁ => ho W₁ σ₁ X s₁ a σ₂ _ E e₂ R₁ trivial fun W₂ y s₂ l₂ R₂ r₂ => hi W₂ σ₂ X s₂ k σ₃ _ E e₃ R₂ trivial fun W₃ z s₃ l₃ R₃ r₃ =>
      si_ok K h₄ R₃ (r₂.mono l₃) r₃ (r₁.mono (Wd.le_trans l₂ l₃)) fun s' R' => h W₃ _ s' (Wd.le_trans l₁ (Wd.le_trans l₂ l₃)) R' .next) hs
  · exact noneE e₄
theorem X1.augSub (K : COk1 G C) {o i value : Expr} {p' p : Pos} {op : Operator} {fo fi f : PS → Option (PV × PS)} {oo : PV → PV → PS → Option (PV × PS)} (ho : Ev G C (fv C) o fo) (hi : Ev G C (fv C) i fi) (hv : Ev G C (fv C) value f) (hoo : Op2 G C (inplaceOp op) oo)
    (hst : ∀ ov iv new, augStore i ov iv new = (do holding [new, ov, iv] (setItem ov iv new); release [new, ov, iv] []; pure .next) := by intros; rfl) :
    X1 G C (.AugAssign (.Subscript o i p') op value p) (fun σ => fbf fo σ fun a σ => fbf fi σ fun k σ => fb (fgi a k σ) fun old σ => fbf f σ fun v σ => fb (oo old v σ) fun w σ => match fsi a k w σ with | some σ => some (.next, σ) | none => none) := by
  intro W σ X s r σ' Q E e R h
  refine fbE e fun a σ₁ e₁ e' => ?_
  refine fbE e' fun k σ₂ e₂ e' => ?_
  refine fbE e' fun old σ₃ e₃ e' => ?_
  refine fbE e' fun v σ₄ e₄ e' => ?_
  refine fbE e' fun w σ₅ e₅ e₆ => ?_
  split at e₆
  · rename_i σ₆ h₆
    induction e₆ using someC
    exact wpAny_AugAssign_SubscriptAny (ho W σ X s a σ₁ _ E e₁ R trivial fun W₁ x s₁ l₁ R₁ r₁ => hi W₁ σ₁ X s₁ k σ₂ _ E e₂ R₁ trivial fun W₂ y s₂ l₂ R₂ r₂ =>
      Op2.gi K W₂ σ₂ X s₂ a k x y old σ₃ _ E e₃ R₂ (r₁.mono l₂) r₂ fun W₃ z s₃ l₃ R₃ r₃ => hv W₃ σ₃ X s₃ v σ₄ _ E e₄ R₃ trivial fun W₄ u s₄ l₄ R₄ r₄ =>
      hoo W₄ σ₄ X s₄ old v z u w σ₅ _ E e₅ R₄ (r₃.mono l₄) r₄ fun W₅ q s₅ l₅ R₅ r₅ =>
      have l₂₅ := Wd.le_trans l₃ (Wd.le_trans l₄ l₅)
      si_ok K h₆ R₅ (r₁.mono (Wd.le_trans l₂ l₂₅)) (r₂.mono l₂₅) r₅ fun s' R' => h W₅ _ s' (Wd.le_trans l₁ (Wd.le_trans l₂ l₂₅)) R' .next) hst
  · exact noneE e₆
theorem X1.delSub {o i : Expr} {p' p : Pos} {fo fi : PS → Option (PV × PS)} (ho : Ev G C (fv C) o fo) (hi : Ev G C (fv C) i fi) :
    X1 G C (.Delete [.Subscript o i p'] p) (fun σ => fbf fo σ fun a σ => fbf fi σ fun k σ => match fdi a k σ with | some σ => some (.next, σ) | none => none) := by
  intro W σ X s r σ' Q E e R h
  refine fbE e fun a σ₁ e₁ e' => ?_
  refine fbE e' fun k σ₂ e₂ e₃ => ?_
  split at e₃
  · rename_i σ₃ h₃
    induction e₃ using someC
    exact wpAny_Delete (wpAny_deleteEach_cons (wpAny_delete_Subscript (ho W σ X s a σ₁ _ E e₁ R trivial fun W₁ x s₁ l₁ R₁ r₁ => hi W₁ σ₁ X s₁ k σ₂ _ E e₂ R₁ trivial fun W₂ y s₂ l₂ R₂ r₂ =>
      di_ok h₃ R₂ (r₁.mono l₂) r₂ fun s' R' => wpAny_deleteEach_nil (h W₂ _ s' (Wd.le_trans l₁ l₂) R' .next))))
  · exact noneE e₃
theorem unp_ok (K : COk1 G C) {v : PV} {x : Value} {n : Nat} {vs : List PV} {W σ X s} {Q : List Value → Shared → Prop} {E : Value → Shared → Prop} (e : funpack v n σ = some vs) (R : Rel C W σ X s) (rv : VRel W v x) (h : ∀ xs s', Rel C W σ X s' → VRels W vs xs → Q xs s') :
    wpAny (model G.p G.w) C.A (unpackItems x n none) Q E s := by
  unfold funpack at e
  split at e
  · split at e
    · rename_i hl
      induction e using some1C
      induction rv using VRel.tupC with
      | tup xs t hm r =>
        have hn : n = xs.toArray.size := by rw [List.size_toArray, ← r.length]; exact hl.symm
        subst hn
        exact unpackItems_tuple K.handled ⟨_, R.getT hm, rfl, _, rfl⟩ fun h' he => h _ _ (R.ext he) r
    · exact noneE e
  · split at e
    · rename_i xs hx
      split at e
      · rename_i hl
        induction e using some1C
        induction rv using VRel.refC with
        | ref ad ha =>
          refine Rel.getME R hx ha fun o ho ro => ?_
          induction ro using ORel.listC with
          | list ys k r =>
            have hn : n = ys.toArray.size := by rw [List.size_toArray, ← r.length]; exact hl.symm
            subst hn
            exact kun_itemsOf K.handled ⟨_, ho, rfl, _, rfl⟩ fun h' he => h _ _ (R.ext he) r
      · exact noneE e
    · exact noneE e
  · exact noneE e
theorem Tns.each {env : Env} {es : List Expr} {is : List Nat} (T : Tns C es is) : (assignEach es env).length = is.length ∧ (assignEach es env).findIdx? (·.1) = none := by
  induction T with
  | nil => exact ⟨rfl, rfl⟩
  | cons _ _ ih =>
    refine ⟨?_, ?_⟩
    · show (_ :: assignEach _ env).length = _
      rw [List.length_cons, ih.1, List.length_cons]
    · show (List.findIdx? (fun x => x.1) ((false, _) :: assignEach _ env)) = none
      simp [List.findIdx?_cons, ih.2]
theorem Tns.run (K : COk1 G C) {es : List Expr} {is : List Nat} (T : Tns C es is) : ∀ {W σ X s} {vs : List PV} {xs : List Value} {Q : Unit → Shared → Prop} {E : Value → Shared → Prop}, Rel C W σ X s → VRels W vs xs → (∀ s', Rel C W (fsets is vs σ) X s' → Q () s') →
    wpAny (model G.p G.w) C.A (assignInOrder ((assignEach es C.fenv).map (·.2)) xs) Q E s := by
  induction T with
  | nil => intro W σ X s vs xs Q E R rs h; exact assignInOrder_nil (h s R)
  | cons hn _ ih =>
    intro W σ X s vs xs Q E R rs h
    cases rs with
    | nil => exact wpAny_pure (h s R)
    | cons r rs =>
      refine assignInOrder_cons ?_
      exact PySem.wpAny_assign_Name (st_var K.toCOk K.inj hn R r fun s' R' => ih R' rs h)
theorem Tnb.run (K : COk1 G C) {es : List Str} {is : List Nat} (T : Tnb C es is) : ∀ {W σ X s} {vs : List PV} {xs : List Value} {Q : Unit → Shared → Prop} {E : Value → Shared → Prop}, Rel C W σ X s → VRels W vs xs → (∀ s', Rel C W (fsets is vs σ) X s' → Q () s') →
    wpAny (model G.p G.w) C.A (assignInOrder (es.map fun n => bindName C.fenv n) xs) Q E s := by
  induction T with
  | nil => intro W σ X s vs xs Q E R rs h; exact assignInOrder_nil (h s R)
  | cons hn _ ih =>
    intro W σ X s vs xs Q E R rs h
    cases rs with
    | nil => exact wpAny_pure (h s R)
    | cons r rs =>
      refine assignInOrder_cons ?_
      exact bindName_ (st_var K.toCOk K.inj hn R r fun s' R' => ih R' rs h)
theorem VRels.rev {W : Wd} {vs : List PV} {xs : List Value} (r : VRels W vs xs) : VRels W vs.reverse xs.reverse := by
  induction vs generalizing xs with
  | nil => induction r using VRels.nilC; exact .nil
  | cons v vs ih => induction r using VRels.consC with
    | cons r rs => rw [List.reverse_cons, List.reverse_cons]; exact (ih rs).snoc r
theorem X1.tup (K : COk1 G C) {es : List Expr} {is : List Nat} {k : Nat} {p' p : Pos} {value : Expr} {f : PS → Option (PV × PS)} (T : Tns C es is) (hv : Ev G C (fv C) value f) (hs : swapsWithSole [.Tuple es k p'] value p.line C.fenv = pure false := by rfl)
    (hw : swappedStores [.Tuple es k p'] value C.fenv = pure none := by rfl) :
    X1 G C (.Assign [.Tuple es k p'] value p) (fun σ => fbf f σ fun v σ => match funpack v is.length σ with | some vs => some (.next, fsets is vs σ) | none => none) := by
  intro W σ X s r σ' Q E e R h
  refine fbE e fun v σ₁ e₁ e₂ => ?_
  split at e₂
  · rename_i vs hvs
    induction e₂ using someC
    refine Assign_Tuple (hv W σ X s v σ₁ _ E e₁ R trivial fun W₁ x s₁ l₁ R₁ r₁ => ?_) hs hw
    rw [assign_Tuple]
    refine wpAny_bind (wpAny_standAt ?_)
    unfold unpack
    rw [T.each.1, T.each.2]
    exact wpAny_bind (wpAny_holding (unp_ok K hvs R₁ r₁ fun xs s₂ R₂ rs => T.run K R₂ rs fun s' R' => h W₁ _ s' l₁ R' .next))
  · exact noneE e₂
theorem X1.tupS (K : COk1 G C) {es : List Expr} {names : List Str} {is : List Nat} {k : Nat} {p' p : Pos} {value : Expr} {f : PS → Option (PV × PS)} (T : Tnb C names.reverse is) (hv : Ev G C (fv C) value f) (hs : swapsWithSole [.Tuple es k p'] value p.line C.fenv = pure false := by rfl)
    (hw : swappedStores [.Tuple es k p'] value C.fenv = pure (some names) := by rfl) :
    X1 G C (.Assign [.Tuple es k p'] value p) (fun σ => fbf f σ fun v σ => match funpack v names.length σ with | some vs => some (.next, fsets is vs.reverse σ) | none => none) := by
  intro W σ X s r σ' Q E e R h
  refine fbE e fun v σ₁ e₁ e₂ => ?_
  split at e₂
  · rename_i vs hvs
    induction e₂ using someC
    exact Assign_Tuple_swapped (hv W σ X s v σ₁ _ E e₁ R trivial fun W₁ x s₁ l₁ R₁ r₁ => unp_ok K hvs R₁ r₁ fun xs s₂ R₂ rs => T.run K R₂ rs.rev fun s' R' => h W₁ _ s' l₁ R' .next) hs hw
  · exact noneE e₂
end
end Mine
end
section
open PySem PySem.W PyProof.Rows PySem.Calls Builtin Builtin.Str
namespace Mine
noncomputable def fstr (x : List Nat) (lo hi st : Option Int) : List Nat :=
  if (st.getD 1 == 1 && (strSliceIndices lo hi (st.getD 1) x.length).length == x.length) = true then x else (strSliceIndices lo hi (st.getD 1) x.length).filterMap (x[·]?)
noncomputable def fidx (n : Nat) (lo hi : Option Int) : List Nat := sliceRange (sliceBounds lo hi none n).1 (sliceBounds lo hi none n).2.1 (sliceBounds lo hi none n).2.2
noncomputable def fsl : PV → Option Int → Option Int → Option Int → PS → Option (PV × PS)
  | .str x, lo, hi, st, σ => if (st.getD 1 == 0) = false ∧ (fstr x lo hi st).length ≤ 4096 then some (.str (fstr x lo hi st), σ) else none
  | .ref l, lo, hi, none, σ => match σ.mem[l]? with
    | some (.list xs) => if xs.length ≤ 4096 then fnew (.list ((fidx xs.length lo hi).filterMap (xs[·]?))) σ else none
    | _ => none
  | .flist xs, lo, hi, none, σ => if xs.length ≤ 4096 then fnew (.list ((fidx xs.length lo hi).filterMap (xs[·]?))) σ else none
  | _, _, _, _, _ => none
inductive Prt (G : Gd) (C : Cx) (V : Vw) : Option Expr → (PS → Option (Option Int × PS)) → Prop
  | none : Prt G C V none (fun σ => some (none, σ))
  | some {e f} : Ev G C V e f → Prt G C V (some e) (fun σ => fbf f σ fun v σ => match v with | .int i => some (some i, σ) | _ => none)
section
variable {G : Gd} {C : Cx} {V : Vw}
theorem Prt.run {e : Option Expr} {f : PS → Option (Option Int × PS)} (H : Prt G C V e f) {W σ X s o σ'} {Q : Value → Shared → Prop} {E : Value → Shared → Prop} (q : f σ = .some (o, σ')) (R : Rel C W σ X s) (ok : V.ok W X)
    (h : ∀ W' (p : Option (Int × Tok)) s', W.le W' → Rel C W' σ' X s' → p.map (·.1) = o → Q (partValue p) s') : wpAny (model G.p G.w) C.A (evalPart e V.env) Q E s := by
  cases H with
  | none => induction q using someC; rw [evalPart_none]; exact wpAny_pure (h W Option.none s (Wd.le_refl _) R rfl)
  | some he =>
    refine fbE q fun v σ₁ e₁ e₂ => ?_
    rw [evalPart_some]
    cases v with
    | int i => induction e₂ using someC; exact he W σ X s _ _ _ E e₁ R ok fun W' y s' l R' ry => by induction ry using VRel.intC; exact h W' (Option.some (i, _)) s' l R' rfl
    | _ => exact noneE e₂
theorem VRels.pick {W : Wd} {vs : List PV} {xs : List Value} (r : VRels W vs xs) : ∀ is : List Nat, VRels W (is.filterMap (vs[·]?)) (is.filterMap (xs[·]?))
  | [] => .nil
  | i :: is => by
    rw [List.filterMap_cons, List.filterMap_cons]
    cases hv : vs[i]? with
    | none =>
      have : xs[i]? = none := by
        rw [List.getElem?_eq_none_iff] at hv ⊢
        rw [← r.length]; exact hv
      rw [this]; exact r.pick is
    | some v =>
      obtain ⟨y, hy, ry⟩ := r.get hv
      rw [hy]; exact .cons ry (r.pick is)
theorem Ev.slice (K : COk1 G C) {value : Expr} {lower upper step : Option Expr} {p pos : Pos} {f : PS → Option (PV × PS)} {fl fu fs : PS → Option (Option Int × PS)} (hv : Ev G C V value f) (hl : Prt G C V lower fl) (hu : Prt G C V upper fu) (hs : Prt G C V step fs) :
    Ev G C V (.Subscript value (.Slice lower upper step p) pos) (fun σ => fbf f σ fun a σ => fbf fl σ fun lo σ => fbf fu σ fun hi σ => fbf fs σ fun st σ => fsl a lo hi st σ) := by
  intro W σ X s r σ' Q E e R ok h
  refine fbE e fun a σ₁ e₁ e' => ?_
  refine fbE e' fun lo σ₂ e₂ e' => ?_
  refine fbE e' fun hi σ₃ e₃ e' => ?_
  refine fbE e' fun st σ₄ e₄ e₅ => ?_
  rw [eval_Subscript]
  refine wpAny_bind (hv W σ X s a σ₁ _ E e₁ R ok fun W₁ o s₁ l₁ R₁ r₁ => wpAny_bind (wpAny_holding (wpAny_Slice (hl.run e₂ R₁ (V.mono l₁ ok) fun W₂ plo s₂ l₂ R₂ hlo => hu.run e₃ R₂ (V.mono (Wd.le_trans l₁ l₂) ok) fun W₃ phi s₃ l₃ R₃ hhi =>
    hs.run e₄ R₃ (V.mono (Wd.le_trans l₁ (Wd.le_trans l₂ l₃)) ok) fun W₄ pst s₄ l₄ R₄ hst => wpAny_bind (wpAny_standAt ?_)))))
  have l₁₄ := Wd.le_trans l₂ (Wd.le_trans l₃ l₄)
  have r₄ := r₁.mono l₁₄
  have R₅ := R₄.junk { cls := .type "slice", data := .fields #[partValue plo, partValue phi, partValue pst] }
  have hsl : Heap.IsSlice (s₄.heap.push { cls := .type "slice", data := .fields #[partValue plo, partValue phi, partValue pst] }) s₄.heap.objs.size plo phi pst := ⟨_, Heap.get?_push_size _ rfl, rfl, rfl⟩
  generalize hs₅ : ({ s₄ with heap := s₄.heap.push { cls := .type "slice", data := .fields #[partValue plo, partValue phi, partValue pst] } } : Shared) = s₅ at R₅ ⊢
  have hsl : s₅.heap.IsSlice s₄.heap.objs.size plo phi pst := by rw [← hs₅]; exact hsl
  have key : ∀ Q' : Value → Shared → Prop, Po C W₄ σ' X r Q' → (∃ T id, typeLookup (.type T) "__getitem__" = pure (some (.builtin id)) ∧ s₅.TypeIs o T) ∧ wpAny (model G.p G.w) C.A (getItem o (.ref s₄.heap.objs.size)) Q' E s₅ := by
    intro Q' out
    cases a with
    | str x =>
      simp only [fsl] at e₅
      split at e₅
      · rename_i hc
        induction e₅ using someC
        induction r₄ using VRel.strC with
        | str t =>
          refine ⟨⟨"str", _, F.slot_str_getitem.lookup, typeIs_str _ _ _⟩, ?_⟩
          refine wpAny_getItem_str_slice hsl (by rw [hst]; exact hc.1) ?_
          unfold sliceMade slicePicked
          rw [hst, hlo, hhi]
          have hl := hc.2
          unfold fstr at hl out
          rw [mkS'_len]
          split
          · rename_i q
            rw [if_pos q] at out
            exact out W₄ _ _ (Wd.le_refl _) R₅ (.str x t)
          · rename_i q
            rw [if_neg q] at out hl
            have e : (⟨((strSliceIndices lo hi (st.getD 1) x.length).filterMap ((mkS' x).cps[·]?)).toArray⟩ : Str) = mkS' ((strSliceIndices lo hi (st.getD 1) x.length).filterMap (x[·]?)) := by
              unfold mkS'
              simp
            rw [e]
            exact ⟨by rw [mkS'_len]; exact Nat.le_trans hl size4096, out W₄ _ _ (Wd.le_refl _) (R₅.toks _) (.str _ _)⟩
      · exact noneE e₅
    | ref l =>
     induction st using optC with
     | some _ => cases e₅
     | none =>
      simp only [fsl] at e₅
      split at e₅
      · rename_i xs hx
        split at e₅
        · rename_i hlen
          induction r₄ using VRel.refC with
          | ref ad ha =>
            refine Rel.getME R₅ hx ha fun ob ho ro => ?_
            induction ro using ORel.listC with
            | list vs n rv =>
              have hL : s₅.heap.IsList ad vs.toArray := ⟨_, ho, rfl, _, rfl⟩
              have hpst : pst = none := by induction pst using optC with
                | none => rfl
                | some q => cases hst
              subst hpst
              refine ⟨⟨"list", _, list_getitem_lookup, hL.typeIs⟩, ?_⟩
              have ip : ∀ p : Option (Int × Tok), IsPart (partValue p) (p.map (·.1)) := fun p => by
                induction p using optC with
                | none => exact .none
                | some q => exact .int _ _
              refine wpAny_getItem_list_slice hL hsl (ip plo) (ip phi) (ip none) (by simp) ?_ (by rw [List.size_toArray, ← rv.length]; exact Nat.le_trans hlen size4096)
              have e : ({ cls := .type "list", data := .seq (slicePick vs.toArray (plo.map (·.1)) (phi.map (·.1)) (Option.map (·.1) (none : Option (Int × Tok)))) } : Obj) = listO ((fidx xs.length lo hi).filterMap (vs[·]?)) 0 := by
                unfold listO slicePick fidx
                rw [hlo, hhi, rv.length]
                simp
              rw [e]
              exact new_ok (Q := Q') e₅ R₅ (.list _ _ 0 (rv.pick _)) out
        · exact noneE e₅
      · exact noneE e₅
    | flist xs =>
     induction st using optC with
     | some _ => cases e₅
     | none =>
      simp only [fsl] at e₅
      split at e₅
      · rename_i hlen
        induction r₄ using VRel.flistC with
        | flist vs n ad ha rv =>
          have hL : s₅.heap.IsList ad vs.toArray := ⟨_, R₅.getT ha, rfl, _, rfl⟩
          have hpst : pst = none := by induction pst using optC with
            | none => rfl
            | some q => cases hst
          subst hpst
          refine ⟨⟨"list", _, list_getitem_lookup, hL.typeIs⟩, ?_⟩
          have ip : ∀ p : Option (Int × Tok), IsPart (partValue p) (p.map (·.1)) := fun p => by
            induction p using optC with
            | none => exact .none
            | some q => exact .int _ _
          refine wpAny_getItem_list_slice hL hsl (ip plo) (ip phi) (ip none) (by simp) ?_ (by rw [List.size_toArray, ← rv.length]; exact Nat.le_trans hlen size4096)
          have e : ({ cls := .type "list", data := .seq (slicePick vs.toArray (plo.map (·.1)) (phi.map (·.1)) (Option.map (·.1) (none : Option (Int × Tok)))) } : Obj) = listO ((fidx xs.length lo hi).filterMap (vs[·]?)) 0 := by
            unfold listO slicePick fidx
            rw [hlo, hhi, rv.length]
            simp
          rw [e]
          exact new_ok (Q := Q') e₅ R₅ (.list _ _ 0 (rv.pick _)) out
      · exact noneE e₅
    | _ => cases e₅
  obtain ⟨⟨T, id, hl, hT⟩, hg⟩ := key (fun r s₃ => wpAny (model G.p G.w) C.A (letTemporaryGo value o r >>= fun _ => pure r) Q E s₃) fun W₆ z s₆ l₆ R₆ r₆ => wpAny_bind (wpAny_letTemporaryGo (wpAny_pure (h W₆ z s₆ (Wd.le_trans l₁ (Wd.le_trans l₁₄ l₆)) R₆ r₆)))
  refine wpAny_bind ?_
  rw [getitemInPython_of_ne hT.not_modules]
  refine wpAny_bind (wpAny_specialOf hT hl ?_)
  refine wpAny_pure (wpAny_bind ?_)
  induction step using optC with
  | none => exact wpAny_operating hg
  | some st => exact wpAny_operating hg
end
end Mine
end
section
open PySem PySem.W PyProof.Rows PySem.Calls Builtin Builtin.Str
namespace Mine
noncomputable def cLen : List PV → PS → Option (PV × PS)
  | [.str x], σ => if x.length ≤ 4096 then some (.int x.length, σ) else none
  | [.ref l], σ => match σ.mem[l]? with
    | some (.list xs) => if xs.length ≤ 4096 then some (.int xs.length, σ) else none
    | _ => none
  | _, _ => none
noncomputable def cChr : List PV → PS → Option (PV × PS)
  | [.int i], σ => if 0 ≤ i ∧ i ≤ 0x10FFFF then some (.str [i.toNat], σ) else none
  | _, _ => none
noncomputable def cOrd : List PV → PS → Option (PV × PS)
  | [.str [c]], σ => some (.int c, σ)
  | _, _ => none
noncomputable def pInts : List PV → Option (List Int)
  | [] => some []
  | .int i :: r => (pInts r).map (i :: ·)
  | _ => none
noncomputable def cSum : List PV → PS → Option (PV × PS)
  | [.ref l], σ => match σ.mem[l]? with
    | some (.list xs) => (pInts xs).map fun is => (.int is.sum, σ)
    | _ => none
  | _, _ => none
noncomputable def isBoolTy (v : Value) : Bool := match v with
  | .type s => s == "bool"
  | _ => false
noncomputable def fIsB : PV → Option Bool
  | .int _ => some false
  | .bool _ => some true
  | _ => none
noncomputable def cIsBool : List PV → PS → Option (PV × PS)
  | [a, .raw v], σ => if isBoolTy v = true then (match fIsB a with | some b => some (.bool b, σ) | none => none) else none
  | _, _ => none
theorem isBoolTy_is {v : Value} (h : isBoolTy v = true) : v = .type "bool" := by
  unfold isBoolTy at h
  split at h
  · rename_i s
    rw [show s = "bool" by simpa using h]
  · cases h
noncomputable def cRange : List PV → PS → Option (PV × PS)
  | [.int n], σ => some (.rng 0 n 1, σ)
  | [.int a, .int b], σ => some (.rng a b 1, σ)
  | _, _ => none
noncomputable def cList : List PV → PS → Option (PV × PS)
  | [.str x], σ => if x.length ≤ 4096 then fnew (.list (x.map fun c => .str [c])) σ else none
  | _, _ => none
noncomputable def pStrs : List PV → Option (List (List Nat))
  | [] => some []
  | .str i :: r => (pStrs r).map (i :: ·)
  | _ => none
noncomputable def cJoin : List PV → PS → Option (PV × PS)
  | [.str x, .ref l], σ => match σ.mem[l]? with
    | some (.list xs) => (pStrs xs).bind fun ss => if JoinOk (mkS' x) (ss.map mkS') = true then some (.str (Txt.join (mkS' x) (ss.map mkS')).cps.toList, σ) else none
    | _ => none
  | _, _ => none
noncomputable def cStarts : List PV → PS → Option (PV × PS)
  | [.str x, .str y], σ => some (.bool (Txt.startswith (mkS' x) (mkS' y)), σ)
  | _, _ => none
noncomputable def cEnds : List PV → PS → Option (PV × PS)
  | [.str x, .str y], σ => some (.bool (Txt.endswith (mkS' x) (mkS' y)), σ)
  | _, _ => none
noncomputable def find4 (x y : Str) (i j : Int) : Int := match occurrences x y (fromIndex x.length i) (min (fromIndex x.length j) x.length) 1 with | k :: _ => (k : Int) | [] => -1
noncomputable def cFind : List PV → PS → Option (PV × PS)
  | [.str x, .str y], σ => some (.int (Txt.find (mkS' x) (mkS' y)), σ)
  | [.str x, .str y, .int i, .int j], σ => some (.int (find4 (mkS' x) (mkS' y) i j), σ)
  | _, _ => none
noncomputable def cSplit : List PV → PS → Option (PV × PS)
  | [.str x, .str y], σ => if x.length ≤ 4096 ∧ (y.length == 0) = false ∧ (partsBetween (mkS' x) (occurrences (mkS' x) (mkS' y) 0 x.length (x.length + 1)) y.length).length ≤ 4096 then fnew (.list ((Txt.split (mkS' x) (mkS' y)).map fun t => .str t.cps.toList)) σ else none
  | _, _ => none
noncomputable def cLower : List PV → PS → Option (PV × PS)
  | [.str x], σ => if tooLong (Txt.lower (mkS' x)).length = false then some (.str (Txt.lower (mkS' x)).cps.toList, σ) else none
  | _, _ => none
noncomputable def cAppend : List PV → PS → Option (PV × PS)
  | [.ref l, v], σ => match σ.mem[l]? with
    | some (.list xs) => if xs.length ≤ 4096 then some (.none, ⟨σ.vars, σ.mem.set l (.list (xs ++ [v]))⟩) else none
    | _ => none
  | _, _ => none
theorem mk_of (s : Str) : mkS' s.cps.toList = s := by cases s; rfl
section
variable {G : Gd} {C : Cx}
theorem Cl.len : Cl G C (.builtin "len") cLen := by
  intro W σ X s vs xs r σ' Q E e R rs h
  unfold cLen at e
  split at e
  · split at e
    · rename_i hl
      induction e using someC
      induction rs using VRels.consC with | cons r1 rs => induction rs using VRels.nilC with | nil => induction r1 using VRel.strC with | str t =>
        refine P.len_str (by rw [mkS'_len]; omega) ?_
        rw [mkS'_len]
        exact h W _ _ (Wd.le_refl _) (R.toks _) (.int _ _)
    · exact noneE e
  · split at e
    · rename_i xs hx
      split at e
      · rename_i hl
        induction e using someC
        induction rs using VRels.consC with | cons r1 rs => induction rs using VRels.nilC with | nil => induction r1 using VRel.refC with | ref ad ha =>
          refine Rel.getME R hx ha fun o ho ro => ?_
          induction ro using ORel.listC with
          | list vs n rv =>
            refine call_len_list ⟨_, ho, rfl, _, rfl⟩ (by rw [List.size_toArray, ← rv.length]; omega) ?_
            rw [List.size_toArray, ← rv.length]
            exact h W _ _ (Wd.le_refl _) (R.toks _) (.int _ _)
      · exact noneE e
    · exact noneE e
  · exact noneE e
theorem Cl.chr : Cl G C (.builtin "chr") cChr := by
  intro W σ X s vs xs r σ' Q E e R rs h
  unfold cChr at e
  split at e
  · split at e
    · rename_i hl
      induction e using someC
      induction rs using VRels.consC with | cons r1 rs => induction rs using VRels.nilC with | nil => induction r1 using VRel.intC with | int t =>
        exact P.chr_of_int (by simp; omega) (h W _ _ (Wd.le_refl _) (R.toks _) (.str [_] _))
    · exact noneE e
  · exact noneE e
theorem Cl.ord : Cl G C (.builtin "ord") cOrd := by
  intro W σ X s vs xs r σ' Q E e R rs h
  unfold cOrd at e
  split at e
  · induction e using someC
    induction rs using VRels.consC with | cons r1 rs => induction rs using VRels.nilC with | nil => induction r1 using VRel.strC with | str t =>
      exact P.ord_of_char (h W _ _ (Wd.le_refl _) (R.toks _) (.int _ _))
  · exact noneE e
theorem ints_rel {W : Wd} {xs : List PV} {is : List Int} {vs : List Value} (e : pInts xs = some is) (r : VRels W xs vs) : ∃ l : List (Int × Tok), vs.toArray = intItems l.toArray ∧ l.map (·.1) = is := by
  induction r using VRels.ind generalizing is with
  | nil => induction e using some1C; exact ⟨[], by simp [intItems], rfl⟩
  | @cons v x xs vs r rs ih =>
    cases v with
    | int i =>
      obtain ⟨js, hj, rfl⟩ := Option.map_eq_some_iff.mp (show (pInts xs).map (i :: ·) = some is from e)
      obtain ⟨l, h1, h2⟩ := ih hj
      induction r using VRel.intC with
      | int t =>
        refine ⟨(i, t) :: l, ?_, by rw [List.map_cons, h2]⟩
        have := congrArg Array.toList h1
        apply Array.toList_inj.mp
        simpa [intItems] using this
    | _ => exact noneE e
theorem preSum_list : ∀ (l : List (Int × Tok)), preSum (numAt l.toArray) l.length = (l.map (·.1)).sum := by
  intro l
  have key : ∀ (l : List (Int × Tok)) (n : Nat), n ≤ l.length → preSum (numAt l.toArray) n = ((l.take n).map (·.1)).sum := by
    intro l n
    induction n with
    | zero => intro _; rfl
    | succ n ih =>
      intro hn
      rw [preSum, ih (by omega), List.take_succ_eq_append_getElem (by omega)]
      rw [List.map_append, List.sum_append]
      congr 1
      simp [numAt, show n < l.length by omega]
  have := key l l.length (Nat.le_refl _)
  rw [List.take_length] at this
  exact this
theorem Cl.sum (K : COk1 G C) : Cl G C (.builtin "sum") cSum := by
  intro W σ X s vs xs r σ' Q E e R rs h
  unfold cSum at e
  split at e
  · split at e
    · rename_i xs hx
      obtain ⟨is, hi, e⟩ := Option.map_eq_some_iff.mp e
      cases e
      induction rs using VRels.consC with | cons r1 rs => induction rs using VRels.nilC with | nil => induction r1 using VRel.refC with | ref ad ha =>
        refine Rel.getME R hx ha fun o ho ro => ?_
        induction ro using ORel.listC with
        | list vs n rv =>
          obtain ⟨l, h1, h2⟩ := ints_rel hi rv
          refine wpAny_with_toks R.tk (sum_intListG (xs := l.toArray) K.handled ⟨_, ho, rfl, _, by rw [← h1]; rfl⟩ fun h' tk t' hk ht => ?_)
          rw [List.size_toArray, preSum_list, h2]
          exact h W _ _ (Wd.le_refl _) ((R.grown hk).toks tk ht) (.int _ _)
    · exact noneE e
  · exact noneE e
theorem Cl.isBool : Cl G C (.builtin "isinstance") cIsBool := by
  intro W σ X s vs xs r σ' Q E e R rs h
  unfold cIsBool at e
  split at e
  · rename_i a v
    split at e
    · rename_i hv
      induction rs using VRels.consC with | cons r1 rs => induction rs using VRels.consC with | cons r2 rs => induction rs using VRels.nilC with | nil => induction r2 using VRel.rawC with | raw =>
        rw [isBoolTy_is hv]
        cases a with
        | int i => induction e using someC; induction r1 using VRel.intC with | int t => exact IsiPair.int_bool (h W _ _ (Wd.le_refl _) (R.toks _) (.bool _))
        | bool i => induction e using someC; induction r1 using VRel.boolC with | bool => exact IsiPair.bool_bool (h W _ _ (Wd.le_refl _) R (.bool _))
        | _ => exact noneE e
    · exact noneE e
  · exact noneE e
theorem Cl.range : Cl G C (.type "range") cRange := by
  intro W σ X s vs xs r σ' Q E e R rs h
  have le : ∀ q, W.le ⟨W.mu, q :: W.T⟩ := fun q => ⟨⟨[], by simp⟩, fun _ h => .tail _ h⟩
  unfold cRange at e
  split at e
  · induction e using someC
    induction rs using VRels.consC with | cons r1 rs => induction rs using VRels.nilC with | nil => induction r1 using VRel.intC with | int t =>
      exact call_range_1 (h _ _ _ (le _) ((R.allocT (o := rngO 0 _ 1 _ _ _) rfl).toks _) (.rng _ _ _ _ _ _ _ (.head _)))
  · induction e using someC
    induction rs using VRels.consC with | cons r1 rs => induction rs using VRels.consC with | cons r2 rs => induction rs using VRels.nilC with | nil => induction r1 using VRel.intC with | int t => induction r2 using VRel.intC with | int u =>
      exact call_range_2 (h _ _ _ (le _) ((R.allocT (o := rngO _ _ 1 _ _ _) rfl).toks _) (.rng _ _ _ _ _ _ _ (.head _)))
  · exact noneE e
theorem signs_rel {W : Wd} : ∀ {x : List Nat} {vs : List Value}, vs.length = x.length → (∀ (j : Nat) (v : Value), vs[j]? = some v → ∃ c u, x[j]? = some c ∧ v = .str ⟨#[c]⟩ u) → VRels W (x.map fun c => .str [c]) vs
  | [], [], _, _ => .nil
  | c :: x, v :: vs, hl, h => by
    obtain ⟨c', u, e, rfl⟩ := h 0 v rfl
    cases e
    exact .cons (.str [c] u) (signs_rel (by simpa using hl) fun j v hv => h (j + 1) v hv)
  | [], _ :: _, hl, _ => by cases hl
  | _ :: _, [], hl, _ => by cases hl
theorem Cl.list (K : COk1 G C) : Cl G C (.type "list") cList := by
  intro W σ X s vs xs r σ' Q E e R rs h
  unfold cList at e
  split at e
  · rename_i x
    split at e
    · rename_i hl
      induction rs using VRels.consC with | cons r1 rs => induction rs using VRels.nilC with | nil => induction r1 using VRel.strC with | str t =>
        refine wpAny_with_toks R.tk (call_list_str K.handled (mkS' x) t (fun h' tk acc c' hk ho hit ht => ?_) (by show (mkS' x).length ≤ _; rw [mkS'_len]; exact Nat.le_trans hl size4096))
        have fresh : s.heap.get? s.heap.objs.size = none := by
          cases q : s.heap.get? s.heap.objs.size with
          | none => rfl
          | some o => exact absurd (Heap.lt_size q) (Nat.lt_irrefl _)
        have R' := R.freshX fresh hk ho ht
        cases e
        have hrel : VRels W (x.map fun c => .str [c]) acc.toList := signs_rel (by have := hit.1; simpa [mkS'] using this) fun j v hv => by
          obtain ⟨c, u, h1, h2⟩ := hit.2 j v (by simpa using hv)
          exact ⟨c, u, by simpa [mkS'] using h1, h2⟩
        refine h ⟨W.mu ++ [s.heap.objs.size], W.T⟩ _ _ ⟨⟨_, rfl⟩, fun _ h => h⟩ (R'.promote ?_) (.ref _ _ (by rw [← R.len]; simp))
        have := ORel.list (A := C.ac) (a := s.heap.objs.size) _ _ c' hrel
        simpa [listO] using this
    · exact noneE e
  · exact noneE e
theorem strs_rel {W : Wd} {xs : List PV} {ss : List (List Nat)} {vs : List Value} (e : pStrs xs = some ss) (r : VRels W xs vs) : ∃ l : List (Str × Tok), vs = strValues l ∧ l.map (·.1) = ss.map mkS' := by
  induction r using VRels.ind generalizing ss with
  | nil => induction e using some1C; exact ⟨[], rfl, rfl⟩
  | @cons v x xs vs r rs ih =>
    cases v with
    | str i =>
      obtain ⟨js, hj, rfl⟩ := Option.map_eq_some_iff.mp (show (pStrs xs).map (i :: ·) = some ss from e)
      obtain ⟨l, h1, h2⟩ := ih hj
      induction r using VRel.strC with
      | str t =>
        exact ⟨(mkS' i, t) :: l, by rw [h1]; rfl, by rw [List.map_cons, h2]; rfl⟩
    | _ => exact noneE e
theorem Cl.join : Cl G C (.builtin "str.join") cJoin := by
  intro W σ X s vs xs r σ' Q E e R rs h
  unfold cJoin at e
  split at e
  · rename_i x l0
    split at e
    · rename_i xs hx
      obtain ⟨ss, hi, e⟩ := Option.bind_eq_some_iff.mp e
      split at e
      · rename_i hj
        induction e using someC
        induction rs using VRels.consC with | cons r1 rs => induction rs using VRels.consC with | cons r2 rs => induction rs using VRels.nilC with | nil => induction r1 using VRel.strC with | str t => induction r2 using VRel.refC with | ref ad ha =>
          refine Rel.getME R hx ha fun o ho ro => ?_
          induction ro using ORel.listC with
          | list vs n rv =>
            obtain ⟨l, rfl, h2⟩ := strs_rel hi rv
            refine wpAny_with_toks R.tk (SC.join ⟨_, ho, rfl, _, rfl⟩ h2 hj fun t' k ht => ?_)
            have := h W _ _ (Wd.le_refl _) (R.toks k ht) (.str (Txt.join (mkS' x) (ss.map mkS')).cps.toList t')
            rw [mk_of] at this
            exact this
      · exact noneE e
    · exact noneE e
  · exact noneE e
theorem Cl.starts : Cl G C (.builtin "str.startswith") cStarts := by
  intro W σ X s vs xs r σ' Q E e R rs h
  unfold cStarts at e
  split at e
  · induction e using someC
    induction rs using VRels.consC with | cons r1 rs => induction rs using VRels.consC with | cons r2 rs => induction rs using VRels.nilC with | nil => induction r1 using VRel.strC with | str t => induction r2 using VRel.strC with | str u =>
      exact SC.startswith (h W _ _ (Wd.le_refl _) R (.bool _))
  · exact noneE e
theorem Cl.ends : Cl G C (.builtin "str.endswith") cEnds := by
  intro W σ X s vs xs r σ' Q E e R rs h
  unfold cEnds at e
  split at e
  · induction e using someC
    induction rs using VRels.consC with | cons r1 rs => induction rs using VRels.consC with | cons r2 rs => induction rs using VRels.nilC with | nil => induction r1 using VRel.strC with | str t => induction r2 using VRel.strC with | str u =>
      exact SC.endswith (h W _ _ (Wd.le_refl _) R (.bool _))
  · exact noneE e
theorem gives_find4 (x y : Str) (i j : Int) (t u v v' : Tok) : Gives («str.find» ⟨[.str x t, .str y u, .int i v, .int j v'], []⟩) (.int (find4 x y i j)) := by
  unfold find4
  show Gives (match occurrences x y (fromIndex x.length i) (min (fromIndex x.length j) x.length) 1 with | k :: _ => retInt k | [] => (do rule "str.find.not-found"; retInt (-1))) _
  cases occurrences x y (fromIndex x.length i) (min (fromIndex x.length j) x.length) 1 with
  | nil => exact .rule (.of_eq rfl)
  | cons k _ => exact .of_eq rfl
theorem Cl.find : Cl G C (.builtin "str.find") cFind := by
  intro W σ X s vs xs r σ' Q E e R rs h
  unfold cFind at e
  split at e
  · induction e using someC
    induction rs using VRels.consC with | cons r1 rs => induction rs using VRels.consC with | cons r2 rs => induction rs using VRels.nilC with | nil => induction r1 using VRel.strC with | str t => induction r2 using VRel.strC with | str u =>
      exact SC.find (h W _ _ (Wd.le_refl _) (R.toks _) (.int _ _))
  · induction e using someC
    induction rs using VRels.consC with | cons r1 rs => induction rs using VRels.consC with | cons r2 rs => induction rs using VRels.consC with | cons r3 rs => induction rs using VRels.consC with | cons r4 rs => induction rs using VRels.nilC with | nil => induction r1 using VRel.strC with | str t => induction r2 using VRel.strC with | str u => induction r3 using VRel.intC with | int v => induction r4 using VRel.intC with | int v' =>
      exact call_gives F.slot_str_find (typeIs_str _ _ _) F.entry_str_find (F.args_str_find_4 _ _ _ _) (gives_find4 _ _ _ _ t u v v') (h W _ _ (Wd.le_refl _) (R.toks _) (.int _ _))
  · exact noneE e
theorem Cl.append : Cl G C (.builtin "list.append") cAppend := by
  intro W σ X s vs xs r σ' Q E e R rs h
  unfold cAppend at e
  split at e
  · split at e
    · rename_i xs hx
      split at e
      · rename_i hl
        induction e using someC
        induction rs using VRels.consC with | cons r1 rs => induction rs using VRels.consC with | cons r2 rs => induction rs using VRels.nilC with | nil => induction r1 using VRel.refC with | ref ad ha =>
          refine Rel.getME R hx ha fun o ho ro => ?_
          induction ro using ORel.listC with
          | list vs n rv =>
            refine append_at (hsz := by rw [List.size_toArray, ← rv.length]; exact Nat.le_trans hl size4096) ho fun h' hs hD => ?_
            rw [List.push_toArray] at hD
            exact h W _ _ (Wd.le_refl _) (R.setM hx ha hs hD (.list _ _ (n + 1) (rv.snoc r2))) .none
      · exact noneE e
    · exact noneE e
  · exact noneE e
theorem texts_rel {W : Wd} : ∀ (l : List (Str × Tok)), VRels W ((l.map (·.1)).map fun t => .str t.cps.toList) (strValues l)
  | [] => .nil
  | (x, t) :: l => .cons (by have := VRel.str (W := W) x.cps.toList t; rw [mk_of] at this; exact this) (texts_rel l)
theorem Cl.split : Cl G C (.builtin "str.split") cSplit := by
  intro W σ X s vs xs r σ' Q E e R rs h
  unfold cSplit at e
  split at e
  · rename_i x y
    split at e
    · rename_i hc
      induction rs using VRels.consC with | cons r1 rs => induction rs using VRels.consC with | cons r2 rs => induction rs using VRels.nilC with | nil => induction r1 using VRel.strC with | str t => induction r2 using VRel.strC with | str u =>
        obtain ⟨hx, hy, hz⟩ := hc
        have hy : ((mkS' y).length == 0) = false := by rw [mkS'_len]; exact hy
        have hx' : (mkS' x).length ≤ sizeLine := by rw [mkS'_len]; exact Nat.le_trans hx size4096
        rw [← mkS'_len x, ← mkS'_len y] at hz
        have hz' := Nat.le_trans hz size4096
        have fin : ∀ (l : List (Str × Tok)) (tk : Nat), 0 < tk → l.map (·.1) = Txt.split (mkS' x) (mkS' y) → Q (.ref s.heap.objs.size) { s with heap := s.heap.push (listO (strValues l) 0), toks := tk } := fun l tk ht hl => by
          have R' := R.toks tk ht
          exact new_ok (Q := Q) e R' (.list _ _ 0 (hl ▸ texts_rel l)) h
        refine wpAny_with_toks R.tk ?_
        cases h1 : (decide ((mkS' x).length < (mkS' y).length) || decide (Builtin.Str.strKind (mkS' x) < Builtin.Str.strKind (mkS' y)))
        · cases hf : (occurrences (mkS' x) (mkS' y) 0 (mkS' x).length ((mkS' x).length + 1)).isEmpty
          · refine call_meets F.slot_str_split (typeIs_str _ _ _) F.entry_str_split (F.args_str_split_2 _ _) (meets_str_split_sep (mkS' x) (mkS' y) t u h1 hy hf hx' hz') ?_
            show wants _ _ _ { s with toks := _, heap := s.heap.push { cls := .type "list", data := .seq (strsFrom s.toks (partsBetween (mkS' x) (occurrences (mkS' x) (mkS' y) 0 (mkS' x).length ((mkS' x).length + 1)) (mkS' y).length)).toArray } }
            rw [strsFrom_eq]
            exact fun ht => fin (numbered s.toks _) _ ht ((numbered_texts _ _).trans ((if_neg (ne_true_of_eq_false h1)).trans (if_neg (ne_true_of_eq_false hf))).symm)
          · exact call_meets F.slot_str_split (typeIs_str _ _ _) F.entry_str_split (F.args_str_split_2 _ _) (meets_str_split_not_found (mkS' x) (mkS' y) t u h1 hy hf)
              (fun ht => fin [(mkS' x, t)] _ ht ((if_neg (ne_true_of_eq_false h1)).trans (if_pos hf)).symm)
        · exact call_meets F.slot_str_split (typeIs_str _ _ _) F.entry_str_split (F.args_str_split_2 _ _) (meets_str_split_cannot_occur (mkS' x) (mkS' y) t u h1)
            (fun ht => fin [(mkS' x, t)] _ ht (if_pos h1).symm)
    · exact noneE e
  · exact noneE e
theorem Cl.lower : Cl G C (.builtin "str.lower") cLower := by
  intro W σ X s vs xs r σ' Q E e R rs h
  unfold cLower at e
  split at e
  · rename_i x
    split at e
    · rename_i hc
      induction e using someC
      induction rs using VRels.consC with | cons r1 rs => induction rs using VRels.nilC with | nil => induction r1 using VRel.strC with | str t =>
        have := h W _ _ (Wd.le_refl _) (R.toks (s.toks + 1)) (.str (Txt.lower (mkS' x)).cps.toList s.toks)
        rw [mk_of] at this
        exact SC.lower hc this
    · exact noneE e
  · exact noneE e
end
end Mine
end
section
open PySem PySem.W PyProof.Rows PySem.Calls Builtin Builtin.Str PySem.SeqAt
set_option genInjectivity false
set_option genSizeOfSpec false
namespace Mine
noncomputable def scEq : PV → PV → Option Bool
  | .int a, .int b => some (a == b)
  | .str a, .str b => some (a == b)
  | .bool a, .bool b => some (a == b)
  | _, _ => none
noncomputable def zipEq (f : PV → PV → Option Bool) : List PV → List PV → Option Bool
  | v :: vs, w :: ws => (f v w).bind fun b => (zipEq f vs ws).map (b && ·)
  | _, _ => some true
noncomputable def tuEq : PV → PV → Option Bool
  | .tup vs, .tup ws => (zipEq scEq vs ws).map (· && vs.length == ws.length)
  | a, b => scEq a b
noncomputable def fEqB : PV → PV → PS → Option Bool
  | .ref l, .ref k, σ => match σ.mem[l]?, σ.mem[k]? with
    | some (.list xs), some (.list ys) => if xs.length = ys.length then zipEq tuEq xs ys else some false
    | _, _ => none
  | .tup vs, .tup ws, _ => (zipEq scEq vs ws).map (· && vs.length == ws.length)
  | .int a, .int b, _ => some (a == b)
  | .str a, .str b, _ => some (a == b)
  | _, _, _ => none
noncomputable def oEqA (a b : PV) (σ : PS) : Option (PV × PS) := (fEqB a b σ).map fun r => (.bool r, σ)
noncomputable def oNeA (a b : PV) (σ : PS) : Option (PV × PS) := (fEqB a b σ).map fun r => (.bool (!r), σ)
noncomputable def EqF (W : Wd) (A : Around) (s : Shared) (f : PV → PV → Option Bool) : Prop := ∀ a b r x y, f a b = some r → VRel W a x → VRel W b y → EqAt A s x y r
theorem mkEq (a b : List Nat) : (mkS' a == mkS' b) = (a == b) := by
  rw [Bool.eq_iff_iff]; simp only [beq_iff_eq]
  exact ⟨fun h => mkS'_inj h, fun h => by rw [h]⟩
theorem scEq_ok (W : Wd) (A : Around) (s : Shared) : EqF W A s scEq := by
  intro a b r x y e ra rb
  unfold scEq at e
  split at e
  · induction ra using VRel.intC; induction rb using VRel.intC; induction e using some1C; exact (MeetsSeq.EqGives.int _ _ _ _).at A s
  · induction ra using VRel.strC; induction rb using VRel.strC; induction e using some1C; rw [← mkEq]; exact EqAt.str_str _ _ _ _
  · induction ra using VRel.boolC; induction rb using VRel.boolC; induction e using some1C; exact EqAt.bool_bool _ _
  · exact noneE e
theorem scEq_refl {W : Wd} {a b : PV} {r : Bool} {x : Value} (e : scEq a b = some r) (ra : VRel W a x) (rb : VRel W b x) : r = true := by
  unfold scEq at e
  split at e
  · induction ra using VRel.intC; cases rb; induction e using some1C; simp
  · induction ra using VRel.strC; cases rb; induction e using some1C; simp
  · induction ra using VRel.boolC; cases rb; induction e using some1C; simp
  · exact noneE e
noncomputable def zipAt (f : PV → PV → Option Bool) (vs ws : List PV) (j : Nat) : Bool := match vs[j]?, ws[j]? with | some v, some w => (f v w).getD false | _, _ => false
theorem zipEq_all {f : PV → PV → Option Bool} : ∀ {vs ws : List PV} {r : Bool}, zipEq f vs ws = some r →
    (∀ (j : Nat) (v w : PV), vs[j]? = some v → ws[j]? = some w → ∃ b, f v w = some b) ∧ (List.range (min vs.length ws.length)).all (zipAt f vs ws) = r
  | [], ws, r, e => by cases e; exact ⟨fun j v w h => (by simp at h), by simp⟩
  | v :: vs, [], r, e => by cases e; exact ⟨fun j v w _ h => (by simp at h), by simp⟩
  | v :: vs, w :: ws, r, e => by
    obtain ⟨b, hb, e⟩ := Option.bind_eq_some_iff.mp (show (f v w).bind _ = some r from e)
    obtain ⟨r', hr, rfl⟩ := Option.map_eq_some_iff.mp e
    obtain ⟨h1, h2⟩ := zipEq_all hr
    refine ⟨fun j v' w' hv hw => ?_, ?_⟩
    · induction j using natC with
      | zero => cases hv; cases hw; exact ⟨b, hb⟩
      | succ j => exact h1 j v' w' hv hw
    · have : min (v :: vs).length (w :: ws).length = min vs.length ws.length + 1 := by simp
      rw [this, List.range_succ_eq_map, List.all_cons, List.all_map]
      have e0 : zipAt f (v :: vs) (w :: ws) 0 = b := by simp [zipAt, hb]
      have e1 : (zipAt f (v :: vs) (w :: ws) ∘ Nat.succ) = zipAt f vs ws := rfl
      rw [e0, e1, h2]
theorem zipEq_ok {W : Wd} {A : Around} {s : Shared} {f : PV → PV → Option Bool} (F : EqF W A s f) {vs ws : List PV} {xs ys : List Value} {r : Bool} (e : zipEq f vs ws = some r) (rv : VRels W vs xs) (rw' : VRels W ws ys) :
    ∃ g : Nat → Bool, (∀ j (h1 : j < xs.toArray.size) (h2 : j < ys.toArray.size), EqAt A s xs.toArray[j] ys.toArray[j] (g j)) ∧ (List.range (min xs.toArray.size ys.toArray.size)).all g = r := by
  obtain ⟨h1, h2⟩ := zipEq_all e
  refine ⟨zipAt f vs ws, fun j hj hk => ?_, ?_⟩
  rotate_left
  · rw [List.size_toArray, List.size_toArray, ← rv.length, ← rw'.length]; exact h2
  · have hj' : j < vs.length := by rw [rv.length]; simpa using hj
    have hk' : j < ws.length := by rw [rw'.length]; simpa using hk
    obtain ⟨x, hx, rx⟩ := rv.get (List.getElem?_eq_getElem hj')
    obtain ⟨y, hy, ry⟩ := rw'.get (List.getElem?_eq_getElem hk')
    obtain ⟨b, hb⟩ := h1 j _ _ (List.getElem?_eq_getElem hj') (List.getElem?_eq_getElem hk')
    have e1 : xs.toArray[j] = x := by
      have := (List.getElem?_eq_some_iff.mp hx).2; simpa using this
    have e2 : ys.toArray[j] = y := by
      have := (List.getElem?_eq_some_iff.mp hy).2; simpa using this
    rw [e1, e2]
    have e3 : zipAt f vs ws j = b := by simp [zipAt, List.getElem?_eq_getElem hj', List.getElem?_eq_getElem hk', hb]
    rw [e3]
    exact F _ _ _ _ _ hb rx ry
theorem VRels.tail {W : Wd} {v : PV} {vs : List PV} {x : Value} {xs : List Value} (r : VRels W (v :: vs) (x :: xs)) : VRel W v x ∧ VRels W vs xs := by
  cases r with | cons a b => exact ⟨a, b⟩
theorem zipEq_refl {W : Wd} {vs ws : List PV} {xs : List Value} {r : Bool} (e : zipEq scEq vs ws = some r) (a : VRels W vs xs) (b : VRels W ws xs) : r = true := by
  induction a using VRels.ind generalizing ws r with
  | nil => induction e using some1C; rfl
  | @cons v x vs xs q _ ih =>
    induction ws using listC with
    | nil => induction e using some1C; rfl
    | cons w ws =>
      obtain ⟨q', hb, e⟩ := Option.bind_eq_some_iff.mp (show (scEq v w).bind _ = some r from e)
      obtain ⟨r', hr, rfl⟩ := Option.map_eq_some_iff.mp e
      rw [scEq_refl hb q b.tail.1, ih hr b.tail.2]; rfl
theorem tupO_inj {xs ys : List Value} (h : tupO xs = tupO ys) : xs = ys := by
  have := congrArg Obj.data h
  simp only [tupO] at this
  injection this with h1
  simpa using h1
section
variable {G : Gd} {C : Cx} {W : Wd} {σ : PS} {X : Led} {s : Shared}
theorem tuEq_ok (R : Rel C W σ X s) {A : Around} (hu : A.units + 2 < cLine) : EqF W A s tuEq := by
  intro a b r x y e ra rb
  unfold tuEq at e
  split at e
  · rename_i vs ws
    obtain ⟨r', hr, rfl⟩ := Option.map_eq_some_iff.mp e
    induction ra using VRel.tupC with
    | tup xs ta hma rva => induction rb using VRel.tupC with
      | tup ys tb hmb rvb =>
        by_cases hab : ta = tb
        · subst hab
          have : xs = ys := tupO_inj (Option.some.inj ((R.getT hma).symm.trans (R.getT hmb)))
          subst this
          rw [zipEq_refl hr rva rvb, rva.length, rvb.length]
          simpa using EqAt.same (A := A) (s := s) (.ref ta)
        · obtain ⟨g, h1, h2⟩ := zipEq_ok (scEq_ok W A.in1 s) hr rva rvb
          have := EqAt.of_refs hab (RcAt.tuples (A := A) ⟨_, R.getT hma, rfl, _, rfl⟩ ⟨_, R.getT hmb, rfl, _, rfl⟩ (by omega) h1)
          rw [h2] at this
          have e : (xs.toArray.size == ys.toArray.size) = (vs.length == ws.length) := by
            rw [List.size_toArray, List.size_toArray, ← rva.length, ← rvb.length]
          rw [e] at this
          exact this
  · exact scEq_ok W A s a b r x y e ra rb
theorem eqB_ok (K : COk1 G C) {a b : PV} {r : Bool} {x y : Value} (e : fEqB a b σ = some r) (R : Rel C W σ X s) (ra : VRel W a x) (rb : VRel W b y) : RcAt C.A s x y r ∧ RcNeAt C.A s x y (!r) := by
  have hu : C.A.units + 8 < cLine := by have := K.units; omega
  have hu1 : C.A.units < cLine := by omega
  have hu2 : C.A.in1.units + 2 < cLine := by show C.A.units + 1 + 2 < _; omega
  unfold fEqB at e
  split at e
  · split at e
    · rename_i xs ys hx hy
      induction ra using VRel.refC with
      | ref ad ha => induction rb using VRel.refC with
        | ref bd hb =>
          refine Rel.getME R hx ha fun o ho ro => ?_
          refine Rel.getME R hy hb fun o' ho' ro' => ?_
          induction ro using ORel.listC with
          | list vs n rv => induction ro' using ORel.listC with
            | list ws n' rw' =>
              have hl : s.heap.IsList ad vs.toArray := ⟨_, ho, rfl, _, rfl⟩
              have hl' : s.heap.IsList bd ws.toArray := ⟨_, ho', rfl, _, rfl⟩
              split at e
              · rename_i hlen
                obtain ⟨g, h1, h2⟩ := zipEq_ok (tuEq_ok R hu2) e rv rw'
                have hs : vs.toArray.size = ws.toArray.size := by rw [List.size_toArray, List.size_toArray, ← rv.length, ← rw'.length, hlen]
                rw [hs, Nat.min_self] at h2
                have a1 := RcAt.lists hl hl' hs hu1 h1
                have a2 := RcNeAt.lists hl hl' hs hu1 h1
                rw [hs, h2] at a1 a2
                exact ⟨a1, a2⟩
              · rename_i hlen
                induction e using some1C
                have hs : (vs.toArray.size != ws.toArray.size) = true := by rw [List.size_toArray, List.size_toArray, ← rv.length, ← rw'.length]; simpa using hlen
                exact ⟨RcAt.lists_lengths hl hl' hs hu1, RcNeAt.lists_lengths hl hl' hs hu1⟩
    · exact noneE e
  · rename_i vs ws
    obtain ⟨r', hr, rfl⟩ := Option.map_eq_some_iff.mp e
    induction ra using VRel.tupC with
    | tup xs ta hma rva => induction rb using VRel.tupC with
      | tup ys tb hmb rvb =>
        obtain ⟨g, h1, h2⟩ := zipEq_ok (scEq_ok W C.A.in1 s) hr rva rvb
        have a1 := RcAt.tuples (A := C.A) ⟨_, R.getT hma, rfl, _, rfl⟩ ⟨_, R.getT hmb, rfl, _, rfl⟩ hu1 h1
        have a2 := RcNeAt.tuples (A := C.A) ⟨_, R.getT hma, rfl, _, rfl⟩ ⟨_, R.getT hmb, rfl, _, rfl⟩ hu1 h1
        have e : (xs.toArray.size == ys.toArray.size) = (vs.length == ws.length) := by
          rw [List.size_toArray, List.size_toArray, ← rva.length, ← rvb.length]
        rw [h2, e] at a1 a2
        exact ⟨a1, a2⟩
  · induction ra using VRel.intC; induction rb using VRel.intC; induction e using some1C; exact ⟨fun prog w E Q h => wpAny_eq_int h, RcNeAt.int_int _ _ _ _⟩
  · rename_i a b
    induction ra using VRel.strC with
    | str t => induction rb using VRel.strC with
      | str u =>
        induction e using some1C
        have e : (mkS' a == mkS' b) = (a == b) := by
          rw [Bool.eq_iff_iff]; simp only [beq_iff_eq]
          exact ⟨fun h => mkS'_inj h, fun h => by rw [h]⟩
        have a2 := RcNeAt.str_str (A := C.A) (s := s) (mkS' a) t (mkS' b) u
        rw [e] at a2
        exact ⟨fun prog w E Q h => P.eq_str (by simpa using h), a2⟩
  · exact noneE e
theorem Op2.eqA (K : COk1 G C) : Op2 G C (compareOp .Eq) oEqA := by
  intro W σ X s a b x y r σ' Q E e R ra rb h
  obtain ⟨q, hq, e⟩ := Option.map_eq_some_iff.mp e
  cases e
  exact (eqB_ok K hq R ra rb).1 _ _ _ _ (h W _ _ (Wd.le_refl _) R (.bool _))
theorem Op2.neA (K : COk1 G C) : Op2 G C (compareOp .NotEq) oNeA := by
  intro W σ X s a b x y r σ' Q E e R ra rb h
  obtain ⟨q, hq, e⟩ := Option.map_eq_some_iff.mp e
  cases e
  exact (eqB_ok K hq R ra rb).2 _ _ _ _ (h W _ _ (Wd.le_refl _) R (.bool _))
noncomputable def anyEq (a : PV) : List PV → Option Bool
  | [] => some false
  | v :: r => (scEq v a).bind fun b => (anyEq a r).map (b || ·)
noncomputable def fIn : PV → PV → PS → Option Bool
  | .str a, .str b, _ => some (!(occurrences (mkS' b) (mkS' a) 0 b.length 1).isEmpty)
  | a, .ref l, σ => match σ.mem[l]? with
    | some (.list xs) => anyEq a xs
    | _ => none
  | a, .tup vs, _ => anyEq a vs
  | _, _, _ => none
noncomputable def oIn (a b : PV) (σ : PS) : Option (PV × PS) := (fIn a b σ).map fun r => (.bool r, σ)
noncomputable def oNotIn (a b : PV) (σ : PS) : Option (PV × PS) := (fIn a b σ).map fun r => (.bool (!r), σ)
noncomputable def eqV (a : PV) (y : Value) : Bool := match a, y with
  | .int k, .int i _ => i == k
  | .str k, .str z _ => z.cps.toList == k
  | .bool k, .bool b => b == k
  | _, _ => false
theorem eqV_ok {v a : PV} {y : Value} {b : Bool} (e : scEq v a = some b) (rv : VRel W v y) : eqV a y = b := by
  unfold scEq at e
  split at e
  · induction rv using VRel.intC; induction e using some1C; rfl
  · induction rv using VRel.strC; induction e using some1C; rfl
  · induction rv using VRel.boolC; induction e using some1C; rfl
  · exact noneE e
theorem anyEq_ok {a : PV} {x : Value} {A : Around} (ra : VRel W a x) {xs : List PV} {vs : List Value} {r : Bool} (e : anyEq a xs = some r) (rs : VRels W xs vs) : (∀ y, y ∈ vs → EqAt A s y x (eqV a y)) ∧ vs.any (eqV a) = r := by
  induction rs using VRels.ind generalizing r with
  | nil => induction e using some1C; exact ⟨fun y h => (nomatch h), rfl⟩
  | @cons v y xs vs rv rs ih =>
    obtain ⟨q, hb, e⟩ := Option.bind_eq_some_iff.mp (show (scEq v a).bind _ = some r from e)
    obtain ⟨r', hr, rfl⟩ := Option.map_eq_some_iff.mp e
    obtain ⟨h1, h2⟩ := ih hr
    refine ⟨fun z hz => ?_, by rw [List.any_cons, h2, eqV_ok hb rv]⟩
    rcases List.mem_cons.mp hz with rfl | hz
    · rw [eqV_ok hb rv]; exact scEq_ok W A s _ _ _ _ _ hb rv ra
    · exact h1 z hz
theorem in_ok {a b : PV} {r : Bool} {x y : Value} (e : fIn a b σ = some r) (R : Rel C W σ X s) (ra : VRel W a x) (rb : VRel W b y) {Q : Value → Shared → Prop} {E : Value → Shared → Prop} :
    (Q (.bool r) s → wpAny (model G.p G.w) C.A (compareOp .In x y) Q E s) ∧ (Q (.bool (!r)) s → wpAny (model G.p G.w) C.A (compareOp .NotIn x y) Q E s) := by
  unfold fIn at e
  split at e
  · induction ra using VRel.strC; induction rb using VRel.strC; induction e using some1C
    exact ⟨fun h => P.in_str (by rw [mkS'_len]; exact h), fun h => P.notIn_str (by rw [mkS'_len]; exact h)⟩
  · split at e
    · rename_i xs hx
      induction rb using VRel.refC with
      | ref ad ha =>
        refine Rel.getME R hx ha fun o ho ro => ?_
        induction ro using ORel.listC with
        | list vs n rv =>
          obtain ⟨h1, h2⟩ := anyEq_ok (s := s) (A := C.A.in1) ra e rv
          have h2' : vs.toArray.any (eqV a) = r := by simpa using h2
          exact ⟨fun h => in_listAt (eqV a) ⟨_, ho, rfl, _, rfl⟩ (fun y hy => h1 y (by simpa using hy)) (by rw [h2']; exact h), fun h => notIn_listAt (eqV a) ⟨_, ho, rfl, _, rfl⟩ (fun y hy => h1 y (by simpa using hy)) (by rw [h2']; exact h)⟩
    · exact noneE e
  · induction rb using VRel.tupC with
    | tup vs t hm rv =>
      obtain ⟨h1, h2⟩ := anyEq_ok (s := s) (A := C.A.in1) ra e rv
      have h2' : vs.toArray.any (eqV a) = r := by simpa using h2
      exact ⟨fun h => in_tupleAt (eqV a) ⟨_, R.getT hm, rfl, _, rfl⟩ (fun y hy => h1 y (by simpa using hy)) (by rw [h2']; exact h), fun h => notIn_tupleAt (eqV a) ⟨_, R.getT hm, rfl, _, rfl⟩ (fun y hy => h1 y (by simpa using hy)) (by rw [h2']; exact h)⟩
  · exact noneE e
theorem Op2.in : Op2 G C (compareOp .In) oIn := by
  intro W σ X s a b x y r σ' Q E e R ra rb h
  obtain ⟨q, hq, e⟩ := Option.map_eq_some_iff.mp e
  cases e
  exact (in_ok hq R ra rb).1 (h W _ _ (Wd.le_refl _) R (.bool _))
theorem Op2.notIn : Op2 G C (compareOp .NotIn) oNotIn := by
  intro W σ X s a b x y r σ' Q E e R ra rb h
  obtain ⟨q, hq, e⟩ := Option.map_eq_some_iff.mp e
  cases e
  exact (in_ok hq R ra rb).2 (h W _ _ (Wd.le_refl _) R (.bool _))
end
end Mine
end
section
open PySem PySem.W PyProof.Rows PySem.Calls Builtin Builtin.Str PySem.SeqAt
namespace Mine
section
variable {C : Cx} {W W' : Wd} {σ σ' : PS} {X X' : Led} {s : Shared}
theorem Rel.reX (R : Rel C W σ X s) {h' : Heap} {tk : Nat} (hX : ∀ p ∈ X', h'.get? p.1 = some p.2 ∧ (p.1 ∈ X.map (·.1) ∨ s.heap.get? p.1 = none)) (hnd : (X'.map (·.1)).Nodup)
    (hk : ∀ b x, b ∉ X.map (·.1) → s.heap.get? b = some x → h'.get? b = some x) (ht : 0 < tk) : Rel C W σ X' { s with heap := h', toks := tk } := by
  obtain ⟨m, cs, ms, F, N, nd, r⟩ := R.ex
  have e : ∀ X : Led, cs ++ (ms ++ (W.T ++ X)) = (cs ++ (ms ++ W.T)) ++ X := fun X => by simp
  rw [e] at N nd
  rw [List.map_append, List.nodup_append] at nd
  obtain ⟨nd1, nd2, nd3⟩ := nd
  have hXb : ∀ b, b ∈ X.map (·.1) → b ≠ C.L ∧ C.h₀.get? b = none := fun b hb => by
    obtain ⟨p, hp, rfl⟩ := List.mem_map.mp hb
    exact (N p (List.mem_append_right _ hp)).2
  have hLX : C.L ∉ X.map (·.1) := fun h => (hXb _ h).1 rfl
  have old : ∀ p ∈ cs ++ (ms ++ W.T), p.1 ∉ X.map (·.1) := fun p hp h => nd3 _ (List.mem_map.mpr ⟨p, hp, rfl⟩) _ h rfl
  refine ⟨⟨m, cs, ms, ⟨F.ns.at' fun o q => hk _ o hLX q, fun b x q => hk b x (fun z => by rw [(hXb b z).2] at q; exact noneE q) (F.keep b x q), F.above⟩, ?_, ?_, r⟩, R.bare, R.os, ht⟩
  · rw [e]
    intro p hp
    rcases List.mem_append.mp hp with q | q
    · have z := N p (List.mem_append_left _ q)
      exact ⟨hk _ _ (old p q) z.1, z.2⟩
    · obtain ⟨h1, h2⟩ := hX p q
      refine ⟨h1, ?_⟩
      rcases h2 with h2 | h2
      · exact hXb _ h2
      · refine ⟨fun z => ?_, ?_⟩
        · obtain ⟨oL, es, ep, hL, _⟩ := F.ns
          rw [z, hL] at h2; cases h2
        · cases q : C.h₀.get? p.1 with
          | none => rfl
          | some o => have := F.keep _ _ q; rw [h2] at this; exact noneE this
  · rw [e, List.map_append, List.nodup_append]
    refine ⟨nd1, hnd, fun a ha b hb hab => ?_⟩
    subst hab
    obtain ⟨p, hp, hpe⟩ := List.mem_map.mp hb
    have z := (hX p hp).2
    rw [hpe] at z
    rcases z with z | z
    · exact nd3 _ ha _ z rfl
    · obtain ⟨q, hq, rfl⟩ := List.mem_map.mp ha
      have := (N q (List.mem_append_left _ hq)).1
      rw [z] at this; exact noneE this
theorem Rel.ndX (R : Rel C W σ X s) : (X.map (·.1)).Nodup := by
  obtain ⟨m, cs, ms, F, N, nd, r⟩ := R.ex
  rw [show cs ++ (ms ++ (W.T ++ X)) = (cs ++ (ms ++ W.T)) ++ X by simp, List.map_append, List.nodup_append] at nd
  exact nd.2.1
end
noncomputable def oIAdd : PV → PV → PS → Option (PV × PS) := oAdd
noncomputable def oIMul : PV → PV → PS → Option (PV × PS)
  | .int a, .int b, σ => if Builtin.Int.intBits b ≤ 64 ∨ Builtin.Int.intBits a ≤ 64 ∨ Builtin.Int.intBits a + Builtin.Int.intBits b ≤ 1000000 then some (.int (a * b), σ) else none
  | _, _, _ => none
noncomputable def oISub : PV → PV → PS → Option (PV × PS)
  | .int a, .int b, σ => some (.int (a - b), σ)
  | _, _, _ => none
noncomputable def oMulL : PV → PV → PS → Option (PV × PS)
  | .ref l, .int x, σ => match σ.mem[l]? with
    | some (.list xs) => if 0 ≤ x ∧ x ≤ 64 ∧ 0 < xs.length ∧ xs.length ≤ 64 then fnew (.list (List.replicate x.toNat xs).flatten) σ else none
    | _ => none
  | a, b, σ => oMul a b σ
noncomputable def fenum (l a b : Nat) (f : PS → Option (Fl × PS)) : Nat → Nat → PS → Option (Fl × PS)
  | 0, _, _ => none
  | n + 1, i, σ => match σ.mem[l]? with
    | some (.list xs) => match xs[i]? with
      | some v => fb (f (fset b v (fset a (.int i) σ))) fun r σ => match r with
        | .next => fenum l a b f n (i + 1) σ
        | .cont => fenum l a b f n (i + 1) σ
        | .brk => some (.next, σ)
        | .ret v => some (.ret v, σ)
      | none => some (.next, σ)
    | _ => none
section
variable {G : Gd} {C : Cx} {V : Vw}
theorem Op2.iadd : Op2 G C (inplaceOp .Add) oIAdd := by
  intro W σ X s a b x y r σ' Q E e R ra rb h
  unfold oIAdd oAdd at e
  split at e
  · induction ra using VRel.intC; induction rb using VRel.intC; induction e using someC; exact P.iadd_int (h W _ _ (Wd.le_refl _) (R.toks _) (.int _ _))
  · split at e
    · rename_i hl
      induction ra using VRel.strC; induction rb using VRel.strC; induction e using someC
      refine P.iadd_str ?_
      rename_i σ₀ a b t u
      rw [mkS'_len, mkS'_len]
      by_cases ha : a = []
      · subst ha; exact h W _ _ (Wd.le_refl _) R (.str b u)
      · rw [if_neg (by simpa using ha)]
        by_cases hb : b = []
        · subst hb
          rw [List.append_nil] at h
          exact h W _ _ (Wd.le_refl _) R (.str a t)
        · rw [if_neg (by simpa using hb)]
          have : mkS' a ++ mkS' b = mkS' (a ++ b) := by
            show Str.append _ _ = _
            simp [Str.append, mkS']
          rw [this]
          exact ⟨by rw [mkS'_len]; exact Nat.le_trans hl size4096, h W _ _ (Wd.le_refl _) (R.toks _) (.str _ _)⟩
    · exact noneE e
  · exact noneE e
theorem Op2.isub : Op2 G C (inplaceOp .Sub) oISub := by
  intro W σ X s a b x y r σ' Q E e R ra rb h
  unfold oISub at e
  split at e
  · induction ra using VRel.intC; induction rb using VRel.intC; induction e using someC; exact P.isub_int (h W _ _ (Wd.le_refl _) (R.toks _) (.int _ _))
  · exact noneE e
theorem Op2.imul : Op2 G C (inplaceOp .Mult) oIMul := by
  intro W σ X s a b x y r σ' Q E e R ra rb h
  unfold oIMul at e
  split at e
  · split at e
    · rename_i hb
      induction ra using VRel.intC; induction rb using VRel.intC; induction e using someC
      exact P.imul_int (h W _ _ (Wd.le_refl _) (R.toks _) (.int _ _)) (intMul_ok hb)
    · exact noneE e
  · exact noneE e
theorem foldl_repA (a : List Value) : ∀ (n : Nat) (z : Array Value), ((List.replicate n a.toArray).foldl (fun x1 x2 => x1 ++ x2) z).toList = z.toList ++ (List.replicate n a).flatten
  | 0, z => by simp
  | n + 1, z => by
    rw [List.replicate_succ, List.foldl_cons, foldl_repA a n, List.replicate_succ, List.flatten_cons]
    simp
theorem VRels.rep {W : Wd} {vs : List PV} {xs : List Value} (r : VRels W vs xs) : ∀ n, VRels W (List.replicate n vs).flatten (List.replicate n xs).flatten
  | 0 => .nil
  | n + 1 => by
    rw [List.replicate_succ, List.replicate_succ, List.flatten_cons, List.flatten_cons]
    exact r.app (r.rep n)
theorem mul_listE {prog : Program} {w : World} {A : Around} {E : Value → Shared → Prop} {s : Shared} {l : Addr} {items : Array Value} {k : Nat} {x : Int} {u : Tok} {Q : Value → Shared → Prop}
    (hl : s.heap.get? l = some { cls := .type "list", dict := none, data := .seq items k, slots := #[] })
    (hlo : -(2 ^ 63 : Int) ≤ x) (hhi : x < 2 ^ 63) (hsz : items.size * x.toNat ≤ 2 ^ 24)
    (h : Q (.ref s.heap.objs.size) { s with heap := s.heap.push { cls := .type "list", data := .seq (List.foldl (fun x1 x2 => x1 ++ x2) #[] (List.replicate (if items.isEmpty = true then 0 else x.toNat) items)) } }) :
    wpAny (model prog w) A (binaryOp .Mult (.ref l) (.int x u)) Q E s :=
  wpAny_binaryOp_repeat_ref (T := "list") (U := "int") (by decide) ⟨_, hl, rfl⟩ (fun s' => typeIs_int s' x u) noFill_list_mul F.fills_int_mul F.slot_int_rmul repeat_list F.slot_int_index.lookup
    (call_meets F.slot_int_rmul (typeIs_int s x u) F.entry_int_rmul (F.args_int_rmul_2 _ _) (int___rmul___int_list x u l items k)
      ⟨hl, rfl, ⟨_, hl, rfl⟩, call_meets F.slot_list_mul ⟨_, hl, rfl⟩ F.entry_list_mul (F.args_list_mul_2 _ _)
        (AutoListH.list___mul___list_int_3 l items k x u (by simp [Builtin.List.listFitsIndex]; omega) (by omega) (by simp [Builtin.List.listTooLong, sizeLine]; omega))
        ⟨hl, h⟩⟩)
theorem Op2.mulL : Op2 G C (binaryOp .Mult) oMulL := by
  intro W σ X s a b x y r σ' Q E e R ra rb h
  unfold oMulL at e
  split at e
  · split at e
    · rename_i xs hx
      split at e
      · rename_i hb
        obtain ⟨b0, b1, b2, b3⟩ := hb
        induction ra using VRel.refC with
        | ref ad ha =>
          induction rb using VRel.intC
          refine Rel.getME R hx ha fun o ho ro => ?_
          induction ro using ORel.listC with
          | list vs n rv =>
            have hlen : vs.length ≤ 64 := by rw [← rv.length]; exact b3
            refine mul_listE ho (by omega) (by omega) ?_ ?_
            · rw [List.size_toArray]
              exact Nat.le_trans (Nat.mul_le_mul hlen (by omega : _ ≤ 64)) (by decide)
            · have hne : vs.toArray.isEmpty = false := by
                induction vs using listC with
                | nil => rw [rv.length] at b2; exact absurd b2 (by decide)
                | cons _ _ => rfl
              rw [hne, if_neg Bool.false_ne_true]
              have e' : ∀ k : Nat, ({ cls := .type "list", data := .seq (List.foldl (fun x1 x2 => x1 ++ x2) #[] (List.replicate k vs.toArray)) } : Obj) = listO (List.replicate k vs).flatten 0 := fun k => by
                unfold listO
                congr 2
                apply Array.toList_inj.mp
                rw [foldl_repA]; simp
              rw [e']
              exact new_ok (Q := Q) e R (.list _ _ 0 (rv.rep _)) h
      · exact noneE e
    · exact noneE e
  · exact Op2.mul W σ X s _ _ x y r σ' Q E e R ra rb h
theorem Ev.dict (K : COk1 G C) {p : Pos} : Ev G C V (.Dict [] [] p) (fun σ => fnew (.dict []) σ) := by
  intro W σ X s r σ' Q E e R ok h
  refine wpAny_Dict_empty (new_ok (Q := Q) e R (.dict [] [] _ .nil ⟨#[], 0, ⟨rfl, rfl, rfl⟩, rfl, fun e he => by simp at he, .nil, by simp⟩) h)
theorem X1.comp (K : COk1 G C) {elt iter : Expr} {x y : Str} {px py : Pos} {ifs : List Expr} {sc : Scope} {cl : List (Str × Addr)} {pos spos : Pos} {fi : PS → Option (PV × PS)} {ts : PV → PS → Option (Bool × PS)} {el : PV → PS → Option (PV × PS)} {i : Nat} (n : Nat)
    (hn : C.nm[i]? = some (y, false)) (hi : Ev G C (fv C) iter fi) (hclos : closureFor sc C.fenv = pure cl) (hcell : ∀ y ∈ sc.names, y.2 ≠ .cell) (hkind : sc.kind = .function)
    (hnames : ∀ y ∈ sc.names, y.2 = .local → sc.names.lookup y.1 = some .local) (hx : sc.names.lookup x = some .local)
    (ht : ∀ Cn v, Cts G C (cvw C sc cl Cn x v) ifs (ts v)) (hel : ∀ Cn v, Ev G C (cvw C sc cl Cn x v) elt (el v))
    (hsw : swapsWith (.ListComp elt [⟨.Name x px, iter, ifs, 0⟩] sc pos) (some (.Name y py)) spos.line C.fenv = pure true := by rfl) (hs : ∀ x, foldedSetIterable iter C.fenv x = pure x := by intro _; rfl) :
    X1 G C (.Assign [.Name y py] (.ListComp elt [⟨.Name x px, iter, ifs, 0⟩] sc pos) spos) (fun σ => fbf fi σ fun v σ => fb (fcomp (nxOf v) ts el n 0 [] σ) fun acc σ => fb (fnew (.list acc) σ) fun v σ => some (.next, fset i v σ)) := by
  intro W σ X s r σ' Q E e R h
  refine fbE e fun v σ₁ e₁ e => ?_
  refine fbE e fun acc σ₂ e₂ e => ?_
  refine fbE e fun u σ₃ e₃ e₄ => ?_
  induction e₄ using someC
  have hq : ∃ q, nxOf v 0 σ₁ = some q := by
    induction n using natC with
    | zero => cases e₂
    | succ n =>
      simp only [fcomp] at e₂
      split at e₂
      · rename_i q; exact ⟨_, q⟩
      · rename_i q; exact ⟨_, q⟩
      · exact noneE e₂
  obtain ⟨q, hq⟩ := hq
  rw [exec_Assign_Name_used _ _ _ _ hsw]
  refine wpAny_bind (wpAny_standAt (wpAny_bind ?_))
  show wpAny _ C.A (do let _ ← comprehension (.ListComp elt [⟨.Name x px, iter, ifs, 0⟩] sc pos) sc C.fenv _ (newList []) false (eval iter C.fenv) (some (PySem.assign (.Name y py) C.fenv))) _ _ s
  refine wpAny_bind (wpAny_mono (wpAny_comprehension_free (use := some (PySem.assign (.Name y py) C.fenv)) (Q := fun _ s' => Q .next s') rfl hs hclos hkind hnames
    (hi W σ X s v σ₁ _ E e₁ R trivial fun W₁ z s₁ l₁ R₁ rz => ?_)) (fun _ s' hq => wpAny_pure (wpAny_pure hq)) fun _ _ e => e)
  refine comp_run K hcell hkind hx ht hel _ hq R₁ rz e₂ fun W₂ s₂ Cn oC D xs k m l₂ R₂ rs hoC => ?_
  cases e₃
  have R₃ := (R₂.perm (List.Perm.swap _ _ _)).promote (.list acc xs k rs)
  show wpAny _ C.A (PySem.assign (.Name y py) C.fenv (.ref D)) _ _ _
  refine PySem.wpAny_assign_Name (st_var K.toCOk K.inj hn R₃ (.ref σ₂.mem.length D (by rw [← R₂.len]; simp)) fun s' R' => ?_)
  refine ⟨m, hoC.ns (R'.getX (.head _)), fun h' hs' => ?_⟩
  exact h ⟨W₂.mu ++ [D], W₂.T⟩ _ _ (Wd.le_trans (Wd.le_trans l₁ l₂) ⟨⟨_, rfl⟩, fun _ h => h⟩) (R'.endX (h' := h') (tk := s'.toks) (fun b x hb e => hs'.extBut b x hb e) R'.tk) .next
noncomputable def enumO (it : Addr) (i : Int) (old : Value) : Obj := { cls := .type "enumerate", dict := none, data := .fields #[.none, .bool false, .ref it, rawInt i, .none, old], slots := #[] }
inductive EnInv (C : Cx) (W₁ : Wd) (X : Led) (ad Ee I : Addr) (g : Nat → Nat → PS → Prop) (j : Nat) (s' : Shared) : Prop
  | mk (W' : Wd) (σ₂ : PS) (i : Nat) (old : Value) (o' : Obj) : W₁.le W' → o'.cls = .type "list_iterator" → o'.data = .fields #[.ref ad, .int (i : Nat) 0] → Rel C W' σ₂ ((Ee, enumO I (i : Nat) old) :: (I, o') :: X) s' → g j i σ₂ → EnInv C W₁ X ad Ee I g j s'
theorem X1.enum (K : COk1 G C) {xi xv : Str} {pi pv tp pn cp pos : Pos} {k : Nat} {e : Expr} {body : List Stmt} {bi bv : Bool} {ii iv : Nat} {f : PS → Option (PV × PS)} {fbd : PS → Option (Fl × PS)} (n : Nat)
    (hni : C.nm[ii]? = some (xi, bi)) (hnv : C.nm[iv]? = some (xv, bv)) (hx : Ev G C (fv C) (.Name "enumerate" pn) (fun σ => some (.raw (.type "enumerate"), σ))) (he : Ev G C (fv C) e f) (hst : starEach [e] C.fenv = [(false, eval e C.fenv)]) (hb : Xs G C body fbd)
    (hs : ∀ x, foldedSetIterable (.Call (.Name "enumerate" pn) [e] [] cp) C.fenv x = pure x := by intro _; rfl) :
    X1 G C (.For (.Tuple [.Name xi pi, .Name xv pv] k tp) (.Call (.Name "enumerate" pn) [e] [] cp) body [] pos) (fun σ => fbf f σ fun v σ => match v with | .ref l => fenum l ii iv fbd n 0 σ | _ => none) := by
  intro W σ X s r σ' Q E q R h
  refine fbE q fun v σ₁ e₁ e₂ => ?_
  refine wpAny_For ?_ hs
  have H : Evs G C (fv C) [e] _ := .cons he .nil hst
  refine Call_Name rfl (hx W σ X s _ _ _ E rfl R trivial fun W₀ z s₀ l₀ R₀ rz => ?_)
  induction rz using VRel.rawC
  refine PyProof.Rows.callWith_type (H.plain _) (H.args _ (rs := [v]) (σ' := σ₁) (by unfold fbf; rw [e₁]; rfl) R₀ trivial fun W₁ xs s₁ l₁ R₁ rs => ?_)
  cases v with
  | ref l =>
    induction rs using VRels.consC with | cons r1 rs => induction rs using VRels.nilC with | nil => induction r1 using VRel.refC with | ref ad ha =>
    have hl : ∃ xs, σ₁.mem[l]? = some (.list xs) := by
      induction n using natC with
      | zero => cases e₂
      | succ n =>
        simp only [fenum] at e₂
        split at e₂
        · rename_i xs q; exact ⟨xs, q⟩
        · exact noneE e₂
    obtain ⟨xs₀, hx₀⟩ := hl
    refine Rel.getME R₁ hx₀ ha fun o ho ro => ?_
    induction ro using ORel.listC with
    | list vs nn rv =>
      refine call_enumerate_list ⟨_, ho, rfl, _, rfl⟩ fun h' hE hI hsz hk => ?_
      obtain ⟨oI, hoI, hcI, hdI⟩ := hI
      have fresh : ∀ a, s₁.heap.objs.size ≤ a → s₁.heap.get? a = none := fun a ha => by
        cases q : s₁.heap.get? a with
        | none => rfl
        | some o => exact absurd (Heap.lt_size q) (Nat.not_lt.mpr ha)
      have R₂ : Rel C W₁ σ₁ ((s₁.heap.objs.size + 1, enumO s₁.heap.objs.size 0 .none) :: (s₁.heap.objs.size, oI) :: X) { s₁ with heap := h' } := by
        have := R₁.ndX
        refine R₁.reX (tk := s₁.toks) (fun p hp => ?_) ?_ (fun b x _ e => hk b x e) R₁.tk
        · rcases List.mem_cons.mp hp with rfl | hp
          · exact ⟨hE, .inr (fresh _ (Nat.le_succ _))⟩
          · rcases List.mem_cons.mp hp with rfl | hp
            · exact ⟨hoI, .inr (fresh _ (Nat.le_refl _))⟩
            · exact ⟨hk _ _ (R₁.getX hp), .inl (List.mem_map.mpr ⟨p, hp, rfl⟩)⟩
        · have hnX : ∀ a, s₁.heap.objs.size ≤ a → a ∉ X.map (·.1) := fun a ha hm => by
            obtain ⟨p, hp, rfl⟩ := List.mem_map.mp hm
            exact absurd (Heap.lt_size (R₁.getX hp)) (Nat.not_lt.mpr ha)
          rw [List.map_cons, List.map_cons, List.nodup_cons, List.nodup_cons]
          refine ⟨?_, hnX _ (Nat.le_refl _), this⟩
          rw [List.mem_cons, not_or]
          exact ⟨Nat.succ_ne_self _, hnX _ (Nat.le_succ _)⟩
      generalize hI : s₁.heap.objs.size = I at R₂ ⊢
      generalize hE' : I + 1 = Ee at R₂ ⊢
      have hne : Ee ≠ I := by rw [← hE']; exact Nat.succ_ne_self _
      generalize ({ s₁ with heap := h' } : Shared) = s₂ at R₂ ⊢
      refine wpAny_pyIter_enum (R₂.getX (.head _)) ?_
      refine codeAny_forLoop_any (EnInv C W₁ X ad Ee I fun j i σ₂ => fenum l ii iv fbd j i σ₂ = some (r, σ')) ?_ n (.mk W₁ σ₁ 0 .none oI (Wd.le_refl _) hcI hdI R₂ e₂)
      rintro j s' ⟨W', σ₂, i, old, o', le, hc', hd', R', e'⟩
      induction j using natC with
      | zero => cases e'
      | succ j =>
        simp only [fenum] at e'
        split at e'
        · rename_i xs hxs
          refine Rel.getME R' hxs (mu_mono le ha) fun oL hoL roL => ?_
          induction roL using ORel.listC with
          | list ys n' rys =>
            have hL : s'.heap.IsList ad ys.toArray := ⟨_, hoL, rfl, _, rfl⟩
            have hIt : s'.heap.IsListIter I ad i := ⟨o', R'.getX (.tail _ (.head _)), hc', hd'⟩
            split at e'
            · rename_i v hv
              obtain ⟨y, hy, ry⟩ := rys.get hv
              refine fbE e' fun fl σ₃ e₃ e₄ => ?_
              refine wpAny_pyNext_enum_item (R'.getX (.head _)) hIt hL (by simpa using hy) hne fun h₃ hEO hIt₃ hT hsz₃ hk₃ => ?_
              obtain ⟨oI₃, hoI₃, hcI₃, hdI₃⟩ := hIt₃
              refine wpAny_letOwnedTupleGo_enum hEO fun h₄ hE₄ hs₄ => ?_
              have ndX := R'.ndX
              have hEX : Ee ∉ X.map (·.1) := fun hm => by
                rw [List.map_cons, List.map_cons, List.nodup_cons, List.mem_cons] at ndX
                exact ndX.1 (.inr hm)
              have hIX : I ∉ X.map (·.1) := fun hm => by
                rw [List.map_cons, List.map_cons, List.nodup_cons, List.nodup_cons] at ndX
                exact ndX.2.1 hm
              have hEl : Ee < s'.heap.objs.size := Heap.lt_size (R'.getX (.head _))
              have hIl : I < s'.heap.objs.size := Heap.lt_size (R'.getX (.tail _ (.head _)))
              have hTE : s'.heap.objs.size ≠ Ee := Ne.symm (Nat.ne_of_lt hEl)
              have hTI : s'.heap.objs.size ≠ I := Ne.symm (Nat.ne_of_lt hIl)
              have fr : s'.heap.get? s'.heap.objs.size = none := by
                cases q : s'.heap.get? s'.heap.objs.size with
                | none => rfl
                | some o => exact absurd (Heap.lt_size q) (Nat.lt_irrefl _)
              have R₄ : Rel C W' σ₂ ((s'.heap.objs.size, tupO [.int (i : Nat) s'.toks, y]) :: (Ee, enumO I ((i + 1 : Nat) : Int) y) :: (I, oI₃) :: X) { s' with heap := h₄, toks := s'.toks + 1 } := by
                refine R'.reX (fun p hp => ?_) ?_ (fun b x hb e => ?_) (Nat.succ_pos _)
                · rcases List.mem_cons.mp hp with rfl | hp
                  · exact ⟨hs₄.extBut _ _ hTE hT, .inr fr⟩
                  · rcases List.mem_cons.mp hp with rfl | hp
                    · refine ⟨?_, .inl (by simp)⟩
                      rw [show (((i + 1 : Nat) : Int)) = (i : Int) + 1 by push_cast; rfl]
                      exact hE₄
                    · rcases List.mem_cons.mp hp with rfl | hp
                      · exact ⟨hs₄.extBut _ _ (Ne.symm hne) hoI₃, .inl (by simp)⟩
                      · have hp1 : p.1 ∈ X.map (·.1) := List.mem_map.mpr ⟨p, hp, rfl⟩
                        have n1 : p.1 ≠ Ee := fun q => hEX (q ▸ hp1)
                        have n2 : p.1 ≠ I := fun q => hIX (q ▸ hp1)
                        exact ⟨hs₄.extBut _ _ n1 (hk₃ _ _ n1 n2 (R'.getX (.tail _ (.tail _ hp)))), .inl (by simp [hp1])⟩
                · rw [List.map_cons, List.nodup_cons]
                  refine ⟨fun hm => ?_, ndX⟩
                  simp only [List.map_cons, List.mem_cons] at hm
                  rcases hm with hm | hm | hm
                  · exact hTE hm
                  · exact hTI hm
                  · obtain ⟨p, hp, hpe⟩ := List.mem_map.mp hm
                    have := R'.getX (a := p.1) (o := p.2) (.tail _ (.tail _ hp))
                    rw [hpe, fr] at this; exact noneE this
                · simp only [List.map_cons, List.mem_cons, not_or] at hb
                  exact hs₄.extBut _ _ hb.1 (hk₃ _ _ hb.1 hb.2.1 e)
              have T : Tns C [.Name xi pi, .Name xv pv] [ii, iv] := .cons hni (.cons hnv .nil)
              rw [assign_Tuple]
              refine wpAny_bind (wpAny_standAt ?_)
              unfold unpack
              rw [T.each.1, T.each.2]
              refine wpAny_bind (wpAny_holding (unpackItems_tuple (items := #[.int (i : Nat) s'.toks, y]) K.handled ⟨_, R₄.getX (.head _), rfl, _, rfl⟩ fun h₅ he₅ => ?_))
              have R₅ := R₄.ext he₅
              refine T.run K (vs := [.int (i : Nat), v]) R₅ (.cons (.int _ _) (.cons ry .nil)) fun s₆ R₆ => ?_
              refine hb W' _ _ s₆ fl σ₃ _ _ e₃ R₆ fun W₇ u s₇ l₇ R₇ fr => ?_
              have le₇ := Wd.le_trans (Wd.le_trans l₀ l₁) (Wd.le_trans le l₇)
              induction fr with
              | next => exact ⟨j, Nat.lt_succ_self _, .mk W₇ σ₃ (i + 1) y oI₃ (Wd.le_trans le l₇) hcI₃ hdI₃ R₇.dropX e₄⟩
              | cont => exact ⟨j, Nat.lt_succ_self _, .mk W₇ σ₃ (i + 1) y oI₃ (Wd.le_trans le l₇) hcI₃ hdI₃ R₇.dropX e₄⟩
              | brk => induction e₄ using someC; exact h W₇ _ s₇ le₇ R₇.dropX.dropX.dropX .next
              | ret v x rv => induction e₄ using someC; exact h W₇ _ s₇ le₇ R₇.dropX.dropX.dropX (.ret v x rv)
            · rename_i hv
              induction e' using someC
              have : ys[i]? = none := by
                rw [List.getElem?_eq_none_iff] at hv ⊢
                rw [← rys.length]; exact hv
              refine wpAny_pyNext_enum_end K.handled (R'.getX (.head _)) hIt hL (by simpa using this) fun h₃ hx₃ => ?_
              exact wpAny_execs_nil (h W' _ _ (Wd.le_trans (Wd.le_trans l₀ l₁) le) ((R'.dropX).endX (tk := s'.toks) (fun b x hb e => hx₃ b x hb e) R'.tk) .next)
        · exact noneE e'
  | _ => exact noneE e₂
end
end Mine
end
section
open PySem PySem.W PyProof.Rows PySem.Calls
namespace Mine
theorem Ev.callU {G : Gd} {C : Cx} {V : Vw} (K : COk1 G C) (VV : VG V) {d : FnD} (hd : d ∈ G.fns) {x : Str} {p pos : Pos} {es : List Expr} {f : PS → Option (List PV × PS)} {g : List PV → PS → Option (PV × PS)} (hx : V.env.kindOf x = some .globalImplicit)
    (e : nsIn G.K mainGlobals x = some (some (.ref d.f))) (hdb : (x == ("__debug__" : Str)) = false) (H : Evs G C V es f) (hc : Cl G C (.ref d.f) g) : Ev G C V (.Call (.Name x p) es [] pos) (fun σ => fbf f σ fun vs σ => g vs σ) := by
  obtain ⟨fo, h1, h2, _⟩ := K.gd.fn d hd
  exact Ev.callF (Ev.glo K VV hx e (fun _ => .raw _) hdb) h1 h2 H hc
noncomputable def closGo (cells : List (Str × Addr)) : List (Str × NameKind) → List (Str × Addr) → List (Str × Addr)
  | [], acc => acc
  | (n, .free) :: r, acc => closGo cells r ((n, (cells.lookup n).getD 0) :: acc)
  | _ :: r, acc => closGo cells r acc
noncomputable def closOf (sc : Scope) (env : Env) : List (Str × Addr) := closGo env.cells sc.names []
noncomputable def nthS (l : List Stmt) (i : Nat) : Stmt := (l[i]?).getD (.Pass default)
@[reducible] noncomputable def pick {s t : Stmt} (_ : s = t) : Stmt := t
noncomputable def sBody : Stmt → List Stmt
  | .For _ _ b _ _ => b
  | .While _ b _ _ => b
  | .If _ b _ _ => b
  | _ => []
noncomputable def sElse : Stmt → List Stmt
  | .If _ _ b _ => b
  | _ => []
noncomputable def fnP : Stmt → Arguments
  | .FunctionDef _ p .. => p
  | _ => default
noncomputable def fnB : Stmt → List Stmt
  | .FunctionDef _ _ b .. => b
  | _ => []
noncomputable def fnS : Stmt → Scope
  | .FunctionDef _ _ _ _ _ _ s .. => s
  | _ => default
noncomputable def scOk (sc : Scope) (x : Str) : Bool := (sc.names.all fun y => decide (y.2 ≠ .cell) && (decide (y.2 ≠ .local) || decide (sc.names.lookup y.1 = some .local))) && (decide (sc.kind = .function) && decide (sc.names.lookup x = some .local))
theorem scOk_cell {sc : Scope} {x : Str} (h : scOk sc x = true) : ∀ y ∈ sc.names, y.2 ≠ .cell := fun y hy => of_decide_eq_true (Bool.and_eq_true_iff.mp (List.all_eq_true.mp (Bool.and_eq_true_iff.mp h).1 y hy)).1
theorem scOk_names {sc : Scope} {x : Str} (h : scOk sc x = true) : ∀ y ∈ sc.names, y.2 = .local → sc.names.lookup y.1 = some .local := fun y hy q => by
  rcases Bool.or_eq_true_iff.mp (Bool.and_eq_true_iff.mp (List.all_eq_true.mp (Bool.and_eq_true_iff.mp h).1 y hy)).2 with h | h
  · exact absurd q (of_decide_eq_true h)
  · exact of_decide_eq_true h
theorem scOk_kind {sc : Scope} {x : Str} (h : scOk sc x = true) : sc.kind = .function := of_decide_eq_true (Bool.and_eq_true_iff.mp (Bool.and_eq_true_iff.mp h).2).1
theorem scOk_x {sc : Scope} {x : Str} (h : scOk sc x = true) : sc.names.lookup x = some .local := of_decide_eq_true (Bool.and_eq_true_iff.mp (Bool.and_eq_true_iff.mp h).2).2
theorem Ev.compT {G : Gd} {C : Cx} (K : COk1 G C) {elt iter : Expr} {x : Str} {px : Pos} {ifs : List Expr} {sc : Scope} {pos : Pos} {fi : PS → Option (PV × PS)} {ts : PV → PS → Option (Bool × PS)} {el : PV → PS → Option (PV × PS)} (n : Nat)
    (hi : Ev G C (fv C) iter fi) (ht : ∀ Cn v, Cts G C (cvw C sc (closOf sc C.fenv) Cn x v) ifs (ts v)) (hel : ∀ Cn v, Ev G C (cvw C sc (closOf sc C.fenv) Cn x v) elt (el v))
    (hclos : closureFor sc C.fenv = pure (closOf sc C.fenv)) (hsc : scOk sc x = true) (hs : ∀ x, foldedSetIterable iter C.fenv x = pure x) :
    Ev G C (fv C) (.ListComp elt [⟨.Name x px, iter, ifs, 0⟩] sc pos) (fun σ => fbf fi σ fun v σ => fb (fcomp (nxOf v) ts el n 0 [] σ) fun acc σ => fnew (.list acc) σ) := Ev.comp K n hi hclos (scOk_cell hsc) (scOk_kind hsc) (scOk_names hsc) (scOk_x hsc) ht hel hs
theorem X1.compT {G : Gd} {C : Cx} (K : COk1 G C) {elt iter : Expr} {x y : Str} {px py : Pos} {ifs : List Expr} {sc : Scope} {pos spos : Pos} {fi : PS → Option (PV × PS)} {ts : PV → PS → Option (Bool × PS)} {el : PV → PS → Option (PV × PS)} (i n : Nat)
    (hi : Ev G C (fv C) iter fi) (ht : ∀ Cn v, Cts G C (cvw C sc (closOf sc C.fenv) Cn x v) ifs (ts v)) (hel : ∀ Cn v, Ev G C (cvw C sc (closOf sc C.fenv) Cn x v) elt (el v)) (hn : C.nm[i]? = some (y, false))
    (hclos : closureFor sc C.fenv = pure (closOf sc C.fenv)) (hsc : scOk sc x = true)
    (hsw : swapsWith (.ListComp elt [⟨.Name x px, iter, ifs, 0⟩] sc pos) (some (.Name y py)) spos.line C.fenv = pure true) (hs : ∀ x, foldedSetIterable iter C.fenv x = pure x) :
    X1 G C (.Assign [.Name y py] (.ListComp elt [⟨.Name x px, iter, ifs, 0⟩] sc pos) spos) (fun σ => fbf fi σ fun v σ => fb (fcomp (nxOf v) ts el n 0 [] σ) fun acc σ => fb (fnew (.list acc) σ) fun v σ => some (.next, fset i v σ)) := X1.comp K n hn hi hclos (scOk_cell hsc) (scOk_kind hsc) (scOk_names hsc) (scOk_x hsc) ht hel hsw hs
end Mine
end
section
open PySem PySem.W PyProof.Rows PySem.Calls
namespace Mine
section
variable {prog : Program} {w : World} {A : Around} {E : Value → Shared → Prop} {s : Shared} {KK : Frag} {x c : Addr} {ox : Obj} {od : Option Obj}
theorem call_meth {env : Env} {o : Expr} {name : Str} {apos pos : Pos} {args : List Expr} {Q : Value → Shared → Prop} (hbase : attributeBase o name env (eval o env) = eval o env)
    (hall : (backTo pos (starEach args env)).all (fun x => !x.1) = true) (hl : decide (args.length < 30) = true) (hline : (apos.endLine == pos.line) = true)
    (h : wpAny (model prog w) A (eval o env) (fun ov s₁ => ∀ pl, wpAny (model prog w) A (getMethod ov name pl) (fun r s₂ => wpAny (model prog w) A (callWith pos r.1 r.2 (backTo pos (starEach args env)) []) Q E s₂) E s₁) E s) :
    wpAny (model prog w) A (eval (.Call (.Attribute o name apos) args [] pos) env) Q E s := by
  rw [arm_eval_Call, hbase]
  refine wpAny_bind (wpAny_mono h (fun ov s₁ h₁ => ?_) fun _ _ e => e)
  refine wpAny_bind (wpAny_standAt ?_)
  have hform : methodCallForm (args.length + ([] : List Keyword).length) (backTo pos (starEach args env)) (backToKw pos (keywordEach [] env)) = true := by
    unfold methodCallForm
    rw [hall]
    show decide (args.length + 0 + 0 < 30) = true
    simpa using of_decide_eq_true hl
  have hpos : methodCallPos true o env apos pos = pure pos := by unfold methodCallPos; simp [hline]
  unfold methodCall
  rw [hform]
  refine wpAny_bind (wpAny_holding ?_)
  refine wpAny_mono (h₁ _) (fun r s₂ h₂ => wpAny_bind (wpAny_of_eq hpos h₂)) fun _ _ e => e
theorem method_blt {id : String} {name : Str} {pl : Sem Bool} {Q : Value × List Value → Shared → Prop} (X : KK.In s.heap) (I : InstAt s.heap x ox c od) {ga : String} (hga : findIn KK (.ref c) "__getattribute__" = some (some (.builtin ga))) (hcan : (Manifest.canonical ga != "object.__getattribute__") = false) (hk : findIn KK (.ref c) "__getattr__" = some none)
    (hf : findIn KK (.ref c) name = some (some (.builtin id))) (ht : typeOf (.builtin id) = pure (.type "method_descriptor")) (hs : shadowIn od name = some false) (h : Q (.builtin id, [.ref x]) s) :
    wpAny (model prog w) A (getMethod (.ref x) name pl) Q E s := by
  unfold getMethod specialOf
  refine wpAny_bind (wpAny_bind (I.type.here ((looks_findIn X hga).here ?_)))
  dsimp only
  rw [hcan, if_neg (by decide)]
  refine wpAny_bind (wpAny_bind (I.type.here ((looks_findIn X hk).here ?_)))
  refine wpAny_bind (wpAny_bind (I.type.here ((looks_findIn X hf).here (wpAny_bind (wpAny_of_eq ht ?_)))))
  rw [if_neg (by decide +kernel)]
  refine wpAny_bind (wpAny_loadPart I.at_ ?_)
  have hd := I.dict
  cases e : ox.dict with
  | none => exact wpAny_bind (wpAny_rule (wpAny_pure h))
  | some dx =>
    induction od using optC with
    | none => rw [e] at hd; exact hd.elim
    | some o =>
      rw [e] at hd
      obtain ⟨r, a, b⟩ := Option.map_eq_some_iff.mp hs
      refine wpAny_bind (wpAny_bind (wpAny_loadPart hd ?_))
      rw [nsLook_of a]
      refine wpAny_pure ?_
      rw [b]
      exact wpAny_bind (wpAny_rule (wpAny_pure h))
theorem method_def {f : Addr} {name : Str} {pl : Sem Bool} {Q : Value × List Value → Shared → Prop} (X : KK.In s.heap) (I : InstAt s.heap x ox c od) {ga : String} (hga : findIn KK (.ref c) "__getattribute__" = some (some (.builtin ga))) (hcan : (Manifest.canonical ga != "object.__getattribute__") = false) (hk : findIn KK (.ref c) "__getattr__" = some none)
    (hf : findIn KK (.ref c) name = some (some (.ref f))) (ht : typeIn KK (.ref f) = some (.type "function")) (hs : shadowIn od name = some false) (h : Q (.ref f, [.ref x]) s) :
    wpAny (model prog w) A (getMethod (.ref x) name pl) Q E s := by
  unfold getMethod specialOf
  refine wpAny_bind (wpAny_bind (I.type.here ((looks_findIn X hga).here ?_)))
  dsimp only
  rw [hcan, if_neg (by decide)]
  refine wpAny_bind (wpAny_bind (I.type.here ((looks_findIn X hk).here ?_)))
  refine wpAny_bind (wpAny_bind (I.type.here ((looks_findIn X hf).here (wpAny_bind ((looks_typeIn X ht).here ?_)))))
  rw [if_neg (by decide +kernel)]
  refine wpAny_bind (wpAny_loadPart I.at_ ?_)
  have hd := I.dict
  cases e : ox.dict with
  | none => exact wpAny_bind (wpAny_rule (wpAny_pure h))
  | some dx =>
    induction od using optC with
    | none => rw [e] at hd; exact hd.elim
    | some o =>
      rw [e] at hd
      obtain ⟨r, a, b⟩ := Option.map_eq_some_iff.mp hs
      refine wpAny_bind (wpAny_bind (wpAny_loadPart hd ?_))
      rw [nsLook_of a]
      refine wpAny_pure ?_
      rw [b]
      exact wpAny_bind (wpAny_rule (wpAny_pure h))
theorem isInst_sub {U : String} {Q : Bool → Shared → Prop} (X : KK.In s.heap) (I : InstAt s.heap x ox c od) (hm : mroIn KK c (.type U) = some true) (hQ : Q true s) : wpAny (model prog w) A (isInstance (.ref x) (.type U)) Q E s := by
  simp only [isInstance]
  exact wpAny_bind (I.type.here ((looks_mroIn X hm).here hQ))
theorem call_sub {id owner n : String} {b : Builtin} {rest : List Value} {Q : Value → Shared → Prop} (hsplit : splitId id = some (owner, n))
    (hkind : (Manifest.find? owner).bind (·.attrs.lookup n) = some .slot ∨ (Manifest.find? owner).bind (·.attrs.lookup n) = some .method) (hq : plainId id = true)
    (X : KK.In s.heap) (I : InstAt s.heap x ox c od) (hm : mroIn KK c (.type owner) = some true) (hb : entryFor table id = some b) (ha : argsOk id ⟨.ref x :: rest, []⟩)
    (hc : wpAny (model prog w) A.in1 (b ⟨.ref x :: rest, []⟩) (fun fin s' => ∃ v, fin = .done (.ret v) ∧ Q v s') E s) : wpAny (model prog w) A (call (.builtin id) (.ref x :: rest)) Q E s := by
  have hk : builtinKind id = (Manifest.find? owner).bind (·.attrs.lookup n) := by simp only [builtinKind, hsplit]
  refine wpAny_call (codeAny_call_builtin hq hb ?_)
  have chk : ∀ (Q' : Unit → Shared → Prop), Q' () s → wpAny (model prog w) A.in1 (checkBuiltinCall id ⟨.ref x :: rest, []⟩) Q' E s := by
    intro Q' hQ
    rcases hkind with h | h <;>
    · simp only [checkBuiltinCall, hk, h, hsplit]
      refine wpAny_bind (isInst_sub X I hm ?_)
      simp only [Bool.not_true, Bool.false_eq_true, if_false]
      cases hsig : Manifest.signature? id with
      | none => exact wpAny_pure hQ
      | some sig =>
        simp only [argsOk, hsig] at ha
        have h2 : Bind.checkArgs id sig ⟨.ref x :: rest, []⟩ = pure () := ha
        show wpAny _ _ (Bind.checkArgs id sig ⟨.ref x :: rest, []⟩) _ E s
        rw [h2]; exact wpAny_pure hQ
  exact chk _ (wpAny_mono hc (fun fin s' h' => by obtain ⟨v, rfl, hv⟩ := h'; exact hv) fun _ _ e => e)
end
end Mine
end
section
open PySem PySem.W PyProof.Rows PySem.Calls
namespace Mine
noncomputable def isAcc (v : PV) (σ : PS) : Bool := match v with
  | .ref l => match σ.mem[l]? with
    | some (.acc _ _) => true
    | _ => false
  | _ => false
noncomputable def accApp : List PV → PS → Option (PV × PS)
  | [.ref l, v], σ => match σ.mem[l]? with
    | some (.acc n xs) => if xs.length ≤ 4096 then some (.none, ⟨σ.vars, σ.mem.set l (.acc n (xs ++ [v]))⟩) else none
    | _ => none
  | _, _ => none
structure AccK (G : Gd) : Prop where
  ga : findIn G.K (.ref G.acc) "__getattribute__" = some (some (.builtin "list.__getattribute__"))
  can : (Manifest.canonical "list.__getattribute__" != "object.__getattribute__") = false
  gt : findIn G.K (.ref G.acc) "__getattr__" = some none
  app : findIn G.K (.ref G.acc) "append" = some (some (.builtin "list.append"))
  list : mroIn G.K G.acc (.type "list") = some true
section
variable {G : Gd} {C : Cx} {V : Vw}
theorem acc_at (K : COk1 G C) {W σ X s} {l : Nat} {n : Int} {xs : List PV} {ad : Addr} (R : Rel C W σ X s) (hx : σ.mem[l]? = some (.acc n xs)) (ha : W.mu[l]? = some ad) :
    ∃ vs e dx t u, s.heap.get? ad = some (accO G.acc dx vs e) ∧ VRels W xs vs ∧ (dx, accD G.w.params n t u) ∈ W.T ∧ InstAt s.heap ad (accO G.acc dx vs e) G.acc (some (accD G.w.params n t u)) := by
  obtain ⟨o, ho, ro⟩ := R.getM hx ha
  induction ro using ORel.accC with
  | acc vs e dx t u rv hm =>
    rw [K.acC] at ho
    rw [K.acP] at hm
    exact ⟨vs, e, dx, t, u, ho, rv, hm, ho, rfl, rfl, R.getT hm⟩
theorem accE {P : Prop} (K : COk1 G C) {W σ X s} {l : Nat} {n : Int} {xs : List PV} {ad : Addr} (R : Rel C W σ X s) (hx : σ.mem[l]? = some (.acc n xs)) (ha : W.mu[l]? = some ad)
    (h : ∀ vs e dx t u, s.heap.get? ad = some (accO G.acc dx vs e) → VRels W xs vs → (dx, accD G.w.params n t u) ∈ W.T → InstAt s.heap ad (accO G.acc dx vs e) G.acc (some (accD G.w.params n t u)) → P) : P := by
  obtain ⟨vs, e, dx, t, u, a, b, c, d⟩ := acc_at K R hx ha
  exact h vs e dx t u a b c d
theorem accD_shadow (P : Params) (n : Int) (t u : Tok) {name : Str} (h : (name == Str.ofString "_initial_size") = false) (h' : (Str.ofString "_initial_size" == name) = false) : shadowIn (some (accD P n t u)) name = some false := by
  unfold shadowIn lookIn accD
  simp only [List.find?_cons, List.find?_nil, DictEntry.refKey, Value.isStr, h']
  simp
theorem mapSeq_acc {c dx : Addr} {vs : List Value} {e : Nat} {f : Array Value → Array Value} : ∃ e', (accO c dx vs e).mapSeq f = accO c dx (f vs.toArray).toList e' := by
  unfold accO Obj.mapSeq
  exact ⟨_, by simp; rfl⟩
theorem accApp_ok (K : COk1 G C) (AK : AccK G) {W σ X s} {l : Nat} {v : PV} {ad : Addr} {y : Value} {r : PV} {σ' : PS} {Q : Value → Shared → Prop} {E : Value → Shared → Prop} (e : accApp [.ref l, v] σ = some (r, σ')) (R : Rel C W σ X s) (ha : W.mu[l]? = some ad) (rv : VRel W v y)
    (h : Po C W σ' X r Q) : wpAny (model G.p G.w) C.A (call (.builtin "list.append") [.ref ad, y]) Q E s := by
  simp only [accApp] at e
  split at e
  · rename_i n xs hx
    split at e
    · rename_i hl
      induction e using someC
      refine accE K R hx ha fun vs e dx t u ho rvs hm I => ?_
      refine call_sub (owner := "list") (n := "append") (by decide +kernel) (.inr (by decide +kernel)) (by decide +kernel) (K.gd.frag.keeps fun _ _ => R.keep) I AK.list entry_list_append (args_list_append _ _) ?_
      show wpAny _ _ (updateSeq ad (·.push y) >>= fun _ => ret .none) _ _ s
      obtain ⟨e', hms⟩ := mapSeq_acc (c := G.acc) (dx := dx) (vs := vs) (e := e) (f := (·.push y))
      have hsz : vs.toArray.size ≤ sizeLine := by rw [List.size_toArray, ← rvs.length]; exact Nat.le_trans hl size4096
      refine wpAny_bind (wpAny_updateSeq (hz := hsz) (_hz' := by rw [Array.size_push]; omega) ho rfl (wpAny_pure ⟨.none, rfl, ?_⟩))
      have hget : (s.heap.update ad (Obj.mapSeq (·.push y))).get? ad = some (accO G.acc dx (vs ++ [y]) e') := by
        rw [Heap.get?_update_self _ ho (by rw [hms]; rfl), hms]
        simp
      refine h W _ _ (Wd.le_refl _) (R.setM hx ha (Heap.SameBut.update ..) hget ?_) .none
      rw [← K.acC]
      exact .acc n _ _ e' dx t u (rvs.snoc rv) (K.acP ▸ hm)
    · exact noneE e
  · exact noneE e
theorem Ev.accApp (K : COk1 G C) (AK : AccK G) {o : Expr} {es : List Expr} {ap pos : Pos} {fo : PS → Option (PV × PS)} {f : PS → Option (List PV × PS)} (ho : Ev G C V o fo) (H : Evs G C V es f)
    (hbase : attributeBase o (Str.ofString "append") V.env (eval o V.env) = eval o V.env) (hl : decide (es.length < 30) = true) (hline : (ap.endLine == pos.line) = true) :
    Ev G C V (.Call (.Attribute o (Str.ofString "append") ap) es [] pos) (fun σ => fbf fo σ fun v σ => if isAcc v σ = true then fbf f σ fun us σ => Mine.accApp (v :: us) σ else none) := by
  intro W σ X s r σ' Q E q R ok h
  refine fbE q fun v σ₁ e₁ q => ?_
  split at q
  · rename_i hacc
    refine fbE q fun us σ₂ e₂ e₃ => ?_
    refine call_meth hbase (H.alln _) hl hline (ho W σ X s v σ₁ _ E e₁ R ok fun W₁ z s₁ l₁ R₁ rz pl => ?_)
    unfold isAcc at hacc
    split at hacc
    · rename_i l
      split at hacc
      · rename_i n xs hx
        induction rz using VRel.refC with
        | ref ad ha =>
          refine accE K R₁ hx ha fun vs ee dx t u' hoA rvs hm I => ?_
          refine method_blt (K.gd.frag.keeps fun _ _ => R₁.keep) I AK.ga AK.can AK.gt AK.app F.type_list_append (accD_shadow _ _ _ _ (by decide) (by decide)) ?_
          refine Calls.callWith_builtin (H.plain _) (H.args _ e₂ R₁ (V.mono l₁ ok) fun W₂ ys s₂ l₂ R₂ rs => ?_)
          induction us using listC with
          | nil => cases e₃
          | cons u us => induction us using listC with
            | cons _ _ => cases e₃
            | nil =>
              induction rs using VRels.consC with | cons r1 rs => induction rs using VRels.nilC with | nil =>
              exact accApp_ok K AK e₃ R₂ (mu_mono l₂ ha) r1 fun W₃ z s₃ l₃ R₃ r₃ => h W₃ z s₃ (Wd.le_trans l₁ (Wd.le_trans l₂ l₃)) R₃ r₃
      · cases hacc
    · cases hacc
  · exact noneE q
theorem Ev.accM (K : COk1 G C) (AK : AccK G) {o : Expr} {name : Str} {ap pos : Pos} {es : List Expr} {fo : PS → Option (PV × PS)} {f : PS → Option (List PV × PS)} {fa : Addr} {fd : FuncData} {fobj : Obj} {g : List PV → PS → Option (PV × PS)} (hfind : findIn G.K (.ref G.acc) name = some (some (.ref fa))) (hty : typeIn G.K (.ref fa) = some (.type "function"))
    (hfo : C.h₀.get? fa = some fobj) (hfd : fobj.data = .func fd) (hn1 : (name == Str.ofString "_initial_size") = false) (hn2 : (Str.ofString "_initial_size" == name) = false)
    (ho : Ev G C V o fo) (H : Evs G C V es f) (hc : Cl G C (.ref fa) g) (hbase : attributeBase o name V.env (eval o V.env) = eval o V.env) (hl : decide (es.length < 30) = true) (hline : (ap.endLine == pos.line) = true) :
    Ev G C V (.Call (.Attribute o name ap) es [] pos) (fun σ => fbf fo σ fun v σ => if isAcc v σ = true then fbf f σ fun vs σ => g (v :: vs) σ else none) := by
  intro W σ X s r σ' Q E q R ok h
  refine fbE q fun v σ₁ e₁ q => ?_
  split at q
  · rename_i hacc
    refine fbE q fun us σ₂ e₂ e₃ => ?_
    refine call_meth hbase (H.alln _) hl hline (ho W σ X s v σ₁ _ E e₁ R ok fun W₁ z s₁ l₁ R₁ rz pl => ?_)
    unfold isAcc at hacc
    split at hacc
    · rename_i l
      split at hacc
      · rename_i n xs hx
        induction rz using VRel.refC with
        | ref ad ha =>
          refine accE K R₁ hx ha fun vs ee dx t u' hoA rvs hm I => ?_
          refine method_def (K.gd.frag.keeps fun _ _ => R₁.keep) I AK.ga AK.can AK.gt hfind hty (accD_shadow _ _ _ _ hn1 hn2) ?_
          refine Calls.callWith_function (fd := fd) (o := fobj) (H.args _ e₂ R₁ (V.mono l₁ ok) fun W₂ ys s₂ l₂ R₂ rs => ⟨⟨R₂.keep hfo, hfd⟩, ?_⟩)
          exact hc W₂ σ₂ X s₂ (.ref l :: us) (.ref ad :: ys) r σ' Q E e₃ R₂ (.cons (.ref l ad (mu_mono l₂ ha)) rs) fun W₃ z s₃ l₃ R₃ r₃ => h W₃ z s₃ (Wd.le_trans l₁ (Wd.le_trans l₂ l₃)) R₃ r₃
      · cases hacc
    · cases hacc
  · exact noneE q
end
end Mine
end
section
open PySem PySem.W PyProof.Rows PySem.Calls
namespace Mine
noncomputable def mReplS (v : PV) (y z : Str) (σ : PS) : Option (PV × PS) := match v with
  | .str x => if x.length ≤ 4096 ∧ z.length ≤ 14 ∧ (y == z) = false then some (.str (Txt.replace (mkS' x) y z).cps.toList, σ) else none
  | _ => none
section
variable {G : Gd} {C : Cx} {V : Vw}
theorem Ev.repl {o : Expr} {y z : Str} {k k' : Nat} {p p' ap pos : Pos} {fo : PS → Option (PV × PS)} {f : PS → Option (List PV × PS)} (ho : Ev G C V o fo) (H : Evs G C V [.Constant (.str y) k p, .Constant (.str z) k' p'] f)
    (hbase : attributeBase o (Str.ofString "replace") V.env (eval o V.env) = eval o V.env) (hline : (ap.endLine == pos.line) = true) :
    Ev G C V (.Call (.Attribute o (Str.ofString "replace") ap) [.Constant (.str y) k p, .Constant (.str z) k' p'] [] pos) (fun σ => fbf fo σ fun v σ => mReplS v y z σ) := by
  intro W σ X s r σ' Q E q R ok h
  refine fbE q fun v σ₁ e₁ q => ?_
  refine call_meth hbase (H.alln _) rfl hline (ho W σ X s v σ₁ _ E e₁ R ok fun W₁ zv s₁ l₁ R₁ rz pl => ?_)
  unfold mReplS at q
  split at q
  · rename_i x
    split at q
    · rename_i hc
      induction q using someC
      induction rz using VRel.strC with
      | str t =>
        refine getMethod_builtin (T := "str") (typeIs_str _ _ _) F.plainAttrs_str F.slot_str_replace F.type_str_replace (fun a e => nomatch e) ?_
        refine Calls.callWith_builtin (H.plain _) ?_
        have he : starEach [.Constant (.str y) k p, .Constant (.str z) k' p'] V.env = (false, eval (.Constant (.str y) k p) V.env) :: starEach [.Constant (.str z) k' p'] V.env := rfl
        rw [he]
        refine evalArgs_plain ?_
        have ht := R₁.tk
        refine wpAny_items_cons (e := .Constant (.str y) k p) (rest := [.Constant (.str z) k' p']) (wpAny_Constant_str (wpAny_items_cons (e := .Constant (.str z) k' p') (rest := []) (wpAny_Constant_str (wpAny_items_nil ?_))))
        refine wpAny_with_toks (n := 1) (Nat.le_trans R₁.tk (by show s₁.toks ≤ s₁.toks + 1 + 1; omega)) (SC.replaceW (Nat.ne_of_gt ht) (Nat.succ_ne_zero _) (Nat.ne_of_lt (Nat.lt_succ_self _)) hc.2.2 (by rw [mkS'_len]; omega) hc.2.1 fun t' kk hkk => ?_)
        have := h W₁ _ _ l₁ (R₁.toks kk hkk) (.str (Txt.replace (mkS' x) y z).cps.toList t')
        rw [mk_of] at this
        exact this
    · exact noneE q
  · exact noneE q
end
end Mine
end
section
open PySem PySem.W PyProof.Rows PySem.Calls
namespace Mine
mutual
noncomputable def belowV (n : Nat) : PV → Bool
  | .ref l => decide (l < n)
  | .tup vs => belowL n vs
  | .flist vs => belowL n vs
  | _ => true
noncomputable def belowL (n : Nat) : List PV → Bool
  | [] => true
  | v :: r => belowV n v && belowL n r
end
noncomputable def belowO (n : Nat) : PO → Bool
  | .list xs => belowL n xs
  | .dict es => belowL n (es.map (·.2))
  | .acc _ xs => belowL n xs
  | .tab _ => true
  | .gone => true
noncomputable def cutV (n : Nat) : Option PV → Option PV
  | some v => if belowV n v = true then some v else none
  | none => none
noncomputable def cutS (n : Nat) (σ : PS) : PS := ⟨σ.vars.map (cutV n), σ.mem.take n⟩
noncomputable def cutW (n : Nat) (W : Wd) : Wd := ⟨W.mu.take n, W.T⟩
mutual
theorem VRel.cut {W : Wd} {n : Nat} : ∀ {v : PV} {x : Value}, belowV n v = true → VRel W v x → VRel (cutW n W) v x
  | _, _, _, .none => .none
  | _, _, _, .bool b => .bool b
  | _, _, _, .int i t => .int i t
  | _, _, _, .str s t => .str s t
  | .ref l, _, h, .ref _ a e => .ref l a (by
      have hl : l < n := by simpa [belowV] using h
      show (W.mu.take n)[l]? = some a
      rw [List.getElem?_take_of_lt hl]; exact e)
  | .tup vs, _, h, .tup _ xs a m r => .tup vs xs a m (VRels.cut (by simpa [belowV] using h) r)
  | _, _, _, .rng a b c t u v x m => .rng a b c t u v x m
  | _, _, _, .raw v => .raw v
  | .flist vs, _, h, .flist _ xs k a m r => .flist vs xs k a m (VRels.cut (by simpa [belowV] using h) r)
theorem VRels.cut {W : Wd} {n : Nat} : ∀ {vs : List PV} {xs : List Value}, belowL n vs = true → VRels W vs xs → VRels (cutW n W) vs xs
  | _, _, _, .nil => .nil
  | v :: vs, _, h, .cons r rs => by
    have : belowV n v = true ∧ belowL n vs = true := by simpa [belowL] using h
    exact .cons (VRel.cut this.1 r) (VRels.cut this.2 rs)
end
theorem DRel.cut {W : Wd} {n : Nat} {es : List (List Nat × PV)} {ds : List (Str × Value)} (h : belowL n (es.map (·.2)) = true) (r : DRel W es ds) : DRel (cutW n W) es ds := by
  induction r with
  | nil => exact .nil
  | cons r _ ih =>
    have := Bool.and_eq_true_iff.mp h
    exact .cons (r.cut this.1) (ih this.2)
theorem ORel.cut {A : Acc} {W : Wd} {n : Nat} {po : PO} {a : Addr} {o : Obj} (h : belowO n po = true) (r : ORel A W po a o) : ORel A (cutW n W) po a o := by
  cases r with
  | list xs vs k r => exact .list xs vs k (r.cut h)
  | dict es ds o r d => exact .dict es ds o (r.cut h) d
  | acc i xs vs e dx t u r m => exact .acc i xs vs e dx t u (r.cut h) m
  | tab _ vs ht => exact .tab _ vs ht
  | gone h => exact .gone h
theorem MRel.cut {A : Acc} {W : Wd} {n k : Nat} {ps : List PO} {l : Led} (h : ∀ po ∈ ps.take k, belowO n po = true) (r : MRel A W ps l) : MRel A (cutW n W) (ps.take k) (l.take k) := by
  induction r generalizing k with
  | nil => rw [List.take_nil, List.take_nil]; exact .nil
  | cons r rs ih => induction k using natC with
    | zero => exact .nil
    | succ k => exact .cons (r.cut (h _ (.head _))) (ih fun po hp => h po (.tail _ hp))
theorem cutV_some {n : Nat} {v : Option PV} {pv : PV} (e : cutV n v = some pv) : v = some pv ∧ belowV n pv = true := by
  induction v using optC with
  | none => cases e
  | some v =>
    simp only [cutV] at e
    split at e
    · rename_i hb
      induction e using some1C
      exact ⟨rfl, hb⟩
    · exact noneE e
theorem SRel.cut {W : Wd} {n : Nat} {cl : List (Str × Addr)} {m : Str → Option Value} {cs : Led} {nm : List (Str × Bool)} {vs : List (Option PV)} (r : SRel W cl m cs nm vs) : SRel (cutW n W) cl m cs nm (vs.map (cutV n)) := by
  induction r with
  | nil => exact .nil
  | loc k _ ih => exact .loc (fun pv e => let ⟨e1, e2⟩ := cutV_some e; let ⟨y, h1, h2⟩ := k pv e1; ⟨y, h1, h2.cut e2⟩) ih
  | cel a b c k _ ih => exact .cel a b c (fun pv e => let ⟨e1, e2⟩ := cutV_some e; let ⟨y, h1, h2⟩ := k pv e1; ⟨y, h1, h2.cut e2⟩) ih
theorem Rel.cut {C : Cx} {W : Wd} {σ : PS} {X : Led} {s : Shared} {n : Nat} (R : Rel C W σ X s) (h : ∀ po ∈ σ.mem.take n, belowO n po = true) : Rel C (cutW n W) (cutS n σ) X s := by
  refine Rel.exE R fun m cs ms F N nd sr mr mu => ?_
  have hs : (cs ++ (ms.take n ++ (W.T ++ X))).Sublist (cs ++ (ms ++ (W.T ++ X))) :=
    List.Sublist.append (List.Sublist.refl _) (List.Sublist.append (List.take_sublist _ _) (List.Sublist.refl _))
  exact ⟨⟨m, cs, ms.take n, F, fun p hp => N p (hs.subset hp), List.Nodup.sublist (hs.map _) nd, sr.cut, mr.cut h, by show (ms.take n).map _ = W.mu.take n; rw [List.map_take, mu]⟩, R.bare, R.os, R.tk⟩
noncomputable def dropS (ds : List Nat) (σ : PS) : PS := ⟨ds.foldl (fun vs i => vs.set i none) σ.vars, ds.foldl (fun ms i => if 1000 ≤ i then ms.set (i - 1000) .gone else ms) σ.mem⟩
theorem SRel.forget {W : Wd} {cl : List (Str × Addr)} {m : Str → Option Value} {cs : Led} {nm : List (Str × Bool)} {vs : List (Option PV)} {i : Nat} (r : SRel W cl m cs nm vs) : SRel W cl m cs nm (vs.set i none) := by
  induction r generalizing i with
  | nil => exact .nil
  | loc k r ih => induction i using natC with
    | zero => exact .loc (fun _ e => nomatch e) r
    | succ i => exact .loc k (ih (i := i))
  | cel a b c k r ih => induction i using natC with
    | zero => exact .cel a b c (fun _ e => nomatch e) r
    | succ i => exact .cel a b c k (ih (i := i))
theorem Rel.drop {C : Cx} {W : Wd} {σ : PS} {X : Led} {s : Shared} (R : Rel C W σ X s) (ds : List Nat) : Rel C W (dropS ds σ) X s := by
  refine Rel.exE R fun m cs ms F N nd sr mr mu => ?_
  refine ⟨⟨m, cs, ms, F, N, nd, ?_, ?_, mu⟩, R.bare, R.os, R.tk⟩
  · show SRel W C.fenv.cells m cs C.nm (ds.foldl (fun vs i => vs.set i none) σ.vars)
    clear R mr
    generalize σ.vars = vs at sr
    induction ds generalizing vs with
    | nil => exact sr
    | cons d ds ih => exact ih _ sr.forget
  · show MRel C.ac W (ds.foldl (fun ms i => if 1000 ≤ i then ms.set (i - 1000) .gone else ms) σ.mem) ms
    clear R sr
    generalize σ.mem = ps at mr
    induction ds generalizing ps with
    | nil => exact mr
    | cons d ds ih =>
      refine ih _ ?_
      dsimp only
      split
      · exact mr.gone
      · exact mr
noncomputable def ffin (ds : List Nat) (f : PS → Option (Fl × PS)) (σ : PS) : Option (Fl × PS) := match f σ with
  | some (.next, σ₁) => if (σ₁.mem.take σ.mem.length).all (belowO σ.mem.length) = true then some (.next, dropS ds (cutS σ.mem.length σ₁)) else none
  | o => o
theorem X1.fin {G : Gd} {C : Cx} {b : Stmt} {f : PS → Option (Fl × PS)} (ds : List Nat) (hb : X1 G C b f) : X1 G C b (ffin ds f) := by
  intro W σ X s r σ' Q E e R h
  unfold ffin at e
  split at e
  · rename_i σ₁ hf
    split at e
    · rename_i hall
      induction e using someC
      refine hb W σ X s _ _ _ _ hf R fun W' v s' le R' fr => ?_
      cases fr with
      | next =>
        obtain ⟨⟨ex, hex⟩, hT⟩ := le
        rw [List.all_eq_true] at hall
        refine h (cutW σ.mem.length W') _ s' ⟨⟨[], ?_⟩, hT⟩ ((R'.cut hall).drop ds) .next
        show W'.mu.take _ = _
        rw [hex, ← R.len, List.take_left, List.append_nil]
    · exact noneE e
  · exact hb W σ X s r σ' Q E e R h
theorem iter_okC {G : Gd} {C : Cx} {W : Wd} {σ : PS} {X : Led} {s : Shared} (K : COk1 G C) {v : PV} {x : Value} {r : Option PV} {Q : Value → Shared → Prop} {E : Value → Shared → Prop} (e : nxOf v 0 σ = some r) (R : Rel C W σ X s) (rv : VRel W v x)
    (h : ∀ I o ok s', Stp G C I ok (nxOf v) → (∀ n, belowV n v = true → ∀ i W o, ok i W o → ok i (cutW n W) o) → ok 0 W o → Rel C W σ ((I, o) :: X) s' → Q (.ref I) s') : wpAny (model G.p G.w) C.A (pyIter x) Q E s := by
  cases rv with
  | none => cases e
  | bool b => cases e
  | int i t => cases e
  | raw v => cases e
  | flist => cases e
  | str x t =>
    refine wpAny_pyIter_strU ?_
    exact h _ _ _ _ (stp_str K) (fun _ _ _ _ _ h => h) ⟨Nat.zero_le _, rfl, rfl⟩ (R.allocX rfl)
  | ref l a ha =>
    simp only [nxOf] at e
    split at e
    · rename_i xs hx
      refine Rel.getME R hx ha fun o' ho' ro => ?_
      induction ro using ORel.listC with
      | list vs n rv =>
        refine wpAny_pyIter_list ⟨_, ho', rfl, _, rfl⟩ ?_
        refine h _ _ _ _ (stp_list K) (fun n hb i W o hok => ⟨?_, hok.2⟩) ⟨ha, rfl, rfl⟩ (R.allocX rfl)
        have hl : l < n := by simpa [belowV] using hb
        show (W.mu.take n)[l]? = some a
        rw [List.getElem?_take_of_lt hl]; exact hok.1
    · exact noneE e
  | tup vs xs a hm rv =>
    refine wpAny_pyIter_tuple ⟨_, R.getT hm, rfl, _, rfl⟩ ?_
    refine h _ _ _ _ (stp_tup K) (fun n hb i W o hok => ⟨hok.1, hok.2.1.cut (by simpa [belowV] using hb), hok.2.2⟩) ⟨hm, rv, rfl, rfl⟩ (R.allocX rfl)
  | rng a b c t u v y hm =>
    simp only [nxOf] at e
    split at e
    · rename_i hc
      obtain ⟨rfl, hs⟩ := hc
      refine wpAny_pyIter_range (R.getT hm) hs ?_
      refine h _ _ _ _ (stp_rng K) (fun _ _ _ _ _ h => h) ⟨Builtin.Range.rangeSize a b 1, ?_, ?_⟩ (R.allocX rfl)
      · simp
      · unfold Builtin.Range.rangeSize
        rw [if_pos (by decide)]
        split
        · left; simp
        · right; refine ⟨Int.le_refl _, ?_⟩; simp; omega
    · exact noneE e
noncomputable def fforC (ds : List Nat) (n0 : Nat) (nx : Nat → PS → Option (Option PV)) (st : PV → PS → Option PS) (b : PS → Option (Fl × PS)) : Nat → Nat → PS → Option (Fl × PS)
  | 0, _, _ => none
  | n + 1, i, σ => match nx i σ with
    | some (some v) => match st v σ with
      | some σ₁ => fb (b σ₁) fun r σ₂ => match r with
        | .next => if (σ₂.mem.take n0).all (belowO n0) = true then fforC ds n0 nx st b n (i + 1) (dropS ds (cutS n0 σ₂)) else none
        | .ret v => some (.ret v, σ₂)
        | _ => none
      | none => none
    | some none => some (.next, σ)
    | none => none
theorem X1.forC {G : Gd} {C : Cx} (K : COk1 G C) {t e : Expr} {b : List Stmt} {p : Pos} {st : PV → PS → Option PS} {fe : PS → Option (PV × PS)} {f : PS → Option (Fl × PS)} (ds : List Nat) (n : Nat) (he : Ev G C (fv C) e fe) (ht : Tg G C t st) (hb : Xs G C b f)
    (hg : ∀ it v, letOwnedTupleGo t it v = pure () := by intro _ _; rfl) (hs : ∀ x, foldedSetIterable e C.fenv x = pure x := by intro _; rfl) :
    X1 G C (.For t e b [] p) (fun σ => fbf fe σ fun v σ => if belowV σ.mem.length v = true then fforC ds σ.mem.length (nxOf v) st f n 0 σ else none) := by
  intro W σ X s r σ' Q E e' R h
  refine fbE e' fun v σ₁ e₁ e₂ => ?_
  refine wpAny_For (he W σ X s v σ₁ _ E e₁ R trivial fun W₁ x s₁ l₁ R₁ rv => ?_) hs
  split at e₂
  · rename_i hbl
    have hnx : ∃ q, nxOf v 0 σ₁ = some q := by
      induction n using natC with
      | zero => cases e₂
      | succ n =>
        simp only [fforC] at e₂
        split at e₂
        · rename_i q; exact ⟨_, q⟩
        · rename_i q; exact ⟨_, q⟩
        · exact noneE e₂
    obtain ⟨q, hq⟩ := hnx
    refine iter_okC K hq R₁ rv fun I o ok s₂ S hcut hok R₂ => ?_
    have hlen := R₁.len
    refine codeAny_forLoop_any (FrInv C W₁ X I ok fun k i σ₂ => fforC ds σ₁.mem.length (nxOf v) st f k i σ₂ = some (r, σ')) ?_ n (.mk W₁ σ₁ 0 _ (Wd.le_refl _) hok R₂ e₂)
    rintro k s' ⟨W', σ₂, i, o', le, hok', R', e'⟩
    induction k using natC with
    | zero => cases e'
    | succ k =>
      simp only [fforC] at e'
      split at e'
      · rename_i w hw
        refine S.item i W' σ₂ X s' o' w _ _ hok' R' hw fun o₂ y s₃ hok₂ R₃ ry => ?_
        dsimp only
        rw [hg]
        refine wpAny_pure ?_
        split at e'
        · rename_i σ₃ h₃
          refine fbE e' fun fl σ₄ e₄ e₅ => ?_
          refine ht W' σ₂ _ s₃ w y σ₃ _ _ h₃ R₃ ry fun W₄ s₄ l₄ R₄ => ?_
          refine hb W₄ σ₃ _ s₄ fl σ₄ _ _ e₄ R₄ fun W₅ u s₅ l₅ R₅ fr => ?_
          have le₅ := Wd.le_trans le (Wd.le_trans l₄ l₅)
          induction fr with
          | next =>
            simp only at e₅
            split at e₅
            · rename_i hall
              rw [List.all_eq_true] at hall
              have hok₃ := hcut σ₁.mem.length hbl _ _ _ (S.mono (Wd.le_trans l₄ l₅) hok₂)
              obtain ⟨⟨ex, hex⟩, hT⟩ := le₅
              refine ⟨k, Nat.lt_succ_self _, .mk (cutW σ₁.mem.length W₅) (dropS ds (cutS σ₁.mem.length σ₄)) (i + 1) o₂ (⟨⟨[], ?_⟩, hT⟩) hok₃ ((R₅.cut hall).drop ds) e₅⟩
              show W₅.mu.take _ = _
              rw [hex, ← hlen, List.take_left, List.append_nil]
            · exact noneE e₅
          | cont => exact noneE e₅
          | brk => exact noneE e₅
          | ret v x rv => induction e₅ using someC; exact h W₅ _ s₅ (Wd.le_trans l₁ le₅) R₅.dropX (.ret v x rv)
        · exact noneE e'
      · rename_i hw
        induction e' using someC
        refine S.done i W' _ X s' o' _ _ hok' R' hw fun s₃ R₃ => ?_
        exact wpAny_execs_nil (h W' _ s₃ (Wd.le_trans l₁ le) R₃ .next)
      · exact noneE e'
  · exact noneE e₂
end Mine
end
section
open PySem PySem.W PyProof.Rows PySem.Calls
namespace Mine
section
variable {prog : Program} {w : World} {A : Around} {E : Value → Shared → Prop} {s : Shared} {KK : Frag} {x c : Addr} {ox : Obj} {od : Option Obj}
noncomputable def noSeqT (K : Frag) (C : Addr) : Bool := seqItemTypes.all fun n => subIn K (.ref C) (.type n) == some false
theorem getSl_sub {sl : Addr} {items : Array Value} {ne : Nat} {vl vu vs : Value} {lo hi st : Option Int} {Q : Value → Shared → Prop} (X : KK.In s.heap) (I : InstAt s.heap x ox c od) (hq : noSeqT KK c = true)
    (hg : findIn KK (.ref c) "__getitem__" = some (some (.builtin "list.__getitem__"))) (hm : mroIn KK c (.type "list") = some true) (hd : ox.data = .seq items ne)
    (hs : s.heap.IsSliceOf sl vl vu vs) (pl : IsPart vl lo) (pu : IsPart vu hi) (ps : IsPart vs st) (h0 : st ≠ some 0)
    (h : Q (.ref s.heap.objs.size) { s with heap := s.heap.push { cls := .type "list", data := .seq (slicePick items lo hi st) } }) (hsz : items.size ≤ sizeLine) : wpAny (model prog w) A (getItem (.ref x) (.ref sl)) Q E s := by
  obtain ⟨os, hos, hcs, hds⟩ := id hs
  have hTs : s.TypeIs (.ref sl) "slice" := ⟨os, hos, hcs⟩
  unfold getItem sequenceKey
  refine wpAny_holding (wpAny_bind (wpAny_bind (I.type.here ?_)))
  refine wpAny_bind ((anyM_none X hq).here ?_)
  rw [if_pos (show (!false) = true from rfl)]
  refine wpAny_pure (wpAny_bind ?_)
  refine wpAny_bind (wpAny_bind (I.type.here ((looks_findIn X hg).here (wpAny_holding (wpAny_bind (wpAny_of_eq (slot_list_getitem.bind _) (wpAny_bind ?_)))))))
  refine call_sub (owner := "list") (n := "__getitem__") (by decide +kernel) (.inr (by decide +kernel)) (by decide +kernel) X I hm entry_list_getitem (args_list_getitem _ _) ?_
  show wpAny _ _ (Builtin.List.listSubscript? (.ref sl) >>= _) _ _ s
  refine wpAny_bind ?_
  · unfold Builtin.List.listSubscript?
    refine wpAny_bind (wpAny_specialOf hTs slice_no_index ?_)
    simp only [Option.isNone_none, if_true]
    refine wpAny_pure ?_
    show wpAny _ _ (typeOf (.ref sl) >>= _) _ _ s
    refine wpAny_bind (wpAny_typeOf hTs ?_)
    rw [if_neg (by decide)]
    rw [listSliceParts_eq]
    have hstep : ¬ ((rawPart st == rawInt 0) = true) := by
      induction st using optC with
      | none => exact Bool.false_ne_true
      | some c =>
        intro hh
        have : c = 0 := by simpa [rawPart, rawInt] using hh
        exact h0 (by rw [this])
    refine wpAny_bind (wpAny_bind (wpAny_field hos hds (x := vs) rfl (wpAny_bind (wpAny_listPart ps ?_))))
    rw [if_neg hstep]
    refine wpAny_bind (wpAny_field hos hds (x := vl) rfl (wpAny_bind (wpAny_listPart pl ?_)))
    refine wpAny_bind (wpAny_field hos hds (x := vu) rfl (wpAny_bind (wpAny_listPart pu (wpAny_pure ?_))))
    refine wpAny_bind (m := Builtin.List.listItems (.ref x)) ?_
    · unfold Builtin.List.listItems
      refine wpAny_bind (wpAny_seqItems I.at_ hd (wpAny_pure ?_))
      refine wpAny_bind (wpAny_of_eq (sliceIndices_raw lo hi st items.size h0) ?_)
      refine wpAny_bind (wpAny_newObj_type (wpAny_pure ⟨_, rfl, wpAny_pure (wpAny_pure h)⟩) (Nat.le_trans (slicePick_size_le items lo hi st) hsz))
theorem setSl_sub {sl b : Addr} {items new : Array Value} {ne : Nat} {vl vu vs : Value} {lo hi : Option Int} {Q : Unit → Shared → Prop} (X : KK.In s.heap) (I : InstAt s.heap x ox c od) (hq : noSeqT KK c = true)
    (hg : findIn KK (.ref c) "__setitem__" = some (some (.builtin "list.__setitem__"))) (hm : mroIn KK c (.type "list") = some true) (hd : ox.data = .seq items ne) (hb : s.heap.IsList b new) (hne : x ≠ b)
    (hs : s.heap.IsSliceOf sl vl vu vs) (pl : IsPart vl lo) (pu : IsPart vu hi) (ps : IsPart vs none) (hsz : items.size ≤ sizeLine) (hsz2 : items.size + new.size ≤ sizeLine)
    (hsz4 : (items.extract 0 (sliceBounds lo hi none items.size).1.toNat ++ new ++ items.extract (max (sliceBounds lo hi none items.size).1 (sliceBounds lo hi none items.size).2.1).toNat items.size).size ≤ sizeLine + 1)
    (h : ∀ h', h' = s.heap.update x (Obj.mapSeq fun xs => xs.extract 0 (sliceBounds lo hi none items.size).1.toNat ++ new ++ xs.extract (max (sliceBounds lo hi none items.size).1 (sliceBounds lo hi none items.size).2.1).toNat xs.size) → Q () { s with heap := h' }) :
    wpAny (model prog w) A (setItem (.ref x) (.ref sl) (.ref b)) Q E s := by
  obtain ⟨os, hos, hcs, hds⟩ := id hs
  have hTs : s.TypeIs (.ref sl) "slice" := ⟨os, hos, hcs⟩
  obtain ⟨ob, hob, hcb, nb, hdb⟩ := id hb
  unfold setItem sequenceKey
  refine wpAny_holding (wpAny_bind (wpAny_bind (I.type.here ?_)))
  refine wpAny_bind ((anyM_none X hq).here ?_)
  rw [if_pos (show (!false) = true from rfl)]
  refine wpAny_pure (wpAny_bind ?_)
  refine wpAny_bind (wpAny_bind (I.type.here ((looks_findIn X hg).here (wpAny_holding (wpAny_bind (wpAny_of_eq (slot_list_setitem.bind _) (wpAny_bind ?_)))))))
  refine call_sub (owner := "list") (n := "__setitem__") (by decide +kernel) (.inl (by decide +kernel)) (by decide +kernel) X I hm entry_list_setitem (args_list_setitem _ _ _) ?_
  show wpAny _ _ (Builtin.List.listSubscript? (.ref sl) >>= _) _ _ s
  refine wpAny_bind ?_
  unfold Builtin.List.listSubscript?
  refine wpAny_bind (wpAny_specialOf hTs slice_no_index ?_)
  simp only [Option.isNone_none, if_true]
  refine wpAny_pure ?_
  show wpAny _ _ (typeOf (.ref sl) >>= _) _ _ s
  refine wpAny_bind (wpAny_typeOf hTs ?_)
  rw [if_neg (by decide)]
  rw [listSliceParts_eq]
  refine wpAny_bind (wpAny_bind (wpAny_field hos hds (x := vs) rfl (wpAny_bind (wpAny_listPart ps ?_))))
  rw [if_neg (by exact Bool.false_ne_true)]
  refine wpAny_bind (wpAny_field hos hds (x := vl) rfl (wpAny_bind (wpAny_listPart pl ?_)))
  refine wpAny_bind (wpAny_field hos hds (x := vu) rfl (wpAny_bind (wpAny_listPart pu (wpAny_pure ?_))))
  have hsr : Builtin.List.listSameRef (.ref x) (.ref b) = false := by show (x == b) = false; simpa using hne
  dsimp only
  rw [hsr]
  rw [if_neg Bool.false_ne_true]
  have hsz3 : (items.extract 0 (sliceBounds lo hi none items.size).1.toNat ++ new ++ items.extract (max (sliceBounds lo hi none items.size).1 (sliceBounds lo hi none items.size).2.1).toNat items.size).size ≤ sizeLine + 1 := hsz4
  have hst : ((sliceBounds lo hi none items.size).2.2 == 1) = true := rfl
  refine wpAny_bind ?_
  unfold Builtin.List.listAllItems
  refine wpAny_bind (wpAny_typeOf hb.typeIs ?_)
  rw [if_pos (by decide)]
  unfold Builtin.List.listItems
  refine wpAny_bind (wpAny_seqItems hob hdb (wpAny_pure ?_))
  refine wpAny_bind (wpAny_bind (wpAny_seqItems I.at_ hd (wpAny_pure ?_)))
  refine wpAny_bind (wpAny_of_eq (sliceIndices_raw lo hi none items.size (by simp)) ?_)
  rw [if_pos hst]
  refine wpAny_bind (wpAny_rule ?_)
  rw [if_neg (by unfold Builtin.List.listTooLong; simpa using hsz2)]
  unfold Builtin.List.listUpdate
  refine wpAny_bind (wpAny_updateSeq (hz := hsz) (_hz' := hsz3) I.at_ hd (wpAny_bind (wpAny_letGo (wpAny_pure ⟨.none, rfl, wpAny_pure (wpAny_pure (h _ rfl))⟩))))
end
end Mine
end
section
open PySem PySem.W PyProof.Rows PySem.Calls Builtin Builtin.Str
namespace Mine
structure AccK2 (G : Gd) : Prop extends AccK G where
  seq : noSeqT G.K G.acc = true
  get : findIn G.K (.ref G.acc) "__getitem__" = some (some (.builtin "list.__getitem__"))
  set : findIn G.K (.ref G.acc) "__setitem__" = some (some (.builtin "list.__setitem__"))
noncomputable def accSl (a : PV) (lo hi : Option Int) (σ : PS) : Option (PV × PS) := match a with
  | .ref l => match σ.mem[l]? with
    | some (.acc _ xs) => if xs.length ≤ 4096 then fnew (.list ((fidx xs.length lo hi).filterMap (xs[·]?))) σ else none
    | _ => none
  | _ => none
section
variable {G : Gd} {C : Cx} {V : Vw}
theorem Ev.accSl (K : COk1 G C) (AK : AccK2 G) {value : Expr} {lower upper : Option Expr} {p pos : Pos} {f : PS → Option (PV × PS)} {fl fu : PS → Option (Option Int × PS)} (hv : Ev G C V value f) (hl : Prt G C V lower fl) (hu : Prt G C V upper fu) :
    Ev G C V (.Subscript value (.Slice lower upper none p) pos) (fun σ => fbf f σ fun a σ => fbf fl σ fun lo σ => fbf fu σ fun hi σ => Mine.accSl a lo hi σ) := by
  intro W σ X s r σ' Q E e R ok h
  refine fbE e fun a σ₁ e₁ e' => ?_
  refine fbE e' fun lo σ₂ e₂ e' => ?_
  refine fbE e' fun hi σ₃ e₃ e₅ => ?_
  rw [eval_Subscript]
  refine wpAny_bind (hv W σ X s a σ₁ _ E e₁ R ok fun W₁ o s₁ l₁ R₁ r₁ => wpAny_bind (wpAny_holding (wpAny_Slice (hl.run e₂ R₁ (V.mono l₁ ok) fun W₂ plo s₂ l₂ R₂ hlo => hu.run e₃ R₂ (V.mono (Wd.le_trans l₁ l₂) ok) fun W₃ phi s₃ l₃ R₃ hhi => ?_))))
  rw [evalPart_none]
  refine wpAny_pure (wpAny_bind (wpAny_standAt ?_))
  have l₁₃ := Wd.le_trans l₂ l₃
  have R₅ := R₃.junk { cls := .type "slice", data := .fields #[partValue plo, partValue phi, .none] }
  have hsl : Heap.IsSliceOf (s₃.heap.push { cls := .type "slice", data := .fields #[partValue plo, partValue phi, .none] }) s₃.heap.objs.size (partValue plo) (partValue phi) .none := ⟨_, Heap.get?_push_size _ rfl, rfl, rfl⟩
  generalize hs₅ : ({ s₃ with heap := s₃.heap.push { cls := .type "slice", data := .fields #[partValue plo, partValue phi, .none] } } : Shared) = s₅ at R₅ ⊢
  have hsl : s₅.heap.IsSliceOf s₃.heap.objs.size (partValue plo) (partValue phi) .none := by rw [← hs₅]; exact hsl
  unfold Mine.accSl at e₅
  split at e₅
  · rename_i l
    split at e₅
    · rename_i n xs hx
      split at e₅
      · rename_i hlen
        induction r₁ using VRel.refC with
        | ref ad ha =>
          refine accE K R₅ hx (mu_mono l₁₃ ha) fun vs ee dx t u ho rv hm I => ?_
          have X₅ : G.K.In s₅.heap := K.gd.frag.keeps fun _ _ => R₅.keep
          have ip : ∀ p : Option (Int × Tok), IsPart (partValue p) (p.map (·.1)) := fun p => by
            induction p using optC with
            | none => exact .none
            | some q => exact .int _ _
          refine wpAny_bind ?_
          rw [getitemInPython_of_ne (by intro q; cases q)]
          refine wpAny_bind ?_
          unfold specialOf
          refine wpAny_bind (I.type.here ((looks_findIn X₅ AK.get).here ?_))
          refine wpAny_pure (wpAny_bind (wpAny_operating ?_))
          refine getSl_sub X₅ I AK.seq AK.get AK.list rfl hsl (ip plo) (ip phi) .none (by simp) ?_ (by rw [List.size_toArray, ← rv.length]; exact Nat.le_trans hlen size4096)
          have e' : ({ cls := .type "list", data := .seq (slicePick vs.toArray (plo.map (·.1)) (phi.map (·.1)) none) } : Obj) = listO ((fidx xs.length lo hi).filterMap (vs[·]?)) 0 := by
            unfold listO slicePick fidx
            rw [hlo, hhi, rv.length]
            simp
          rw [e']
          exact new_ok (Q := fun r s₃ => wpAny (model G.p G.w) C.A (letTemporaryGo value (.ref ad) r >>= fun _ => pure r) Q E s₃) e₅ R₅ (.list _ _ 0 (rv.pick _)) fun W₆ z s₆ l₆ R₆ r₆ =>
            wpAny_bind (wpAny_letTemporaryGo (wpAny_pure (h W₆ z s₆ (Wd.le_trans l₁ (Wd.le_trans l₁₃ l₆)) R₆ r₆)))
      · exact noneE e₅
    · exact noneE e₅
  · exact noneE e₅
noncomputable def accSet (a : PV) (lo hi : Option Int) (v : PV) (σ : PS) : Option PS := match a, v with
  | .ref l, .ref k => match σ.mem[l]?, σ.mem[k]? with
    | some (.acc n xs), some (.list ys) => if xs.length ≤ 4096 ∧ ys.length ≤ 64 then
        some ⟨σ.vars, σ.mem.set l (.acc n (xs.take (sliceBounds lo hi none xs.length).1.toNat ++ ys ++ xs.drop (max (sliceBounds lo hi none xs.length).1 (sliceBounds lo hi none xs.length).2.1).toNat))⟩ else none
    | _, _ => none
  | _, _ => none
theorem size3 (a b : Array Value) (i j k l : Nat) : (a.extract i j ++ b ++ a.extract k l).size ≤ a.size + b.size + a.size := by
  have e : ∀ i j, (a.extract i j).size ≤ a.size := fun i j => by rw [Array.size_extract]; omega
  rw [Array.size_append, Array.size_append]
  exact Nat.add_le_add (Nat.add_le_add_right (e i j) _) (e k l)
theorem X1.accSet (K : COk1 G C) (AK : AccK2 G) {o value : Expr} {lower upper : Option Expr} {p p' pos : Pos} {fo f : PS → Option (PV × PS)} {fl fu : PS → Option (Option Int × PS)} (hv : Ev G C (fv C) value f) (ho : Ev G C (fv C) o fo) (hl : Prt G C (fv C) lower fl) (hu : Prt G C (fv C) upper fu)
    (hs : swapsWith value (some (.Subscript o (.Slice lower upper none p) p')) pos.line C.fenv = pure false := by rfl) :
    X1 G C (.Assign [.Subscript o (.Slice lower upper none p) p'] value pos) (fun σ => fbf f σ fun v σ => fbf fo σ fun a σ => fbf fl σ fun lo σ => fbf fu σ fun hi σ => match Mine.accSet a lo hi v σ with | some σ => some (.next, σ) | none => none) := by
  intro W σ X s r σ' Q E e R h
  refine fbE e fun v σ₀ e₀ e' => ?_
  refine fbE e' fun a σ₁ e₁ e' => ?_
  refine fbE e' fun lo σ₂ e₂ e' => ?_
  refine fbE e' fun hi σ₃ e₃ e₅ => ?_
  split at e₅
  · rename_i σ₄ e₆
    induction e₅ using someC
    refine wpAny_Assign_Subscript (hv W σ X s v σ₀ _ E e₀ R trivial fun W₀ y s₀ l₀ R₀ r₀ => ho W₀ σ₀ X s₀ a σ₁ _ E e₁ R₀ trivial fun W₁ z s₁ l₁ R₁ r₁ => wpAny_Slice (hl.run e₂ R₁ trivial fun W₂ plo s₂ l₂ R₂ hlo => hu.run e₃ R₂ trivial fun W₃ phi s₃ l₃ R₃ hhi => ?_)) hs
    rw [evalPart_none]
    refine wpAny_pure ?_
    have l₁₃ := Wd.le_trans l₂ l₃
    have R₅ := R₃.junk { cls := .type "slice", data := .fields #[partValue plo, partValue phi, .none] }
    have hsl : Heap.IsSliceOf (s₃.heap.push { cls := .type "slice", data := .fields #[partValue plo, partValue phi, .none] }) s₃.heap.objs.size (partValue plo) (partValue phi) .none := ⟨_, Heap.get?_push_size _ rfl, rfl, rfl⟩
    generalize hs₅ : ({ s₃ with heap := s₃.heap.push { cls := .type "slice", data := .fields #[partValue plo, partValue phi, .none] } } : Shared) = s₅ at R₅ ⊢
    have hsl : s₅.heap.IsSliceOf s₃.heap.objs.size (partValue plo) (partValue phi) .none := by rw [← hs₅]; exact hsl
    unfold Mine.accSet at e₆
    split at e₆
    · rename_i l k
      split at e₆
      · rename_i n xs ys hx hy
        split at e₆
        · rename_i hlen
          induction e₆ using some1C
          induction r₁ using VRel.refC with
          | ref ad ha => induction r₀ using VRel.refC with
            | ref bd hb =>
              have ha₅ := mu_mono l₁₃ ha
              have hb₅ := mu_mono (Wd.le_trans l₁ l₁₃) hb
              refine accE K R₅ hx ha₅ fun vs ee dx t u ho rv hm I => ?_
              refine Rel.getME R₅ hy hb₅ fun ob hob rob => ?_
              induction rob using ORel.listC with
              | list ws n' rw' =>
                have X₅ : G.K.In s₅.heap := K.gd.frag.keeps fun _ _ => R₅.keep
                have ip : ∀ p : Option (Int × Tok), IsPart (partValue p) (p.map (·.1)) := fun p => by
                  induction p using optC with
                  | none => exact .none
                  | some q => exact .int _ _
                have hne : ad ≠ bd := by
                  rintro rfl
                  rw [ho] at hob
                  have := congrArg Obj.cls (Option.some.inj hob)
                  cases this
                have l1 : vs.length ≤ 4096 := by rw [← rv.length]; exact hlen.1
                have l2 : ws.length ≤ 64 := by rw [← rw'.length]; exact hlen.2
                have hz : (4096 + 4096 + 4096 : Nat) ≤ sizeLine := by decide +kernel
                refine setSl_sub X₅ I AK.seq AK.set AK.list rfl ⟨_, hob, rfl, _, rfl⟩ hne hsl (ip plo) (ip phi) .none (by rw [List.size_toArray]; omega) (by rw [List.size_toArray, List.size_toArray]; omega) ?_ ?_
                · exact Nat.le_trans (size3 _ _ _ _ _ _) (Nat.le_trans (Nat.add_le_add (Nat.add_le_add l1 (Nat.le_trans l2 (by decide : 64 ≤ 4096))) l1) (Nat.le_succ_of_le hz))
                · rintro h' rfl
                  rw [hlo, hhi, List.size_toArray, ← rv.length]
                  obtain ⟨e', hms⟩ := mapSeq_acc (c := G.acc) (dx := dx) (vs := vs) (e := ee) (f := fun zs => zs.extract 0 (sliceBounds lo hi none xs.length).1.toNat ++ ws.toArray ++ zs.extract (max (sliceBounds lo hi none xs.length).1 (sliceBounds lo hi none xs.length).2.1).toNat zs.size)
                  refine h W₃ _ _ (Wd.le_trans l₀ (Wd.le_trans l₁ l₁₃)) (R₅.setM hx ha₅ (Heap.SameBut.update ..) (by rw [Heap.get?_update_self _ ho (by rw [hms]; rfl), hms]) ?_) .next
                  rw [← K.acC]
                  refine .acc n _ _ e' dx t u ?_ (K.acP ▸ hm)
                  have := ((rv.take (i := (sliceBounds lo hi none xs.length).1.toNat)).app rw').app (rv.drop (i := (max (sliceBounds lo hi none xs.length).1 (sliceBounds lo hi none xs.length).2.1).toNat))
                  have e3 : ∀ k, (vs.drop k).take (vs.length - k) = vs.drop k := fun k => List.take_of_length_le (by simp)
                  simpa [e3] using this
        · exact noneE e₆
      · exact noneE e₆
    · exact noneE e₆
  · exact noneE e₅
end
end Mine
end
section
open PySem PySem.W PyProof.Rows PySem.Calls
namespace Mine
section
variable {prog : Program} {w : World} {A : Around} {E : Value → Shared → Prop} {s : Shared} {KK : Frag} {x c : Addr} {ox : Obj} {od : Option Obj}
theorem iter_sub {Q : Value → Shared → Prop} (X : KK.In s.heap) (I : InstAt s.heap x ox c od) (hf : findIn KK (.ref c) "__iter__" = some (some (.builtin "list.__iter__"))) (hm : mroIn KK c (.type "list") = some true)
    (h : Q (.ref s.heap.objs.size) { s with heap := s.heap.push { cls := .type "list_iterator", data := .fields #[.ref x, .int 0 0] } }) : wpAny (model prog w) A (pyIter (.ref x)) Q E s := by
  unfold pyIter specialOf
  refine wpAny_bind (wpAny_bind (I.type.here ((looks_findIn X hf).here ?_)))
  show wpAny _ A (callSpecialIfBoundUnlessNone? (.ref x) "__iter__" _ >>= _) Q E s
  have hcall : wpAny (model prog w) A (call (.builtin "list.__iter__") [.ref x]) (fun it s' => it = .ref s.heap.objs.size ∧ s' = { s with heap := s.heap.push { cls := .type "list_iterator", data := .fields #[.ref x, .int 0 0] } }) E s := by
    refine call_sub (owner := "list") (n := "__iter__") (by decide +kernel) (.inl (by decide +kernel)) (by decide +kernel) X I hm entry_list_iter (args_list_iter _) ?_
    show wpAny _ _ (do ret (← newFields "list_iterator" [.ref x, rawInt 0])) _ _ s
    exact wpAny_bind (wpAny_newObj_type (wpAny_pure ⟨_, rfl, rfl, rfl⟩))
  have fin : ∀ it s', it = Value.ref s.heap.objs.size ∧ s' = { s with heap := s.heap.push { cls := .type "list_iterator", data := .fields #[.ref x, .int 0 0] } } → wpAny (model prog w) A (do
      match ← specialOf it "__next__" with
      | none => rule "iter.non-iterator"; raiseError "TypeError" s!"iter() returned non-iterator of type '{← typeNameOf it}'"
      | some _ => pure it) Q E s' := by
    rintro it s' ⟨rfl, rfl⟩
    refine wpAny_bind (wpAny_specialOf ⟨_, Heap.get?_push_size _ rfl, rfl⟩ slot_listiter_next.lookup (wpAny_pure h))
  have hb : bindSpecial (.builtin "list.__iter__") (.ref x) = pure (.builtin "list.__iter__", [.ref x]) := slot_list_iter.bind _
  unfold callSpecialIfBoundUnlessNone? bindSpecialIfBound? specialOf
  refine wpAny_bind (wpAny_holding (wpAny_bind (wpAny_bind (wpAny_bind (I.type.here ((looks_findIn X hf).here ?_))))))
  dsimp only
  rw [hb]
  refine wpAny_bind (wpAny_askSetting ?_)
  split
  · refine wpAny_bind (wpAny_pure (wpAny_pure ?_))
    dsimp only
    rw [if_neg (by decide)]
    exact wpAny_bind (wpAny_mono hcall (fun it s' q => wpAny_pure (fin it s' q)) fun _ _ e => e)
  · refine wpAny_tryCatch (wpAny_bind (wpAny_pure (wpAny_pure ?_)))
    dsimp only
    rw [if_neg (by decide)]
    exact wpAny_bind (wpAny_mono hcall (fun it s' q => wpAny_pure (fin it s' q)) fun _ _ e => e)
theorem next_seq {it l : Addr} {i : Nat} {o : Obj} {items : Array Value} {n : Nat} {y : Value} {Q : Option Value → Shared → Prop} (hit : s.heap.IsListIter it l i) (ho : s.heap.get? l = some o) (hd : o.data = .seq items n) (hx : items[i]? = some y)
    (hQ : ∀ h', h'.IsListIter it l (i + 1) → Heap.SameBut it s.heap h' → Q (some y) { s with heap := h' }) : wpAny (model prog w) A (pyNext (.ref it)) Q E s := by
  obtain ⟨oi, hoi, hci, hdi⟩ := id hit
  have run : wpAny (model prog w) A (call (.builtin "list_iterator.__next__") [.ref it]) (fun v s' => v = y ∧ ∃ h', h'.IsListIter it l (i + 1) ∧ Heap.SameBut it s.heap h' ∧ s' = { s with heap := h' }) (fun _ _ => False) s := by
    refine wpAny_call_entry slot_listiter_next hit.typeIs entry_listiter_next ?_ (args_listiter_next _)
    refine wpAny_bind (m := field (.ref it) 0) (wpAny_field hoi hdi (x := .ref l) rfl ?_)
    rw [if_neg (show ¬ ((Value.ref l == Value.none) = true) from Bool.false_ne_true)]
    refine wpAny_bind (m := field (.ref it) 1) (wpAny_field hoi hdi (x := .int i 0) rfl ?_)
    refine wpAny_bind (m := seqItems? (.ref l)) (wpAny_seqItems ho hd ?_)
    simp only [Int.toNat_natCast, hx]
    refine wpAny_bind (wpAny_setField hoi hdi (by simp) (wpAny_pure ⟨y, rfl, rfl, _, ⟨_, Heap.get?_update_self _ hoi (Obj.isFreed_of_fields (Obj.data_mapFields hdi _)), (Obj.cls_mapFields ..).trans hci, ?_⟩, Heap.SameBut.update .., rfl⟩))
    rw [Obj.data_mapFields hdi]; simp [rawInt]
  unfold pyNext
  refine wpAny_bind (wpAny_attempt (wpAny_callSpecial?_slot (name := Str.ofString "__next__") hit.typeIs slot_listiter_next (wpAny_mono run (fun v s' q => ?_) fun _ _ e => ?_)))
  · obtain ⟨rfl, h', a, b, rfl⟩ := q
    exact wpAny_pure (hQ h' a b)
  · exact e.elim
theorem stop_seq {it l : Addr} {i : Nat} {o : Obj} {items : Array Value} {n : Nat} {Q : Option Value → Shared → Prop} (hh : A.handled = none) (hit : s.heap.IsListIter it l i) (ho : s.heap.get? l = some o) (hd : o.data = .seq items n) (hx : items[i]? = none)
    (hQ : ∀ h', Heap.ExtBut it s.heap h' → Q none { s with heap := h' }) : wpAny (model prog w) A (pyNext (.ref it)) Q E s := by
  obtain ⟨oi, hoi, hci, hdi⟩ := id hit
  unfold pyNext
  refine wpAny_bind (wpAny_attempt (wpAny_callSpecial?_slot (name := Str.ofString "__next__") hit.typeIs slot_listiter_next (wpAny_call_entry slot_listiter_next hit.typeIs entry_listiter_next ?_ (args_listiter_next _))))
  refine wpAny_bind (m := field (.ref it) 0) (wpAny_field hoi hdi (x := .ref l) rfl ?_)
  rw [if_neg (show ¬ ((Value.ref l == Value.none) = true) from Bool.false_ne_true)]
  refine wpAny_bind (m := field (.ref it) 1) (wpAny_field hoi hdi (x := .int i 0) rfl ?_)
  refine wpAny_bind (m := seqItems? (.ref l)) (wpAny_seqItems ho hd ?_)
  simp only [Int.toNat_natCast, hx]
  refine wpAny_bind (wpAny_rule (wpAny_bind (wpAny_setField hoi hdi (by simp) ?_)))
  refine wpAny_bind (m := newExc (.type "StopIteration") []) ?_
  simp only [newExc, newTuple]
  refine wpAny_bind (wpAny_newObj_type ?_ (by size_fits))
  refine wpAny_bind (m := firstArgMember _ _) (wpAny_of_eq (a := Value.none) (by first | rfl | (simp only [firstArgMember]; rfl)) ?_)
  refine wpAny_newObj_type ?_ (by size_fits)
  simp only [raiseNew]
  refine wpAny_bind (wpAny_handled ?_)
  rw [show A.in1.handled = none from hh]
  refine wpAny_bind (wpAny_pure (wpAny_throw ?_))
  refine wpAny_bind (wpAny_isInstance (T := "StopIteration") (b := true) ⟨_, Heap.get?_push_size _ rfl, rfl⟩ isSubtype_stop ?_)
  exact wpAny_pure (hQ _ (((Heap.SameBut.update ..).extBut.push _).push _))
end
theorem walk_seq {prog : Program} {w : World} {A : Around} (hh : A.handled = none) (I ax : Addr) (hne : ax ≠ I) (oa : Obj) (items : Array Value) (n0 : Nat) (hda : oa.data = .seq items n0) (Ts : Nat → Addr) (vals : Nat → Array Value)
    (hit : ∀ j, j < items.size → items[j]? = some (.ref (Ts j))) (hTI : ∀ j, j < items.size → Ts j ≠ I) :
    WalksU prog w A I (I :: ax :: (List.range items.size).map Ts) [I] items.size (fun j v => j < items.size ∧ v = vals j)
      (fun j h => h.IsListIter I ax j ∧ h.get? ax = some oa ∧ ∀ k, k < items.size → h.IsTuple (Ts k) (vals k))
      (fun j T h => (j < items.size ∧ T = Ts j) ∧ h.IsListIter I ax (j + 1) ∧ h.get? ax = some oa ∧ ∀ k, k < items.size → h.IsTuple (Ts k) (vals k)) where
  sub := fun b hb => by
    rw [List.mem_singleton] at hb
    exact hb ▸ .head _
  frame := fun _ h h' st hk => by
    obtain ⟨⟨o, a, b⟩, e, t⟩ := st
    exact ⟨⟨o, hk I (.head _) _ a, b⟩, hk ax (.tail _ (.head _)) _ e, fun k hk' => (t k hk').at fun o e => hk (Ts k) (.tail _ (.tail _ (List.mem_map.mpr ⟨k, List.mem_range.mpr hk', rfl⟩))) o e⟩
  item := fun i s Q E hi ⟨st, e, t⟩ hQ => by
    refine next_seq st e hda (hit i hi) fun h' hit' hs' => ?_
    have tup : ∀ k, k < items.size → h'.IsTuple (Ts k) (vals k) := fun k hk' => (t k hk').extBut hs'.extBut (hTI k hk')
    exact hQ (Ts i) (vals i) h' s.toks ⟨hi, rfl⟩ (tup i hi) ⟨⟨hi, rfl⟩, hit', hs'.extBut _ _ hne e, tup⟩ fun b o hb e => hs'.extBut b o (fun q => hb (q ▸ .head _)) e
  go := fun _ _ _ _ _ s Q _ hm hQ => wpAny_letOwnedTupleGo_listiter hm.2.1 (hQ s.heap hm.2 fun _ _ _ e => e)
  apart := fun j T _ hm hmem => by
    rw [List.mem_singleton] at hmem
    exact hTI j hm.1.1 (hm.1.2 ▸ hmem)
  done := fun s Q E ⟨st, e, _⟩ hQ => stop_seq hh st e hda (by simp) fun h' he' => hQ h' s.toks fun b o hb e => he' b o (fun q => hb (q ▸ .head _)) e
  self := fun _ _ _ _ st hQ => wpAny_pyIter_listiter st.1 hQ
end Mine
end
section
open PySem PySem.W PyProof.Rows PySem.Calls
namespace Mine
section
variable {C : Cx} {W W' : Wd} {σ σ' : PS} {X X' : Led} {s : Shared}
theorem Rel.grownP (R : Rel C W σ X s) {lt : Nat} {P : Addr} (ht : σ.mem[lt]? = some (.tab P)) {s' : Shared} (hk : ∀ b o, b ≠ P → s.heap.get? b = some o → s'.heap.get? b = some o) (hP : ∃ vs, TriplesOk vs ∧ s'.heap.get? P = some (tabO vs))
    (hg : AllBare s'.gens) (ho : s'.os = s.os) (hT : 0 < s'.toks) : Rel C W σ X s' := by
  refine Rel.exE R fun m cs ms F N nd sr mr mu => ?_
  obtain ⟨l₁, a', o, l₂, rfl, hl, ro, k⟩ := mr.split ht
  obtain ⟨vs, tr, hPs⟩ := hP
  cases ro with
  | tab _ vs₀ tr₀ =>
    have e : ∀ o, cs ++ (l₁ ++ (P, o) :: l₂ ++ (W.T ++ X)) = (cs ++ l₁) ++ (P, o) :: (l₂ ++ (W.T ++ X)) := fun o => by simp
    have hm := N (P, tabO vs₀) (by simp)
    rw [e] at N nd
    have nd' := nd
    rw [List.map_append, List.map_cons, List.perm_middle.nodup_iff, List.nodup_cons, List.mem_append] at nd'
    have hset : σ.mem.set lt (.tab P) = σ.mem := by
      apply List.ext_getElem?
      intro i
      rw [List.getElem?_set]
      split
      · rename_i q; subst q
        rw [if_pos (List.getElem?_eq_some_iff.mp ht).1, ht]
      · rfl
    have mr' := k (.tab P) (tabO vs) (.tab P vs tr)
    rw [hset] at mr'
    refine ⟨⟨m, cs, l₁ ++ (P, tabO vs) :: l₂, ⟨F.ns.at' fun o e => hk _ o (Ne.symm hm.2.1) e, fun b x q => hk b x (fun z => ?_) (F.keep b x q), F.above⟩, ?_, ?_, sr, mr', by rw [← mu]; simp⟩, hg, ho.trans R.os, hT⟩
    · have := hm.2.2; rw [z, show C.h₀.get? P = none from this] at q; exact noneE q
    · rw [e]
      intro p hp
      rcases List.mem_append.mp hp with q | q
      · exact ⟨hk _ _ (fun z => nd'.1 (.inl (List.mem_map.mpr ⟨p, q, z⟩))) (N p (List.mem_append_left _ q)).1, (N p (List.mem_append_left _ q)).2⟩
      · rcases List.mem_cons.mp q with rfl | q
        · exact ⟨hPs, hm.2⟩
        · exact ⟨hk _ _ (fun z => nd'.1 (.inr (List.mem_map.mpr ⟨p, q, z⟩))) (N p (List.mem_append_right _ (.tail _ q))).1, (N p (List.mem_append_right _ (.tail _ q))).2⟩
    · rw [e]; exact nd_upd nd
theorem Rel.tabAt (R : Rel C W σ X s) {lt : Nat} {P : Addr} (ht : σ.mem[lt]? = some (.tab P)) : ∃ vs, TriplesOk vs ∧ s.heap.get? P = some (tabO vs) ∧ C.h₀.get? P = none := by
  refine Rel.exE R fun m cs ms F N nd sr mr mu => ?_
  obtain ⟨l₁, a', o, l₂, rfl, hl, ro, k⟩ := mr.split ht
  cases ro with
  | tab _ vs₀ tr₀ =>
    have hm := N (P, tabO vs₀) (by simp)
    exact ⟨vs₀, tr₀, hm.1, hm.2.2⟩
end
noncomputable def tupPV (p : List Nat × List Nat) : PV := .tup [.str p.1, .str p.2]
theorem tups_rel {W : Wd} : ∀ {ps : List (List Nat × List Nat)} {vs : List Value}, VRels W (ps.map tupPV) vs → ∃ ts : List (Addr × Tok × Tok), ts.length = ps.length ∧ vs = ts.map (fun t => .ref t.1) ∧
    ∀ (j : Nat) (t : Addr × Tok × Tok) (p : List Nat × List Nat), ts[j]? = some t → ps[j]? = some p → (t.1, tupO [.str (mkS' p.1) t.2.1, .str (mkS' p.2) t.2.2]) ∈ W.T
  | [], _, .nil => ⟨[], rfl, rfl, fun _ _ _ e => by cases e⟩
  | p :: ps, _, .cons r rs => by
    obtain ⟨ts, h1, rfl, h2⟩ := tups_rel rs
    cases r with
    | tup _ xs a hm rxs =>
      induction rxs using VRels.consC with
      | cons ra rb => induction rb using VRels.consC with
        | cons rb rn => induction rn using VRels.nilC; induction ra using VRel.strC with
          | str t => induction rb using VRel.strC with
            | str u =>
              refine ⟨(a, t, u) :: ts, by simp [h1], rfl, fun j t' p' e1 e2 => ?_⟩
              induction j using natC with
              | zero => cases e1; cases e2; exact hm
              | succ j => exact h2 j t' p' e1 e2
structure CodeK (G : Gd) (c P : Addr) : Prop where
  obj : ∃ o vs file tf flags tg inF text tt, G.K.lookup c = some o ∧ o.data = .fields vs ∧ o.cls = .type "code" ∧ vs[11]? = some (.ref P) ∧ vs.getD 11 .none = .ref P ∧ vs.getD 18 .none = .str file tf ∧ vs.getD 7 .none = .int flags tg ∧ vs.getD 9 .none = .bool inF ∧ vs.getD 10 .none = .int text tt
  ne : c ≠ P
theorem CodeK.code {G : Gd} {c P : Addr} (k : CodeK G c P) {h : Heap} (X : G.K.In h) {ps : List Value} (hP : h.get? P = some (tabO ps)) (tr : TriplesOk ps) : h.IsCode c P ps.toArray ∧ h.TableAt c P ps.toArray := by
  obtain ⟨o, vs, file, tf, flags, tg, inF, text, tt, h0, h1, hc, h11', h11, h2, h7, h9, h10⟩ := k.obj
  exact ⟨⟨o, vs, file, tf, flags, tg, inF, text, tt, _, X _ _ h0, h1, h11, h2, h7, h9, h10, hP, rfl, by simpa using tr, k.ne⟩, ⟨o, vs, X _ _ h0, hc, h1, h11'⟩, hP⟩
theorem gencode {G : Gd} {c P : Addr} (k : CodeK G c P) {A : Around} {E : Value → Shared → Prop} {s : Shared} {env : Env} {pos : Pos} {qual : Str} {sc : Scope} {Q : Value → Shared → Prop} (hc : env.code = .ref c) (X : G.K.In s.heap) {ps : List Value} (hP : s.heap.get? P = some (tabO ps)) (tr : TriplesOk ps)
    (h : ∀ c' h' tk, (∀ b o, b ≠ P → s.heap.get? b = some o → h'.get? b = some o) → s.heap.objs.size ≤ h'.objs.size → (∃ vs, TriplesOk vs ∧ h'.get? P = some (tabO vs)) → Q c' { s with heap := h', toks := tk }) :
    wpAny (model G.p G.w) A (genexprCode env pos qual sc) Q E s := by
  obtain ⟨h1, h2⟩ := k.code X hP tr
  cases hf : codeAmong pos ps.toArray.toList with
  | some cv => exact wpAny_genexprCode_hit hc h1 hf (h cv s.heap s.toks (fun _ _ _ e => e) (Nat.le_refl _) ⟨ps, tr, hP⟩)
  | none =>
    refine wpAny_genexprCodeX hc h1 h2 hf fun c' h' tk hx hge hlt _ _ htab _ => h _ h' tk hx (Nat.le_trans hge (Nat.le_of_lt hlt)) ⟨ps ++ [rawInt pos.line, rawInt pos.col, .ref c'], TriplesOk_snoc pos.line pos.col (.ref c') ps tr, ?_⟩
    have := htab.2
    simpa [tabO] using this
theorem passing_all (n : Nat) : passing (fun _ => true) n 0 = List.range n := by unfold passing; simp
structure BmK (G : Gd) : Prop where
  name : ∃ bm o, nsIn G.K mainGlobals "__builtins__" = some (some (.ref bm)) ∧ bm ≠ builtinsNs ∧ G.K.lookup bm = some o ∧ o.cls = .type "module" ∧ o.dict = some builtinsNs ∧ o.data = .plain
structure AccK3 (G : Gd) : Prop extends AccK2 G where
  iter : findIn G.K (.ref G.acc) "__iter__" = some (some (.builtin "list.__iter__"))
  bm : BmK G
section
variable {G : Gd} {C : Cx}
theorem gen_acc (K : COk1 G C) (AK : AccK3 G) {c P : Addr} (CK : CodeK G c P) (hcode : C.fenv.code = .ref c) {elt iter : Expr} {xa xb : Str} {pa pb pt : Pos} {kt : Nat} {sc : Scope} {pos : Pos} {fi : PS → Option (PV × PS)}
    (hco : sc.isCoroutine = false) (hclos : closureFor sc C.fenv = pure []) (hcell : ∀ y ∈ sc.names, y.2 ≠ .cell) (h0 : sc.names.lookup (".0" : Str) = some NameKind.local)
    (hxa : sc.names.lookup xa = some .local) (hxb : sc.names.lookup xb = some .local) (hab : xa ≠ xb) (hkind : sc.kind = .function) (hfold : ∀ x, genFold iter C.fenv x = pure x)
    {W : Wd} {σ : PS} {X : Led} {s : Shared} {l lt : Nat} {n : Int} {ps : List (List Nat × List Nat)} {Q : Value → Shared → Prop} {E : Value → Shared → Prop} (F : Nat → Value → Prop) (hi : Ev G C (fv C) iter fi) (e : fi σ = some (.ref l, σ)) (R : Rel C W σ X s) (hx : σ.mem[l]? = some (.acc n (ps.map tupPV))) (ht : σ.mem[lt]? = some (.tab P))
    (helt : ∀ (A' : Around) E' (i : Nat) (p : List Nat × List Nat) ta tb (u : Shared) m₂ (env' : Env), A'.handled = none → GdOk G u.heap → env'.scope = sc → env'.globals = mainGlobals → env'.builtins = builtinsNs → ps[i]? = some p → u.heap.Ns env'.locals m₂ → m₂ xa = some (.str (mkS' p.1) ta) → m₂ xb = some (.str (mkS' p.2) tb) →
      wpAny (model G.p G.w) A' (eval elt env') (fun y s₃ => F i y ∧ Keeps u s₃) E' u)
    (hQ : ∀ W' s₁ a s' fp wr g St, W.le W' → Rel C W' σ X s₁ → WalksS G.p G.w C.A.in4 a fp wr (GenOnlyQ g) ps.length (fun j y => ∃ i, (List.range ps.length)[j]? = some i ∧ F i y) St → St 0 s' → (∀ i s', St i s' → s'.TypeIs (.ref a) "generator") → a ∈ fp → (∀ b ∈ fp, b < s'.heap.objs.size) →
      (∀ b o, b ≠ P → s₁.heap.get? b = some o → s'.heap.get? b = some o) → (∃ vs, TriplesOk vs ∧ s'.heap.get? P = some (tabO vs)) → AllBare s'.gens → s'.os = s₁.os → (∀ b ∈ wr, s₁.heap.objs.size ≤ b) → Q (.ref a) s') :
    wpAny (model G.p G.w) C.A (eval (.GeneratorExp elt [⟨.Tuple [.Name xa pa, .Name xb pb] kt pt, iter, [], 0⟩] sc pos) C.fenv) Q E s := by
  refine wpAny_GeneratorExp_walksQT K.handled hco hclos hcell h0 hxa hxb hab hkind (by have := K.room; omega) (hi W σ X s _ σ _ E e R trivial fun W₁ xv s₁ l₁ R₁ rv => ?_) hfold
  induction rv using VRel.refC with
  | ref ad had =>
    refine accE K R₁ hx had fun vs ee dx t u ho rvs hm I => ?_
    have X₁ : G.K.In s₁.heap := K.gd.frag.keeps fun _ _ => R₁.keep
    refine iter_sub X₁ I AK.iter AK.list ?_
    have k₂ : ∀ (o : Obj) b x, s₁.heap.get? b = some x → (s₁.heap.push o).get? b = some x := fun o b x e => Heap.get?_push_of_some o e
    have g₁ : GdOk G s₁.heap := K.gd.keeps fun _ _ => R₁.keep
    refine match R₁.tabAt ht with | ⟨pvs, tr, hP, hP0⟩ => ?_
    refine ⟨(g₁.keeps (k₂ _)).nolimit, gencode CK hcode (X₁.keeps (k₂ _)) (k₂ _ _ _ hP) tr fun c' h₃ tk hk₃ hsz₃ hP₃ => ?_⟩
    refine match AK.bm.name with | ⟨bm, ob, hb1, hb2, hb3, hb4, hb5, hb6⟩ => ?_
    have kOld : ∀ b o, C.h₀.get? b = some o → h₃.get? b = some o := fun b o e => hk₃ b o (fun q => by rw [q, hP0] at e; exact noneE e) (k₂ _ _ _ (R₁.keep e))
    have g₃ : GdOk G h₃ := K.gd.keeps kOld
    refine wpAny_builtinsFor (m := G.mg) (bm := bm) (o := ob) (by rw [K.globals]; exact g₃.g) (mg_of K.gd.frag K.gd.g hb1) hb2 (g₃.frag _ _ hb3) hb4 hb5 hb6 ?_
    obtain ⟨ts, htl, rfl, hts⟩ := tups_rel rvs
    have hlt : ad < s₁.heap.objs.size := Heap.lt_size ho
    have hPlt : P < s₁.heap.objs.size := Heap.lt_size hP
    have hadP : ad ≠ P := fun q => by
      rw [q, hP] at ho
      have := congrArg Obj.cls (Option.some.inj ho)
      cases this
    let Ts : Nat → Addr := fun j => (ts[j]?.map fun t => t.1).getD 0
    let vals : Nat → Array Value := fun j => match ts[j]?, ps[j]? with
      | some t, some p => #[.str (mkS' p.1) t.2.1, .str (mkS' p.2) t.2.2]
      | _, _ => #[]
    have hsz : ((ts.map fun t => Value.ref t.1).toArray).size = ps.length := by simp [htl]
    have at' : ∀ j, j < ps.length → ∃ t p, ts[j]? = some t ∧ ps[j]? = some p := fun j hj => ⟨_, _, List.getElem?_eq_getElem (htl ▸ hj), List.getElem?_eq_getElem hj⟩
    have hTs : ∀ j, j < ps.length → s₁.heap.get? (Ts j) = some (tupO (vals j).toList) := fun j hj => by
      obtain ⟨t, p, e1, e2⟩ := at' j hj
      simp only [Ts, vals, e1, e2, Option.map_some, Option.getD_some]
      exact R₁.getT (hts j t p e1 e2)
    have hTlt : ∀ j, j < ps.length → Ts j < s₁.heap.objs.size := fun j hj => Heap.lt_size (hTs j hj)
    have hTP : ∀ j, j < ps.length → Ts j ≠ P := fun j hj q => by
      have := hTs j hj
      rw [q, hP] at this
      have := congrArg Obj.cls (Option.some.inj this)
      cases this
    have Wk := fun (A' : Around) (hA : A'.handled = none) => walk_seq (prog := G.p) (w := G.w) hA s₁.heap.objs.size ad (Nat.ne_of_lt hlt) (accO G.acc dx (ts.map fun t => Value.ref t.1) ee) (ts.map fun t => Value.ref t.1).toArray ee rfl Ts vals
      (fun j hj => by
        obtain ⟨t, p, e1, e2⟩ := at' j (hsz ▸ hj)
        simp [Ts, e1]) (fun j hj => Nat.ne_of_lt (hTlt j (hsz ▸ hj)))
    rw [hsz] at Wk
    have tup : ∀ (h : Heap), (∀ b o, b ≠ P → s₁.heap.get? b = some o → h.get? b = some o) → ∀ k, k < ps.length → h.IsTuple (Ts k) (vals k) := fun h hk k hk' => ⟨_, hk _ _ (hTP k hk') (hTs k hk'), rfl, 0, by simp [tupO]⟩
    have k₃ : ∀ b o, b ≠ P → s₁.heap.get? b = some o → h₃.get? b = some o := fun b o hb e => hk₃ b o hb (k₂ _ _ _ e)
    have hs4 : s₁.heap.objs.size + 1 ≤ h₃.objs.size := by
      have := hsz₃
      rw [Heap.size_push] at this
      exact this
    refine ⟨s₁.heap.objs.size, _, _, _, _, _, _, (fun _ => true), F, rfl, Wk, fun i v hv => ?_, ⟨⟨_, hk₃ _ _ (Nat.ne_of_gt hPlt) (Heap.get?_push_size _ rfl), rfl, rfl⟩, k₃ _ _ hadP ho, tup h₃ k₃⟩, ?_, g₃.nolimit, ?_, fun href hhref => ?_, fun a h₅ tk' gs hgb hag hsz₅ hk₅ WS hat => ?_⟩
    · obtain ⟨hi, rfl⟩ := hv
      obtain ⟨t, p, e1, e2⟩ := at' i hi
      have hv : vals i = #[.str (mkS' p.1) t.2.1, .str (mkS' p.2) t.2.2] := by simp only [vals, e1, e2]
      exact ⟨_, _, hv⟩
    · intro b hb
      show b < h₃.objs.size
      refine Nat.lt_of_lt_of_le ?_ hs4
      rcases List.mem_cons.mp hb with rfl | hb
      · exact Nat.lt_succ_self _
      · rcases List.mem_cons.mp hb with rfl | hb
        · exact Nat.lt_succ_of_lt hlt
        · obtain ⟨k, hk, rfl⟩ := List.mem_map.mp hb
          exact Nat.lt_succ_of_lt (hTlt k (List.mem_range.mp hk))
    · intro hm
      rw [List.mem_singleton] at hm
      have hc : cStatics < s₁.heap.objs.size := let ⟨_, hn, _⟩ := g₁.nolimit; hn.lt
      rw [hm] at hc
      exact Nat.lt_irrefl _ hc
    · refine ⟨fun A' E' i va vb s₂ m₂ _ _ _ _ _ _ => wpAny_tests_nil ⟨rfl, s₂.heap, s₂.toks, rfl, fun _ _ e => e⟩, fun A' E' i va vb s₂ m₂ hA hPt _ hn hma hmb hkp => ?_⟩
      obtain ⟨hi, hv⟩ := hPt
      obtain ⟨t, p, e1, e2⟩ := at' i hi
      simp only [vals, e1, e2] at hv
      obtain ⟨rfl, rfl⟩ : va = .str (mkS' p.1) t.2.1 ∧ vb = .str (mkS' p.2) t.2.2 := by
        have := congrArg Array.toList hv
        simpa using this
      refine helt A' E' i p _ _ s₂ m₂ _ hA (K.gd.keeps fun b o e => ?_) rfl K.globals rfl e2 hn hma hmb
      have e3 := kOld b o e
      refine hkp b (List.mem_range.mpr (Heap.lt_size e3)) ?_ o (hhref b o e3)
      intro hm
      rw [List.mem_singleton] at hm
      have := Heap.lt_size (R₁.keep e)
      rw [hm] at this
      exact Nat.lt_irrefl _ this
    · rw [passing_all] at WS
      rw [List.length_range] at WS
      obtain ⟨pv₃, tr₃, hp₃⟩ := hP₃
      refine hQ W₁ s₁ a _ _ _ _ _ l₁ R₁ WS hat (fun i s' st => st.1.typeIs) (.head _) ?_ (fun b o hb e => hk₅ b o (k₃ b o hb e)) ⟨pv₃, tr₃, hk₅ _ _ hp₃⟩ (R₁.bare.push hgb) rfl ?_
      · intro b hb
        show b < h₅.objs.size
        rw [hsz₅]
        rcases List.mem_cons.mp hb with rfl | hb
        · exact Nat.lt_succ_self _
        · rcases List.mem_cons.mp hb with rfl | hb
          · exact Nat.lt_succ_of_lt hag
          · exact Nat.lt_succ_of_lt (Nat.lt_trans (List.mem_range.mp hb) hag)
      · intro b hb
        rcases List.mem_cons.mp hb with rfl | hb
        · show s₁.heap.objs.size ≤ h₃.objs.size
          omega
        · rw [List.mem_singleton] at hb
          exact hb ▸ Nat.le_refl _
end
end Mine
end
section
open PySem PySem.W PyProof.Rows PySem.Calls Builtin Builtin.ObjectAttr
namespace Mine
section
variable {prog : Program} {w : World} {A : Around} {E : Value → Shared → Prop} {s : Shared} {KK : Frag} {x c : Addr} {ox : Obj} {od : Option Obj}
theorem args_lga (a b : Value) : argsOk "list.__getattribute__" ⟨[a, b], []⟩ := by unfold argsOk; kernel_rfl
theorem bind_lga (a : Value) : bindSpecial (.builtin "list.__getattribute__") a = pure (.builtin "list.__getattribute__", [a]) := by
  unfold bindSpecial
  rw [show typeOf (.builtin "list.__getattribute__") = pure (.type "wrapper_descriptor") by kernel_rfl]
  rfl
theorem get_sub {name : Str} {v : Value} {expr : Bool} {Q : Value → Shared → Prop} (X : KK.In s.heap) (I : InstAt s.heap x ox c od) (hga : findIn KK (.ref c) "__getattribute__" = some (some (.builtin "list.__getattribute__"))) (hk : findIn KK (.ref c) "__getattr__" = some none)
    (hm : mroIn KK c (.type "list") = some true) (hf : findObj KK c od name = some (.value v)) (hh : handedIn v = true) (h : Q v { s with toks := s.toks + 1 }) : wpAny (model prog w) A (getAttr (.ref x) name expr) Q E s := by
  obtain ⟨hp, g, d, t, os⟩ := s
  have L0 := I.type (M := model prog w)
  have L1 := looks_findIn (M := model prog w) X hga
  unfold getAttr getAttrBy
  refine wpAny_bind (wpAny_mkText (wpAny_holding (wpAny_bind (L0.at (wpAny_bind (L1.at ?_))))))
  dsimp only
  rw [show (onTheHeap (.ref c) && (Value.builtin "list.__getattribute__" == Value.builtin "object.__getattribute__")) = false from by rw [show (Value.builtin "list.__getattribute__" == Value.builtin "object.__getattribute__") = false from by decide +kernel, Bool.and_false], if_neg (by decide)]
  unfold getAttrByItsOwn hookBefore
  rw [show onTheHeap (.ref c) = true from rfl, if_pos rfl]
  refine wpAny_bind ((looks_findIn (M := model prog w) X hk).at (wpAny_bind (wpAny_attempt (wpAny_holding ?_))))
  unfold callGetattribute
  rw [show (expr && onTheHeap (Value.builtin "list.__getattribute__")) = false from Bool.and_false _, if_neg (by decide)]
  unfold boundAndCalled
  rw [bind_lga]
  refine wpAny_bind (wpAny_pure ?_)
  refine call_sub (s := ⟨hp, g, d, t + 1, os⟩) (owner := "list") (n := "__getattribute__") (by decide +kernel) (.inl (by decide +kernel)) (by decide +kernel) X I hm am_entry_list_getattribute (args_lga _ _) ?_
  have L2 := looks_find (M := model prog w) X I hf
  refine wpAny_bind (wpAny_pure (wpAny_bind (wpAny_pure (wpAny_bind (L0.at (wpAny_bind (L2.at ?_)))))))
  refine wpAny_pure ⟨v, rfl, ?_⟩
  show wpAny _ _ (handedOut v) _ _ _
  rw [handedOut_of hh]; exact wpAny_pure h
noncomputable def startVal (c : Int) (val : Nat → Int) : Nat → Int
  | 0 => c
  | j + 1 => val j
theorem preSum_start (c : Int) (val : Nat → Int) : ∀ j, preSum (startVal c val) (j + 1) = c + preSum val j
  | 0 => by simp [preSum, startVal]
  | j + 1 => by
    show preSum (startVal c val) (j + 1) + startVal c val (j + 1) = _
    rw [preSum_start c val j]
    show _ + val j = c + (preSum val j + val j)
    omega
theorem walk_start {I : Addr} {fp wr : List Addr} {G : Array GenState → Array GenState → Prop} {n : Nat} {P : Nat → Value → Prop} {St : Nat → Shared → Prop} (Wk : WalksS prog w A I fp wr G n P St) :
    WalksS prog w A I fp wr G (n + 1) (fun j v => ∃ i, j = i + 1 ∧ P i v) (fun j s => ∃ i, j = i + 1 ∧ St i s) where
  sub := Wk.sub
  grefl := Wk.grefl
  gtrans := Wk.gtrans
  frame := fun i s h' tk ⟨j, e, st⟩ ht hk => ⟨j, e, Wk.frame j s h' tk st ht hk⟩
  item := fun i s Q E hi ⟨j, e, st⟩ hQ => by
    subst e
    exact Wk.item j s Q E (by omega) st fun v s' hP st' hm => hQ v s' ⟨j, rfl, hP⟩ ⟨j + 1, rfl, st'⟩ hm
  done := fun s Q E ⟨j, e, st⟩ hQ => by
    obtain rfl : n = j := by omega
    exact Wk.done s Q E st hQ
  self := fun i s Q E ⟨j, e, st⟩ hQ => Wk.self j s Q E st hQ
theorem args_sum2 (a b : Value) : argsOk "sum" ⟨[a, b], []⟩ := by unfold argsOk; kernel_rfl
theorem call_sum_start {x : Value} {c : Int} {t : Tok} {Q : Value → Shared → Prop} (hc : InLong c)
    (h : wpAny (model prog w) A.in1 (pyIter x) (fun it s₂ => ∃ I fp wr G n P St val, it = .ref I ∧ WalksS prog w A.in1 I fp wr G n P St ∧ St 0 s₂ ∧ (∀ b ∈ fp, b < s₂.heap.objs.size) ∧
      (∀ i v, P i v → ∃ t, v = .int (val i) t) ∧ (∀ j, j < n → InLong (val j) ∧ InLong (c + preSum val (j + 1))) ∧
      ∀ s' t', Moved wr G s₂ s' → Q (.int (c + preSum val n) t') s') E s) :
    wpAny (model prog w) A (call (.builtin "sum") [x, .int c t]) Q E s := by
  refine call_function_tree F.kind_sum F.plain_sum F.entry_sum (args_sum2 _ _) ?_
  unfold Builtin.«sum»
  simp only [List.length_cons, List.length_nil]
  rw [if_neg (by decide)]
  refine wpAny_bind (wpAny_of_eq (show Builtin.Builtins.bindParams "sum" ["start"] 0 ⟨[.int c t], []⟩ = pure [some (.int c t)] from rfl) ?_)
  refine wpAny_bind (wpAny_mono h (fun it s₂ h₂ => ?_) fun _ _ e => e)
  obtain ⟨I, fp, wr, G, n, P, St, val, rfl, W, hst, hfp, hval, hfit, hQ⟩ := h₂
  have hcc : (decide (-(2 ^ 63) ≤ c) && decide (c < 2 ^ 63)) = true := by
    simp only [Bool.and_eq_true, decide_eq_true_eq]
    exact hc
  dsimp only
  split
  · refine wpAny_bind (wpAny_rule (wpAny_bind (wpAny_mkInt ?_)))
    refine wpAny_bind (wpAny_pure ?_)
    simp only [List.forIn_cons, List.forIn_nil]
    refine wpAny_bind (wpAny_bind (wpAny_bind (wpAny_isInstance (T := "int") (b := false) (typeIs_int _ _ _) PySem.sub_int_str ?_)))
    simp only [Bool.false_eq_true, if_false]
    refine wpAny_pure (wpAny_bind (wpAny_bind (wpAny_isInstance (T := "int") (b := false) (typeIs_int _ _ _) PySem.sub_int_bytes ?_)))
    simp only [Bool.false_eq_true, if_false]
    refine wpAny_pure (wpAny_bind (wpAny_bind (wpAny_isInstance (T := "int") (b := false) (typeIs_int _ _ _) PySem.sub_int_bytearray ?_)))
    simp only [Bool.false_eq_true, if_false]
    refine wpAny_pure (wpAny_pure ?_)
    refine wpAny_bind (wpAny_newObj_type ?_)
    have hSf : s₂.heap.objs.size ∉ fp := fun hm => Nat.lt_irrefl _ (hfp _ hm)
    have W' := walk_start W
    have e1 : preSum (startVal c val) 1 = c := by rw [preSum_start]; simp [preSum]
    refine wpAny_pure ⟨plainId_quiet F.plain_sum_loop _, codeAny_sum_loopS W' (startVal c val) (fun i v ⟨j, e, hP⟩ => by subst e; exact hval j v hP) (fun j hj => ?_) s₂.heap.objs.size hSf n 1 _ s₂.toks 0 (by omega) (by omega)
      ⟨0, rfl, W.frame 0 s₂ _ _ hst (Nat.le_succ _) fun b _ o e => Heap.get?_push_of_some _ e⟩ (by rw [e1]; exact Heap.get?_push_size _ rfl) fun s' t' hm => ?_⟩
    · induction j using natC with
      | zero =>
        refine ⟨hc, ?_⟩
        rw [e1]; exact hc
      | succ j =>
        obtain ⟨a, b⟩ := hfit j (by omega)
        refine ⟨a, ?_⟩
        rw [preSum_start]; exact b
    · rw [preSum_start]
      exact hQ s' t' (hm.drop_new (Nat.le_succ _))
  · rename_i hneg
    exact absurd hcc hneg
end
end Mine
end
section
open PySem PySem.W PyProof.Rows PySem.Calls Builtin Builtin.Str
namespace Mine
noncomputable def strOf : PV → Option (List Nat)
  | .str a => some a
  | _ => none
noncomputable def pairOf : PV → Option (List Nat × List Nat)
  | .tup [x, y] => match strOf x with
    | some a => match strOf y with
      | some b => some (a, b)
      | none => none
    | none => none
  | _ => none
noncomputable def tpairs : List PV → Option (List (List Nat × List Nat))
  | [] => some []
  | v :: r => match pairOf v with
    | some p => match tpairs r with
      | some ps => some (p :: ps)
      | none => none
    | none => none
theorem strOf_eq {v : PV} {a : List Nat} (h : strOf v = some a) : v = .str a := by
  cases v <;> first | exact noneE h | exact congrArg PV.str (Option.some.inj h)
theorem pairOf_eq {v : PV} {p : List Nat × List Nat} (h : pairOf v = some p) : v = tupPV p := by
  unfold pairOf at h
  split at h
  · split at h
    · rename_i a ha
      split at h
      · rename_i b hb
        induction h using some1C
        rw [strOf_eq ha, strOf_eq hb]; rfl
      · exact noneE h
    · exact noneE h
  · exact noneE h
theorem tpairs_eq : ∀ (xs : List PV) (ps : List (List Nat × List Nat)), tpairs xs = some ps → xs = ps.map tupPV := by
  intro xs
  induction xs with
  | nil => intro ps e; induction e using some1C; rfl
  | cons v r ih =>
    intro ps e
    rw [tpairs] at e
    split at e
    · rename_i p hp
      split at e
      · rename_i qs hq
        induction e using some1C
        rw [List.map_cons, ← ih _ hq, pairOf_eq hp]
      · exact noneE e
    · exact noneE e
noncomputable def isTab (P : Addr) : PO → Bool
  | .tab Q => Q == P
  | _ => false
theorem tab_of {P : Addr} {ms : List PO} (h : ms.any (isTab P) = true) : ∃ lt : Nat, ms[lt]? = some (.tab P) := by
  obtain ⟨po, hm, hp⟩ := List.any_eq_true.mp h
  obtain ⟨i, hi⟩ := List.mem_iff_getElem?.mp hm
  unfold isTab at hp
  split at hp
  · rename_i q
    have : q = P := by simpa using hp
    exact ⟨i, this ▸ hi⟩
  · cases hp
noncomputable def totLen (ps : List (List Nat × List Nat)) : Nat := (ps.map fun p => p.1.length + p.2.length).sum
noncomputable def totCat (ps : List (List Nat × List Nat)) : List Nat := (ps.map fun p => p.1 ++ p.2).flatten
noncomputable def accParts (P : Addr) (v : PV) (σ : PS) : Option (Int × List (List Nat × List Nat)) := match v with
  | .ref l => match σ.mem[l]? with
    | some (.acc n xs) => match tpairs xs with
      | some ps => if (σ.mem.any (isTab P) && decide (0 ≤ n ∧ n ≤ 4096 ∧ ps.length ≤ 64 ∧ ∀ p ∈ ps, p.1.length ≤ 64 ∧ p.2.length ≤ 64)) = true then some (n, ps) else none
      | none => none
    | _ => none
  | _ => none
theorem accParts_some {P : Addr} {v : PV} {σ : PS} {n : Int} {ps : List (List Nat × List Nat)} (h : accParts P v σ = some (n, ps)) :
    ∃ l lt : Nat, v = .ref l ∧ σ.mem[l]? = some (.acc n (ps.map tupPV)) ∧ σ.mem[lt]? = some (.tab P) ∧ 0 ≤ n ∧ n ≤ 4096 ∧ ps.length ≤ 64 ∧ ∀ p ∈ ps, p.1.length ≤ 64 ∧ p.2.length ≤ 64 := by
  unfold accParts at h
  split at h
  · split at h
    · rename_i n' xs hx
      split at h
      · rename_i ps' hps
        split at h
        · rename_i hc
          induction h using someC
          rw [Bool.and_eq_true, decide_eq_true_eq] at hc
          obtain ⟨lt, hlt⟩ := tab_of hc.1
          rw [tpairs_eq _ _ hps] at hx
          exact ⟨_, lt, rfl, hx, hlt, hc.2⟩
        · exact noneE h
      · exact noneE h
    · exact noneE h
  · exact noneE h
theorem join_nil : ∀ (l : List (List Nat)), Txt.join (mkS' []) (l.map mkS') = mkS' l.flatten
  | [] => rfl
  | x :: r => by
    show (⟨((r.map mkS')).foldl (fun acc p => acc ++ (mkS' []).cps ++ p.cps) x.toArray⟩ : Str) = mkS' (x :: r).flatten
    have key : ∀ (r : List (List Nat)) (z : Array Nat), (r.map mkS').foldl (fun acc p => acc ++ (mkS' []).cps ++ p.cps) z = z ++ r.flatten.toArray := by
      intro r
      induction r with
      | nil => intro z; simp
      | cons y r ih =>
        intro z
        rw [List.map_cons, List.foldl_cons, ih]
        simp [mkS', Array.append_assoc]
    rw [key]
    simp [mkS']
section
variable {prog : Program} {w : World} {A : Around} {E : Value → Shared → Prop} {s : Shared}
theorem gn_loc {env : Env} {x : Str} {m : Str → Option Value} {v : Value} {p : Pos} {Q : Value → Shared → Prop} (hk : env.scope.kind = .function) (hx : env.scope.names.lookup x = some .local) (hn : s.heap.Ns env.locals m) (hm : m x = some v) (hd : (x == ("__debug__" : Str)) = false) (h : Q v s) :
    wpAny (model prog w) A (eval (.Name x p) env) Q E s := wpAny_Name (wpAny_loadName_local hk hx hn hm h) hd
end
section
variable {G : Gd} {A : Around} {E : Value → Shared → Prop} {s : Shared}
theorem gn_blt {env : Env} {x : Str} {v : Value} {p : Pos} {Q : Value → Shared → Prop} (g : GdOk G s.heap) (hk : env.scope.kind = .function) (hg : env.globals = mainGlobals) (hb : env.builtins = builtinsNs) (hx : env.kindOf x = some .globalImplicit)
    (e : nsIn G.K mainGlobals x = some none) (hv : bootBuiltins x = some v) (hn : x ≠ "__name__") (hd : (x == ("__debug__" : Str)) = false) (h : Q v s) : wpAny (model G.p G.w) A (eval (.Name x p) env) Q E s :=
  Name_function_global hk hx (loadGlobal_builtin (hg.symm ▸ g.g) (mg_none_of g.frag g.g e) (hb.symm ▸ g.b) ((g.bi x hn).trans hv) h) hd
theorem gn_glo {env : Env} {x : Str} {v : Value} {p : Pos} {Q : Value → Shared → Prop} (g : GdOk G s.heap) (hk : env.scope.kind = .function) (hg : env.globals = mainGlobals) (hx : env.kindOf x = some .globalImplicit)
    (e : nsIn G.K mainGlobals x = some (some v)) (hd : (x == ("__debug__" : Str)) = false) (h : Q v s) : wpAny (model G.p G.w) A (eval (.Name x p) env) Q E s :=
  Name_function_global hk hx (loadGlobal_global (hg.symm ▸ g.g) (mg_of g.frag g.g e) h) hd
theorem gn_len {env : Env} {x : Str} {m : Str → Option Value} {a : List Nat} {t : Tok} {p1 p2 p3 : Pos} {Q : Value → Shared → Prop} (g : GdOk G s.heap) (hk : env.scope.kind = .function) (hg : env.globals = mainGlobals) (hb : env.builtins = builtinsNs)
    (hl : env.kindOf "len" = some .globalImplicit) (e : nsIn G.K mainGlobals "len" = some none) (hx : env.scope.names.lookup x = some .local) (hd : (x == ("__debug__" : Str)) = false) (hn : s.heap.Ns env.locals m) (hm : m x = some (.str (mkS' a) t)) (hs : a.length ≤ 64)
    (h : ∀ u k, Q (.int a.length u) { s with toks := k }) : wpAny (model G.p G.w) A (eval (.Call (.Name "len" p1) [.Name x p2] [] p3) env) Q E s := by
  refine Call_Name rfl (gn_blt g hk hg hb hl e (v := .builtin "len") (by kernel_rfl) (by decide) (by decide) ?_)
  refine Calls.callWith_builtin rfl (evalArgs_plain (wpAny_items_cons (gn_loc hk hx hn hm hd (wpAny_items_nil ?_)) rfl))
  refine P.len_str (by rw [mkS'_len]; omega) ?_
  rw [mkS'_len]
  exact h _ _
end
end Mine
end
section
open PySem PySem.W PyProof.Rows PySem.Calls Builtin Builtin.Str
namespace Mine
section
variable {prog : Program} {w : World} {A : Around} {E : Value → Shared → Prop} {s : Shared}
theorem args2 {c : Value} {e1 e2 : Expr} {env : Env} {pos : Pos} {Q : Args → Shared → Prop} (h1 : starEach [e1, e2] env = (false, eval e1 env) :: starEach [e2] env) (h2 : starEach [e2] env = [(false, eval e2 env)])
    (h : wpAny (model prog w) A (eval e1 env) (fun x s₁ => wpAny (model prog w) A (eval e2 env) (fun y s₂ => Q ⟨[x, y], []⟩ s₂) E s₁) E s) : wpAny (model prog w) A (evalArgs c true (backTo pos (starEach [e1, e2] env)) []) Q E s := by
  have key : wpAny (model prog w) A (spliced (backTo pos (starEach [e1, e2] env))) (fun vs s' => Q ⟨vs, []⟩ s') E s :=
    wpAny_items_cons (wpAny_mono h (fun x s₁ h' => wpAny_items_cons (wpAny_mono h' (fun y s₂ h'' => wpAny_items_nil h'') fun _ _ e => e) (by rw [h2]; rfl)) fun _ _ e => e) (h1)
  rw [h1] at key ⊢
  exact evalArgs_plain key
theorem args1 {c : Value} {e1 : Expr} {env : Env} {pos : Pos} {Q : Args → Shared → Prop} (h1 : starEach [e1] env = [(false, eval e1 env)])
    (h : wpAny (model prog w) A (eval e1 env) (fun x s₁ => Q ⟨[x], []⟩ s₁) E s) : wpAny (model prog w) A (evalArgs c true (backTo pos (starEach [e1] env)) []) Q E s := by
  have key : wpAny (model prog w) A (spliced (backTo pos (starEach [e1] env))) (fun vs s' => Q ⟨vs, []⟩ s') E s :=
    wpAny_items_cons (wpAny_mono h (fun x s₁ h' => wpAny_items_nil h') fun _ _ e => e) (by rw [h1]; rfl)
  rw [h1] at key ⊢
  exact evalArgs_plain key
end
structure AccK4 (G : Gd) : Prop extends AccK3 G where
  own : ∀ P n t u, findObj G.K G.acc (some (accD P n t u)) "_initial_size" = some (.value (.int n u))
section
variable {G : Gd} {A : Around} {E : Value → Shared → Prop} {s : Shared}
theorem elt_len {env : Env} {xa xb : Str} {m : Str → Option Value} {a b : List Nat} {ta tb : Tok} {p1 p2 p3 p4 p5 p6 p7 : Pos} (g : GdOk G s.heap) (hk : env.scope.kind = .function) (hg : env.globals = mainGlobals) (hb : env.builtins = builtinsNs)
    (hl : env.kindOf "len" = some .globalImplicit) (e : nsIn G.K mainGlobals "len" = some none) (hxa : env.scope.names.lookup xa = some .local) (hxb : env.scope.names.lookup xb = some .local) (hda : (xa == ("__debug__" : Str)) = false) (hdb : (xb == ("__debug__" : Str)) = false)
    (hn : s.heap.Ns env.locals m) (hma : m xa = some (.str (mkS' a) ta)) (hmb : m xb = some (.str (mkS' b) tb)) (ha : a.length ≤ 64) (hb' : b.length ≤ 64) :
    wpAny (model G.p G.w) A (eval (.BinOp (.Call (.Name "len" p1) [.Name xa p2] [] p3) .Add (.Call (.Name "len" p4) [.Name xb p5] [] p6) p7) env) (fun y s₃ => (∃ t, y = .int ((a.length + b.length : Nat) : Int) t) ∧ Keeps s s₃) E s := by
  refine wpAny_BinOp (gn_len g hk hg hb hl e hxa hda hn hma ha fun u k => gn_len (s := { s with toks := k }) g hk hg hb hl e hxb hdb hn hmb hb' fun u' k' => ?_)
  exact add_int ⟨⟨_, by rw [Int.natCast_add]⟩, s.heap, _, rfl, fun _ _ e => e⟩
theorem elt_join {env : Env} {x xa xb : Str} {m : Str → Option Value} {a b : List Nat} {ta tb tx : Tok} {p1 p2 p3 p4 p5 p6 : Pos} {kt : Nat} (g : GdOk G s.heap) (hk : env.scope.kind = .function) (hg : env.globals = mainGlobals)
    (hx : env.kindOf x = some .globalImplicit) (e : nsIn G.K mainGlobals x = some (some (.str (mkS' []) tx))) (hxa : env.scope.names.lookup xa = some .local) (hxb : env.scope.names.lookup xb = some .local) (hd : (x == ("__debug__" : Str)) = false) (hda : (xa == ("__debug__" : Str)) = false) (hdb : (xb == ("__debug__" : Str)) = false)
    (hn : s.heap.Ns env.locals m) (hma : m xa = some (.str (mkS' a) ta)) (hmb : m xb = some (.str (mkS' b) tb)) (ha : a.length ≤ 64) (hb' : b.length ≤ 64) (hline : (p2.endLine == p6.line) = true) :
    wpAny (model G.p G.w) A (eval (.Call (.Attribute (.Name x p1) "join" p2) [.Tuple [.Name xa p3, .Name xb p4] kt p5] [] p6) env) (fun y s₃ => (∃ t, y = .str (mkS' (a ++ b)) t) ∧ Keeps s s₃) E s := by
  refine wpAny_Call_method_lateS rfl rfl hline (gn_glo g hk hg hx e hd ⟨"str", "str.join", F.plainAttrs_str, F.slot_str_join, F.type_str_join, typeIs_str _ _ _, (fun _ q => by cases q), ?_⟩)
  refine Calls.callWith_builtin rfl (evalArgs_plain (wpAny_items_cons (wpAny_Tuple (wpAny_items_cons (gn_loc hk hxa hn hma hda (wpAny_items_cons (gn_loc hk hxb hn hmb hdb (wpAny_items_nil ⟨by show 2 ≤ sizeLine; decide +kernel, wpAny_items_nil ?_⟩)) rfl)) rfl)) rfl))
  refine join_tuple (ys := [mkS' a, mkS' b]) ⟨_, Heap.get?_push_size _ rfl, rfl, _, rfl⟩ (.cons _ _ (.cons _ _ .nil)) ?_ fun t' k => ⟨⟨t', ?_⟩, _, k, rfl, fun b o e => Heap.get?_push_of_some _ e⟩
  · simp; omega
  · rw [show [mkS' a, mkS' b] = [a, b].map mkS' from rfl, join_nil]; simp
end
noncomputable def lenAt (ps : List (List Nat × List Nat)) (j : Nat) : Int := match ps[j]? with
  | some p => ((p.1.length + p.2.length : Nat) : Int)
  | none => 0
theorem pre_len (ps : List (List Nat × List Nat)) : ∀ j, preSum (lenAt ps) j = (totLen (ps.take j) : Int)
  | 0 => by simp [preSum, totLen]
  | j + 1 => by
    show preSum (lenAt ps) j + lenAt ps j = _
    rw [pre_len ps j, List.take_add_one]
    unfold lenAt totLen
    cases h : ps[j]? with
    | none => simp
    | some p => simp
theorem totLen_le : ∀ {ps : List (List Nat × List Nat)}, (∀ p ∈ ps, p.1.length ≤ 64 ∧ p.2.length ≤ 64) → totLen ps ≤ 128 * ps.length
  | [], _ => by simp [totLen]
  | p :: ps, h => by
    have h1 := h p (.head _)
    have h2 := totLen_le fun q hq => h q (.tail _ hq)
    unfold totLen at h2 ⊢
    simp only [List.map_cons, List.sum_cons, List.length_cons]
    omega
section
variable {G : Gd} {C : Cx}
theorem moved_back {W : Wd} {σ : PS} {X : Led} {s₁ s' s'' : Shared} {wr : List Addr} {g lt : Nat} {P : Addr} (R : Rel C W σ X s₁) (ht : σ.mem[lt]? = some (.tab P)) (hk : ∀ b o, b ≠ P → s₁.heap.get? b = some o → s'.heap.get? b = some o)
    (hP : ∃ vs, TriplesOk vs ∧ s'.heap.get? P = some (tabO vs)) (hg : AllBare s'.gens) (ho : s'.os = s₁.os) (hwr : ∀ b ∈ wr, s₁.heap.objs.size ≤ b) (hm : Moved wr (GenOnlyQ g) s' s'') (htk : 0 < s''.toks) : Rel C W σ X s'' := by
  obtain ⟨vs₁, _, hP₁, _⟩ := R.tabAt ht
  obtain ⟨vs, tr, hPs⟩ := hP
  have notin : ∀ b o, s₁.heap.get? b = some o → b ∉ wr := fun b o e hb => Nat.lt_irrefl _ (Nat.lt_of_lt_of_le (Heap.lt_size e) (hwr b hb))
  exact R.grownP ht (fun b o hb e => hm.heap b o (notin b o e) (hk b o hb e)) ⟨vs, tr, hm.heap P _ (notin P _ hP₁) hPs⟩ (hg.movedS hm) (hm.os.trans ho) htk
theorem Ev.sumAcc (K : COk1 G C) (AK : AccK4 G) {c P : Addr} (CK : CodeK G c P) (hcode : C.fenv.code = .ref c) {sf xa xb : Str} {sc : Scope} {kt : Nat} {p0 p1 p2 p3 p4 p5 p6 p7 pa pb pt pi ps1 ps2 ap pos : Pos}
    (hnm : C.nm[0]? = some (sf, false)) (hsd : (sf == ("__debug__" : Str)) = false) (hsum : Ev G C (fv C) (.Name "sum" p0) (fun σ => some (.raw (.builtin "sum"), σ)))
    (hco : sc.isCoroutine = false) (hclos : closureFor sc C.fenv = pure []) (hcell : ∀ y ∈ sc.names, y.2 ≠ .cell) (h0 : sc.names.lookup (".0" : Str) = some NameKind.local)
    (hxa : sc.names.lookup xa = some .local) (hxb : sc.names.lookup xb = some .local) (hab : xa ≠ xb) (hkind : sc.kind = .function) (hl : sc.names.lookup ("len" : Str) = some NameKind.globalImplicit) (el : nsIn G.K mainGlobals "len" = some none) (hda : (xa == ("__debug__" : Str)) = false) (hdb : (xb == ("__debug__" : Str)) = false) :
    Ev G C (fv C) (.Call (.Name "sum" p0) [.GeneratorExp (.BinOp (.Call (.Name "len" p1) [.Name xa p2] [] p3) .Add (.Call (.Name "len" p4) [.Name xb p5] [] p6) p7) [⟨.Tuple [.Name xa pa, .Name xb pb] kt pt, .Name sf pi, [], 0⟩] sc ps1, .Attribute (.Name sf ps2) "_initial_size" ap] [] pos)
      (fun σ => fb (fvar 0 σ) fun v σ => match accParts P v σ with | some (n, ps) => some (.int (n + (totLen ps : Nat)), σ) | none => none) := by
  intro W σ X s r σ' Q E e R ok h
  refine fbE e fun v σ₁ e₁ e₂ => ?_
  unfold fvar at e₁
  split at e₁
  · rename_i v' hv
    induction e₁ using someC
    split at e₂
    · rename_i n ps hps
      induction e₂ using someC
      obtain ⟨l, lt, rfl, hx, ht, hn0, hn1, hpl, hpb⟩ := accParts_some hps
      refine Call_Name rfl (hsum W σ X s _ _ _ E rfl R trivial fun W₀ y s₀ l₀ R₀ ry => ?_)
      induction ry using VRel.rawC
      refine Calls.callWith_builtin rfl (args2 rfl rfl (wpAny_with_toks R₀.tk ?_))
      refine gen_acc K AK.toAccK3 CK hcode hco hclos hcell h0 hxa hxb hab hkind (fun _ => rfl) (fun i y => ∃ p, ps[i]? = some p ∧ ∃ t, y = .int ((p.1.length + p.2.length : Nat) : Int) t) (Ev.var K hnm hsd) (by unfold fvar; rw [hv]) R₀ hx ht
        (fun A' E' i p ta tb u m₂ env' hA g hsc hgl hbi hp hns hma hmb => ?_) fun W₁ s₁ a s' fp wr g St l₁ R₁ WS hst hT ha hfp hk hP hg hos hwr htk => ?_
      · subst hsc
        have hb := hpb p (List.mem_of_getElem? hp)
        exact wpAny_mono (elt_len g hkind hgl hbi hl el hxa hxb hda hdb hns hma hmb hb.1 hb.2) (fun y s₃ ⟨⟨t, q⟩, k⟩ => ⟨⟨p, hp, t, q⟩, k⟩) fun _ _ e => e
      · have R₂ := R₁.grownP ht hk hP hg hos htk
        rw [arm_eval_Attribute]
        refine wpAny_bind (m := eval (.Name sf ps2) C.fenv) (wpAny_Name (ld_var K.toCOk hnm R₂ hv fun y ry => ?_) hsd)
        induction ry using VRel.refC with
        | ref ad had =>
          refine accE K R₂ hx had fun vs ee dx t u ho rvs hm I => ?_
          refine wpAny_bind (wpAny_standAt (wpAny_bind (wpAny_holding (get_sub (K.gd.frag.keeps fun _ _ => R₂.keep) I AK.ga AK.gt AK.list (AK.own _ _ _ _) rfl ?_))))
          refine wpAny_bind (wpAny_letTemporaryGo (wpAny_pure ?_))
          have hst' : St 0 { s' with toks := s'.toks + 1 } := WS.frame 0 s' s'.heap _ hst (Nat.le_succ _) fun _ _ _ e => e
          have WS1 := WS.in4_1
          have inl : ∀ i : Int, 0 ≤ i → i ≤ 100000 → InLong i := fun i h1 h2 => ⟨by omega, by omega⟩
          have htot : ∀ j, totLen (ps.take j) ≤ 8192 := fun j => by
            have := totLen_le (ps := ps.take j) fun p hp => hpb p (List.mem_of_mem_take hp)
            have h2 : (ps.take j).length ≤ 64 := Nat.le_trans (List.length_take_le' ..) hpl
            omega
          refine wpAny_with_toks (n := 1) (Nat.succ_le_succ (Nat.zero_le _)) (call_sum_start (inl _ hn0 (by omega)) (WS1.self 0 _ _ _ hst' ⟨a, _, _, _, _, _, _, lenAt ps, rfl, WS1, hst', hfp, fun j v hv => ?_, fun j hj => ?_, fun s'' t' hm' htk' => ?_⟩))
          · obtain ⟨i, hi, p, hp, t, q⟩ := hv
            have : i = j := by
              obtain ⟨hlt, e⟩ := List.getElem?_eq_some_iff.mp hi
              simpa using e.symm
            subst this
            exact ⟨t, by rw [q]; unfold lenAt; rw [hp]⟩
          · constructor
            · unfold lenAt
              split
              · rename_i p hp
                have := hpb p (List.mem_of_getElem? hp)
                exact inl _ (by omega) (by omega)
              · exact inl _ (by omega) (by omega)
            · rw [pre_len]
              have := htot (j + 1)
              exact inl _ (by omega) (by omega)
          · rw [pre_len, List.take_length]
            have R₃ := moved_back R₁ ht hk hP hg hos hwr (⟨hm'.heap, hm'.gens, hm'.drawn, hm'.os, Nat.le_trans (Nat.le_succ _) hm'.toks⟩ : Moved wr (GenOnlyQ g) s' s'') htk'
            exact h W₁ _ _ (Wd.le_trans l₀ l₁) R₃ (.int _ t')
    · exact noneE e₂
  · exact noneE e₁
end
end Mine
end
section
open PySem PySem.W PyProof.Rows PySem.Calls Builtin Builtin.Str
namespace Mine
noncomputable def catAt (ps : List (List Nat × List Nat)) (j : Nat) : List Nat := match ps[j]? with
  | some p => p.1 ++ p.2
  | none => []
theorem cats_is (ps : List (List Nat × List Nat)) : (List.range ps.length).map (fun j => mkS' (catAt ps j)) = (ps.map fun p => p.1 ++ p.2).map mkS' := by
  apply List.ext_getElem?
  intro j
  by_cases h : j < ps.length
  · simp [h, catAt]
  · rw [List.getElem?_eq_none (by simpa using h), List.getElem?_eq_none (by simpa using h)]
theorem sumLen_le : ∀ {ps : List (List Nat × List Nat)}, (∀ p ∈ ps, p.1.length ≤ 64 ∧ p.2.length ≤ 64) → ((((ps.map fun p => p.1 ++ p.2).map mkS').map (·.length))).sum ≤ 128 * ps.length
  | [], _ => by simp
  | p :: ps, h => by
    have h1 := h p (.head _)
    have h2 := sumLen_le fun q hq => h q (.tail _ hq)
    simp only [List.map_cons, List.sum_cons, List.length_cons, mkS'_len, List.length_append] at h2 ⊢
    omega
section
variable {G : Gd} {C : Cx}
theorem Ev.joinAcc (K : COk1 G C) (AK : AccK4 G) {c P : Addr} (CK : CodeK G c P) (hcode : C.fenv.code = .ref c) {sf xe xa xb : Str} {te : Tok} {sc : Scope} {kt kt2 : Nat} {p0 p1 p2 p3 p4 p5 p6 pa pb pt pi ps1 ap pos : Pos}
    (hnm : C.nm[0]? = some (sf, false)) (hsd : (sf == ("__debug__" : Str)) = false) (hgl0 : C.fenv.kindOf xe = some .globalImplicit) (ee : nsIn G.K mainGlobals xe = some (some (.str (mkS' []) te))) (hed : (xe == ("__debug__" : Str)) = false)
    (hco : sc.isCoroutine = false) (hclos : closureFor sc C.fenv = pure []) (hcell : ∀ y ∈ sc.names, y.2 ≠ .cell) (h0 : sc.names.lookup (".0" : Str) = some NameKind.local)
    (hxa : sc.names.lookup xa = some .local) (hxb : sc.names.lookup xb = some .local) (hab : xa ≠ xb) (hkind : sc.kind = .function) (hl : sc.names.lookup xe = some .globalImplicit) (hda : (xa == ("__debug__" : Str)) = false) (hdb : (xb == ("__debug__" : Str)) = false)
    (hline : (p2.endLine == p6.line) = true) (hline2 : (ap.endLine == pos.line) = true) :
    Ev G C (fv C) (.Call (.Attribute (.Name xe p0) "join" ap) [.GeneratorExp (.Call (.Attribute (.Name xe p1) "join" p2) [.Tuple [.Name xa p3, .Name xb p4] kt2 p5] [] p6) [⟨.Tuple [.Name xa pa, .Name xb pb] kt pt, .Name sf pi, [], 0⟩] sc ps1] [] pos)
      (fun σ => fb (fvar 0 σ) fun v σ => match accParts P v σ with | some (_, ps) => some (.str (totCat ps), σ) | none => none) := by
  intro W σ X s r σ' Q E e R ok h
  refine fbE e fun v σ₁ e₁ e₂ => ?_
  unfold fvar at e₁
  split at e₁
  · rename_i v' hv
    induction e₁ using someC
    split at e₂
    · rename_i n ps hps
      induction e₂ using someC
      obtain ⟨l, lt, rfl, hx, ht, hn0, hn1, hpl, hpb⟩ := accParts_some hps
      have g₀ : GdOk G s.heap := K.gd.keeps fun _ _ => R.keep
      refine wpAny_Call_method_lateS rfl rfl hline2 (gn_glo g₀ K.kind K.globals hgl0 ee hed ⟨"str", "str.join", F.plainAttrs_str, F.slot_str_join, F.type_str_join, typeIs_str _ _ _, (fun _ q => by cases q), ?_⟩)
      refine Calls.callWith_builtin rfl (args1 rfl (wpAny_with_toks R.tk ?_))
      refine gen_acc K AK.toAccK3 CK hcode hco hclos hcell h0 hxa hxb hab hkind (fun _ => rfl) (fun i y => ∃ p, ps[i]? = some p ∧ ∃ t, y = .str (mkS' (p.1 ++ p.2)) t) (Ev.var K hnm hsd) (by unfold fvar; rw [hv]) R hx ht
        (fun A' E' i p ta tb u m₂ env' hA g hsc hgl hbi hp hns hma hmb => ?_) fun W₁ s₁ a s' fp wr g St l₁ R₁ WS hst hT ha hfp hk hP hg hos hwr htk => ?_
      · subst hsc
        have hb := hpb p (List.mem_of_getElem? hp)
        exact wpAny_mono (elt_join g hkind hgl hl ee hxa hxb hed hda hdb hns hma hmb hb.1 hb.2 hline) (fun y s₃ ⟨⟨t, q⟩, k⟩ => ⟨⟨p, hp, t, q⟩, k⟩) fun _ _ e => e
      · refine wpAny_with_toks (n := 1) htk ?_
        refine SC.joinGen WS.in4_2 hT hst hfp ha (fun j v hv => ?_) (fun s'' lt' hm hacc => ?_) (Nat.le_trans hpl (by decide +kernel))
        · obtain ⟨i, _, p, _, t, q⟩ := hv
          exact ⟨_, t, q⟩
        · have hlist : lt'.map (·.1) = (ps.map fun p => p.1 ++ p.2).map mkS' := by
            rw [← cats_is]
            apply List.ext_getElem?
            intro j
            have hsz : lt'.length = ps.length := by simpa [strValues] using hacc.1
            by_cases hj : j < ps.length
            · have hj' : j < lt'.length := hsz ▸ hj
              obtain ⟨i, hi, p, hp, t, q⟩ := hacc.2 j (.str lt'[j].1 lt'[j].2) (by simp [strValues, List.getElem?_eq_getElem hj'])
              have : i = j := by
                obtain ⟨hlt, e⟩ := List.getElem?_eq_some_iff.mp hi
                simpa using e.symm
              subst this
              injection q with q1 _
              rw [List.getElem?_map, List.getElem?_eq_getElem hj']
              have hps : ps[i] = p := Option.some.inj ((List.getElem?_eq_getElem hj).symm.trans hp)
              simp [hj, q1, catAt, hps]
            · rw [List.getElem?_eq_none (by simpa [hsz] using hj), List.getElem?_eq_none (by simpa using hj)]
          rw [hlist, join_nil]
          refine ⟨joinOk_of ?_, fun t' k htk' => ?_⟩
          · have := sumLen_le hpb
            simp only [List.length_map, mkS'_len, List.length_nil] at this ⊢
            omega
          · have R₃ := (moved_back R₁ ht hk hP hg hos hwr hm (Nat.lt_of_lt_of_le htk hm.toks)).toks k htk'
            exact h W₁ _ _ l₁ R₃ (.str _ t')
    · exact noneE e₂
  · exact noneE e₁
end
end Mine
end
section
open PySem PySem.W PyProof.Rows PySem.Calls Builtin Builtin.Str
namespace Mine
section
variable {prog : Program} {w : World} {A : Around} {E : Value → Shared → Prop} {s : Shared} {KK : Frag} {x c f : Addr} {ox : Obj} {od : Option Obj}
theorem len_sub {Q : Value → Shared → Prop} (X : KK.In s.heap) (I : InstAt s.heap x ox c od) (hs : findIn KK (.ref c) "__len__" = some (some (.ref f))) (hf : typeIn KK (.ref f) = some (.type "function"))
    (h : wpAny (model prog w) A.in1 (call (.ref f) [.ref x]) (fun v s' => ∃ n t, v = .int n t ∧ 0 ≤ n ∧ n < 2 ^ 63 ∧ ∀ u k, s'.toks < k → Q (.int n u) { s' with toks := k }) E s) : wpAny (model prog w) A (call (.builtin "len") [.ref x]) Q E s := by
  refine call_function_entry kind_len plain_len entry_len (args_len1 _) ?_
  unfold Builtin.«len»
  refine wpAny_bind (m := oneArg "len" _) (wpAny_pure ?_)
  refine wpAny_bind (special_fn X I hs hf (wpAny_mono h (fun v s' h' => ?_) fun _ _ e => e))
  obtain ⟨n, t, rfl, h0, h1, hq⟩ := h'
  refine wpAny_bind (wpAny_holding (wpAny_pure ?_))
  refine wpAny_bind (wpAny_letGo ?_)
  show wpAny _ _ (if n < 0 then _ else _) _ _ _
  rw [if_neg (by omega)]
  show wpAny _ _ (if n ≥ 2 ^ 63 then _ else _) _ _ _
  rw [if_neg (by omega)]
  exact wpAny_bind (wpAny_mkInt (wpAny_pure ⟨_, rfl, hq _ _ (Nat.lt_succ_self _)⟩))
theorem str_sub {Q : Value → Shared → Prop} (X : KK.In s.heap) (I : InstAt s.heap x ox c od) (hs : findIn KK (.ref c) "__str__" = some (some (.ref f))) (hf : typeIn KK (.ref f) = some (.type "function")) (hu : A.units + 2 < cLine)
    (h : wpAny (model prog w) A.in1.in1 (call (.ref f) [.ref x]) (fun v s' => ∃ y t, v = .str y t ∧ Q v s') E s) : wpAny (model prog w) A (call (.type "str") [.ref x]) Q E s := by
  have ft := F.called_str
  obtain ⟨cc, tl, hmro⟩ := ft.mro
  have hmade := ft.made
  have hsub := ft.sub
  have hct := F.typeCall_str_1 (.ref x)
  refine wpAny_call (codeAny_of_tree ?_)
  show wpAny _ _ (callAny (.type "str") _) _ _ _
  refine wpAny_pure ⟨Code.quiet_builtin _ (by decide +kernel), codeAny_builtin F.entry_type_call ?_⟩
  rw [Around.under_plain (weight_type_call_type "str" [.ref x] []) (units_type_call_type "str" [.ref x] [])]
  have h1 := ft.notType
  have h2 := ft.canCreate
  repeat (any_goals (first | assumption | wp_step))
  refine codeAny_mono (R := fun r s' => match r with | .ok (.ret v) => ∃ y t, v = .str y t ∧ Q v s' | .ok _ => False | .error e => E e s') (codeAny_call_builtin ft.plain F.entry_str_new (wpAny_of_eq (F.newCall_str_1 _) ?_)) fun r s₁ hr => ?_
  · rw [str_new_tree]
    refine wpAny_bind (wpAny_pure ?_)
    refine wpAny_bind (wpAny_of_eq isSubtype_str_str ?_)
    refine wpAny_bind (m := Builtin.Str.strOf (Value.ref x)) ?_
    unfold Builtin.Str.strOf
    rw [show isExactStr (Value.ref x) = false from rfl]
    simp only [Bool.false_eq_true, if_false]
    refine wpAny_bind (wpAny_cRoomFor hu ?_)
    refine wpAny_bind (special_fn X I hs hf (wpAny_mono h (fun v s' h' => ?_) fun _ _ e => e))
    obtain ⟨y, t, rfl, hq⟩ := h'
    exact wpAny_pure (wpAny_pure ⟨y, t, rfl, hq⟩)
  · cases r with
    | error e => exact hr
    | ok fl =>
      induction fl with
      | ret obj =>
        obtain ⟨y, t, rfl, hq⟩ := hr
        have hT := typeIs_str s₁ y t
        refine wpAny_bind (wpAny_isInstance (T := "str") (b := true) hT isSubtype_str_str ?_)
        rw [if_neg (by decide)]
        refine wpAny_bind (wpAny_holding (wpAny_callSpecial?_slot (name := Str.ofString "__init__") hT ft.init (wpAny_call ?_)))
        refine codeAny_mono (R := fun r₂ s₂ => r₂ = .ok (.ret .none) ∧ s₂ = s₁) (codeAny_call_builtin ft.init.plain F.entry_object_init (ft.init.check _ _ _ _ _ _ _ _ hT (F.args_object_init_2 _ _) (object_init_meets (T := "str") (self := .str y t) (rest := [.ref x]) ft.init.lookup ft.made (by decide) prog w A.in1 (fun r s₂ => r = .ok (.ret .none) ∧ s₂ = s₁) s₁ ⟨hT, rfl, rfl⟩))) fun r₂ s₂ hr₂ => ?_
        obtain ⟨rfl, rfl⟩ := hr₂
        show wpAny _ _ (if (Value.none != Value.none) = true then _ else _) _ _ _
        rw [if_neg (by decide)]
        exact wpAny_pure hq
      | _ => exact hr.elim
end
end Mine
end
section
open PySem PySem.W PyProof.Rows PySem.Calls Builtin Builtin.ObjectAttr
set_option maxHeartbeats 4000000
namespace Mine
theorem ln_kind : builtinKind "list.__new__" = some .builtinFn := by decide +kernel
theorem ln_split : splitId "list.__new__" = some ("list", "__new__") := by decide +kernel
theorem ln_args (a b : Value) : argsOk "list.__new__" ⟨[a, b], []⟩ := by unfold argsOk; kernel_rfl
noncomputable def makesL (K : Frag) (C : Addr) : Bool := match K.lookup C with
  | some ⟨_, _, .cls cd, sl⟩ => !cd.abstract && !cd.hasDel && (sl.toList[4]?).join == some (.builtin "list.__new__") && !cd.mro.isEmpty && cd.mro.contains (.ref C) && cd.mro.contains (.type "list") &&
      specialIn K (.ref C) "__call__" == some (some (.builtin "type.__call__")) && instIn K (.ref C) (.type "type") == some true
  | _ => false
structure MakesL (M : Model) (h : Heap) (C : Addr) : Prop where
  obj : ∃ oc od cd sl, h.get? C = some ⟨oc, od, .cls cd, sl⟩ ∧ cd.abstract = false ∧ cd.hasDel = false ∧ cd.mro.isEmpty = false
  made : Looks M h (Bind.madeBy (.ref C)) (some "list.__new__")
  base : Looks M h (Bind.staticBase (.ref C)) (.ref C)
  self : Looks M h (isSubtype (.ref C) (.ref C)) true
  top : Looks M h (isSubtype (.ref C) (.type "list")) true
  call : Looks M h (specialOf (.ref C) "__call__") (some (.builtin "type.__call__"))
  typ : Looks M h (isInstance (.ref C) (.type "type")) true
theorem makesL_of {K : Frag} {M : Model} {h : Heap} (X : K.In h) {C : Addr} (e : makesL K C = true) : MakesL M h C := by
  unfold makesL at e
  split at e
  · rename_i oc od cd sl ho
    simp only [Bool.and_eq_true, Bool.not_eq_true', beq_iff_eq] at e
    obtain ⟨⟨⟨⟨⟨⟨⟨e1, e2⟩, e3⟩, e4⟩, e5⟩, e6⟩, e7⟩, e8⟩ := e
    have hc : clsIn K C = some cd := by unfold clsIn; rw [ho]
    have hm : Looks M h (mroOf (.ref C)) cd.mro := (looks_clsIn X hc).andThen .now
    obtain ⟨c, l, hl⟩ : ∃ c l, cd.mro = c :: l := by cases q : cd.mro with | nil => rw [q] at e4; cases e4 | cons c l => exact ⟨c, l, rfl⟩
    have made : Looks M h (Bind.madeBy (.ref C)) (some "list.__new__") := by
      intro A Q E s k q
      unfold Bind.madeBy
      refine wpAny_bind (hm A _ E s k ?_)
      rw [hl, List.forIn_cons]
      refine wpAny_bind (wpAny_bind (wpAny_bind (wpAny_bind (wpAny_loadPart (k _ _ (X _ _ ho)) (wpAny_pure ?_)))))
      dsimp only
      rw [← Array.getElem?_toList, e3]
      exact wpAny_pure (wpAny_pure (wpAny_pure q))
    refine ⟨⟨oc, od, cd, sl, X _ _ ho, e1, e2, e4⟩, made, ?_, looks_mroIn X ?_, looks_mroIn X ?_, looks_specialIn X e7, looks_instIn X e8⟩
    · intro A Q E s k q
      unfold Bind.staticBase
      refine wpAny_bind (hm A _ E s k ?_)
      rw [hl, List.forIn_cons]
      exact wpAny_bind (wpAny_bind (wpAny_bind (made A _ E s k (wpAny_pure (wpAny_pure (wpAny_pure q))))))
    · unfold mroIn; rw [hc, Option.bind_some, if_neg (by rw [e4]; decide), e5]
    · unfold mroIn; rw [hc, Option.bind_some, if_neg (by rw [e4]; decide), e6]
  · cases e
noncomputable abbrev newAcc (C dx : Addr) : Obj := { cls := .ref C, dict := some dx, data := .seq #[] }
section
variable {prog : Program} {w : World} {A : Around} {K : Frag} {C : Addr} {R : Result → Shared → Prop} {h : Heap} {g : Array GenState} {d : Drawn} {t : Nat} {os : OsState}
theorem new_L {a : Value} (Y : MakesL (model prog w) h C) (hq : R (.ok (.ret (.ref (h.objs.size + 1)))) ⟨(h.push emptyDict).push (newAcc C h.objs.size), g, d, t, os⟩) :
    codeAny (model prog w) A (.call (.builtin "list.__new__") ⟨[.ref C, a], []⟩) R ⟨h, g, d, t, os⟩ := by
  obtain ⟨⟨oc, od, cd, sl, hC, e1, e2, e4⟩, made, base, self, top, call, typ⟩ := Y
  refine codeAny_call_builtin_code (plainId_quiet F.plain_list_new _) ?_
  have ha := ln_args (.ref C) a
  simp only [checkBuiltinCall, ln_kind, ln_split]
  have hi : Looks (model prog w) h (isType (.ref C)) true := (Looks.ld hC).andThen .now
  have hbody : codeAny (model prog w) A (.builtin "list.__new__" ⟨[.ref C, a], []⟩) R ⟨h, g, d, t, os⟩ := by
    refine codeAny_builtin_stack F.entry_list_new rfl fun p st => ?_
    rw [Around.under_plainId F.plain_list_new _]
    have hown := owner_list_new
    simp only [hown]
    refine wpAny_bind (hi.at ?_)
    rw [if_neg (by decide)]
    refine wpAny_bind (top.at ?_)
    rw [if_neg (by decide)]
    refine wpAny_bind (wpAny_pure ?_)
    rw [show typeHasDict (.ref C) = true from rfl, if_neg (by decide)]
    refine wpAny_bind (m := newDict) (wpAny_newObj_type ?_)
    refine wpAny_bind (m := newObj (.ref C) (.seq #[]) (some h.objs.size)) ?_
    show wpAny _ _ (newObjAsIs _ _ _) _ _ _
    unfold newObjAsIs classHasDel
    refine wpAny_bind (wpAny_alloc (wpAny_bind (wpAny_bind (wpAny_load (Heap.get?_push_of_some _ (Heap.get?_push_of_some _ hC)) (wpAny_pure ?_)))))
    rw [e2]
    refine wpAny_pure (wpAny_pure ?_)
    show R _ _
    rw [Heap.size_push]
    exact hq
  refine wpAny_bind (hi.at ?_)
  rw [if_neg (by decide)]
  refine wpAny_bind (top.at ?_)
  rw [if_neg (by decide)]
  refine wpAny_bind (base.at (wpAny_bind (made.at ?_)))
  dsimp only
  rw [if_neg (by simp)]
  cases hsig : Manifest.signature? "list.__new__" with
  | none => exact wpAny_pure hbody
  | some sig =>
    simp only [argsOk, hsig] at ha
    have h2 : Bind.checkArgs "list.__new__" sig ⟨[.ref C, a], []⟩ = pure () := ha
    show wpAny _ _ (Bind.checkArgs "list.__new__" sig ⟨[.ref C, a], []⟩) _ _ _
    rw [h2]; exact wpAny_pure hbody
end
end Mine
end
section
open PySem PySem.W PyProof.Rows PySem.Calls Builtin Builtin.ObjectAttr
set_option maxHeartbeats 4000000
namespace Mine
section
variable {prog : Program} {w : World} {A : Around} {E : Value → Shared → Prop} {s : Shared} {K : Frag} {C x dx : Addr} {ox od od' : Obj}
theorem refuse_list (self : Value) (C : Addr) : refuseLoop self "__setattr__" [.ref C, .type "list", .type "object"] = pure () := by
  rw [refuseLoop_ref]
  kernel_rfl
theorem set_sub {name : Str} {v : Value} {cd : ClassData} {es : List DictEntry} {n : Nat} {Q : Unit → Shared → Prop} (X : K.In s.heap) (I : InstAt s.heap x ox C (some od)) (hd : ox.dict = some dx) (hc : clsIn K C = some cd) (hmro : cd.mro = [.ref C, .type "list", .type "object"]) (hh : cd.hasDict = true)
    (hs : findIn K (.ref C) "__setattr__" = some (some (.builtin "object.__setattr__"))) (ht : findIn K (.ref C) name = some none) (hl : (lookIn name od).isSome = true)
    (e : Obj.putName name (PyData.keyHash w.params name) (.str name (s.toks + 1)) v od = od') (e' : od'.data = .dict es.toArray n) (hz : es.length ≤ 1000)
    (h : ∀ h', Heap.SameBut dx s.heap h' → h'.get? dx = some od' → Q () { s with heap := h', toks := s.toks + 2 }) : wpAny (model prog w) A (setAttr (.ref x) name v) Q E s := by
  refine set_plain X I hs ?_
  have SF := PySem.F.store_object
  have ne : cd.mro.isEmpty = false := by rw [hmro]; rfl
  have sub : Looks (model prog w) s.heap (isInstance (.ref x) (.type "object")) true := I.type.andThen (looks_mroIn X (by unfold mroIn; rw [hc, Option.bind_some, if_neg (by rw [ne]; decide), hmro]; simp))
  refine codeAny_call_builtin SF.slot.plain SF.entry (@check_slot (model prog w) _ _ { s with toks := s.toks + 1 } "object.__setattr__" "object" "__setattr__" (.ref x) [.str name s.toks, v] [] _ SF.kind SF.split sub (SF.args (.ref x) (.str name s.toks) v) ?_)
  have hm : Looks (model prog w) s.heap (mroOf (.ref C)) cd.mro := (looks_clsIn X hc).andThen .now
  rw [osa_eq, refuse_eq]
  refine wpAny_bind (wpAny_bind (I.type.here (s := { s with toks := s.toks + 1 }) (wpAny_bind (hm.here (s := { s with toks := s.toks + 1 }) ?_))))
  rw [hmro, refuse_list]
  refine wpAny_pure (wpAny_bind (I.type.here (s := { s with toks := s.toks + 1 }) (wpAny_bind ((looks_findIn X ht).here (s := { s with toks := s.toks + 1 }) (wpAny_bind (wpAny_pure ?_))))))
  obtain ⟨hx, hcl, hn, hD⟩ := I
  obtain ⟨oc, odi, oda, osl⟩ := ox
  dsimp only at hcl hd hD
  subst hcl hd
  refine wpAny_bind (wpAny_pure (wpAny_bind (wpAny_bind (wpAny_loadPart hx (wpAny_bind ((looks_clsIn X hc).here (s := { s with toks := s.toks + 1 }) ?_))))))
  rw [hh]
  refine wpAny_pure (a := some dx) (wpAny_bind (wpAny_pure (wpAny_bind ?_)))
  unfold nsSet
  refine wpAny_bind (wpAny_bind (wpAny_askSetting (wpAny_pure (wpAny_bind (wpAny_mkText (wpAny_bind (wpAny_loadPart hD ?_)))))))
  have hs' : Heap.SameBut dx s.heap (s.heap.update dx (Obj.putName name (PyData.keyHash w.params name) (.str name (s.toks + 1)) v)) := Heap.SameBut.update ..
  have hg' : (s.heap.update dx (Obj.putName name (PyData.keyHash w.params name) (.str name (s.toks + 1)) v)).get? dx = some od' := by
    rw [Heap.get?_update_self _ hD (by rw [e]; obtain ⟨_, _, dd, _⟩ := od'; cases e'; rfl), e]
  unfold lookIn at hl
  split at hl
  · rename_i es₀ n₀ q
    rw [q]
    dsimp only
    have c : (!es₀.any (·.key.isStr name) && es₀.any (·.refKey)) = false := by
      rw [← Array.any_toList, ← Array.any_toList]
      split at hl
      · rename_i en he
        rw [List.any_eq_true.mpr ⟨en, List.mem_of_find?_eq_some he, List.find?_some he⟩]; rfl
      · split at hl
        · cases hl
        · rename_i z; rw [Bool.not_eq_true] at z; rw [z, Bool.and_false]
    rw [aRefKeyMayBeTheName_at, c]
    refine wpAny_updatePart hD ?_
    refine wpAny_bind (wpAny_lookBehind hg' (by rw [e']; exact pastItsLine_dict (by rw [List.size_toArray, sizeLine_eq]; omega)) ?_)
    exact wpAny_pure (h _ hs' hg')
  · cases hl
end
end Mine
end
section
open PySem PySem.W PyProof.Rows PySem.Calls Builtin
set_option maxHeartbeats 4000000
namespace Mine
noncomputable def chkI (n : Str) (x : Addr) : Sem Unit := do
  if !(← isInstance (.ref x) (.type "list")) then
    rule "descr.get.wrong-instance"
    raiseError "TypeError" s!"descriptor '{n.toString}' for '{← typeName (.type "list")}' objects doesn't apply to a '{← typeNameOf (.ref x)}' object"
theorem wget_eq (x C : Addr) : Builtin.«wrapper_descriptor.__get__» ⟨[.builtin "list.__init__", .ref x, .ref C], []⟩ = (chkI "__init__" x >>= fun _ => newFields "method-wrapper" [.builtin "list.__init__", .ref x] >>= fun v => ret v) := by kernel_rfl
theorem chkI_ok {M : Model} {h : Heap} {n : Str} {x : Addr} (L : Looks M h (isInstance (.ref x) (.type "list")) true) : Looks M h (chkI n x) () := L.andThen (by
  rw [if_neg (by decide)]
  exact .now)
theorem li_type : typeOf (.builtin "list.__init__") = pure (.type "wrapper_descriptor") := by show builtinType _ = _; rw [builtinType_eq_fast]; kernel_rfl
theorem wd_slot : Slot "wrapper_descriptor" "__get__" "wrapper_descriptor.__get__" :=
  .of (owner := "wrapper_descriptor") (n := "__get__") (by rw [typeLookup_type, builtinLookup_eq_fast]; kernel_rfl) (by decide +kernel) (by decide +kernel) (by decide +kernel)
    (by first | exact .inl (by decide +kernel) | exact .inr (by decide +kernel)) (by rw [isSubtype_type]; kernel_rfl)
theorem wd_entry : entryFor table "wrapper_descriptor.__get__" = some Builtin.«wrapper_descriptor.__get__» := entryFor_of_tree (by kernel_rfl)
theorem wd_args (a b c : Value) : argsOk "wrapper_descriptor.__get__" ⟨[a, b, c], []⟩ := by unfold argsOk; kernel_rfl
section
variable {prog : Program} {w : World} {A : Around} {E : Value → Shared → Prop} {h : Heap} {g : Array GenState} {d : Drawn} {t : Nat} {os : OsState}
theorem super_ga {so D x C : Addr} {id gid T B : String} {Gb : Builtin} {chk : Sem Unit} {l₀ l : List Value} {K : Frag} {name : Str} {tk : Tok} {Q : PySem.Fin → Shared → Prop}
    (hso : h.get? so = some { cls := .type "super", dict := none, data := .fields #[.ref D, .ref x, .ref C], slots := #[] }) (hno : Looks (model prog w) h (opaqueClassAbove (.ref C)) none)
    (hC : Looks (model prog w) h (mroOf (.ref C)) l₀) (hl : (l₀.dropWhile (· != .ref D)).drop 1 = l) (X : K.In h)
    (hf : alongIn K name l = some (some (.builtin id))) (hty : typeOf (.builtin id) = pure (.type T)) (slotG : Slot T "__get__" gid) (entryG : entryFor table gid = some Gb) (argsG : argsOk gid ⟨[.builtin id, .ref x, .ref C], []⟩)
    (hG : Gb ⟨[.builtin id, .ref x, .ref C], []⟩ = (chk >>= fun _ => newFields B [.builtin id, .ref x] >>= fun v => ret v)) (hchk : Looks (model prog w) h chk ())
    (hxC : x ≠ C) (hn : (name == ("__class__" : Str)) = false)
    (hq : Q (.done (.ret (.ref h.objs.size))) ⟨h.push { cls := .type B, data := .fields #[.builtin id, .ref x] }, g, d, t, os⟩) :
    wpAny (model prog w) A (Builtin.«super.__getattribute__» ⟨[.ref so, .str name tk], []⟩) Q E ⟨h, g, d, t, os⟩ := by
  have hlk := slotG.lookup
  have hne : (Value.ref x == Value.ref C) = false := by simp [hxC]
  have hTf : (⟨h, g, d, t, os⟩ : Shared).TypeIs (.builtin id) T := hty
  have hdt : ({ cls := .type "super", dict := none, data := .fields #[.ref D, .ref x, .ref C], slots := #[] } : Obj).data = .fields #[.ref D, .ref x, .ref C] := rfl
  have f0 : (#[.ref D, .ref x, .ref C] : Array Value)[0]? = some (.ref D) := rfl
  have f1 : (#[.ref D, .ref x, .ref C] : Array Value)[1]? = some (.ref x) := rfl
  have f2 : (#[.ref D, .ref x, .ref C] : Array Value)[2]? = some (.ref C) := rfl
  have hcall : ∀ {Q' : Value → Shared → Prop} {E' : Value → Shared → Prop}, Q' (.ref h.objs.size) ⟨h.push { cls := .type B, data := .fields #[.builtin id, .ref x] }, g, d, t, os⟩ → wpAny (model prog w) A (call (.builtin gid) [.builtin id, .ref x, .ref C]) Q' E' ⟨h, g, d, t, os⟩ := by
    intro Q' E' hq'
    refine wpAny_call_entry slotG hTf entryG ?_ argsG
    rw [hG]
    exact wpAny_bind (hchk.at (wpAny_bind (wpAny_newObj_type (wpAny_pure ⟨_, rfl, hq'⟩))))
  unfold Builtin.«super.__getattribute__»
  repeat (first
    | (with_reducible refine wpAny_field hso hdt f0 ?_) | (with_reducible refine wpAny_field hso hdt f1 ?_) | (with_reducible refine wpAny_field hso hdt f2 ?_)
    | (with_reducible refine ks_wpAny_notOpaque hno ?_)
    | (with_reducible refine Looks.at hC ?_; rw [hl])
    | (refine ks_forIn_along X (fun _ _ => rfl) rfl ?_ hf)
    | (with_reducible refine wpAny_typeOf hTf ?_)
    | (with_reducible refine hcall ?_)
    | (simp only [hn, hne, Bool.or_false, Bool.false_eq_true, if_false])
    | wp_step
    | dsimp only)
  all_goals exact hq
end
section
variable {prog : Program} {w : World} {A : Around} {E : Value → Shared → Prop} {h : Heap} {g : Array GenState} {d : Drawn} {t : Nat} {os : OsState}
theorem super_method {so D x C : Addr} {id gid T B : String} {Gb : Builtin} {chk : Sem Unit} {l₀ l : List Value} {K : Frag} {name : Str} {pl : Sem Bool} {Q : Value × List Value → Shared → Prop}
    (hso : h.get? so = some { cls := .type "super", dict := none, data := .fields #[.ref D, .ref x, .ref C], slots := #[] }) (hno : Looks (model prog w) h (opaqueClassAbove (.ref C)) none)
    (hC : Looks (model prog w) h (mroOf (.ref C)) l₀) (hl : (l₀.dropWhile (· != .ref D)).drop 1 = l) (X : K.In h)
    (hf : alongIn K name l = some (some (.builtin id))) (hty : typeOf (.builtin id) = pure (.type T)) (slotG : Slot T "__get__" gid) (entryG : entryFor table gid = some Gb) (argsG : argsOk gid ⟨[.builtin id, .ref x, .ref C], []⟩)
    (hG : Gb ⟨[.builtin id, .ref x, .ref C], []⟩ = (chk >>= fun _ => newFields B [.builtin id, .ref x] >>= fun v => ret v)) (hchk : Looks (model prog w) h chk ())
    (hxC : x ≠ C) (hn : (name == ("__class__" : Str)) = false)
    (hq : Q (.ref h.objs.size, []) ⟨h.push { cls := .type B, data := .fields #[.builtin id, .ref x] }, g, d, t + 1, os⟩) :
    wpAny (model prog w) A (getMethod (.ref so) name pl) Q E ⟨h, g, d, t, os⟩ := by
  have hlk := F.ks_slot_super_ga.lookup
  have hT : ∀ t', (⟨h, g, d, t', os⟩ : Shared).TypeIs (.ref so) "super" := fun _ => ⟨_, hso, rfl⟩
  unfold getMethod
  refine wpAny_bind (wpAny_specialOf (hT _) hlk ?_)
  show wpAny _ _ (if (Manifest.canonical "super.__getattribute__" != "object.__getattribute__") = true then _ else _) _ _ _
  rw [if_pos F.ks_canon_super_ga]
  unfold getAttr getAttrBy
  refine wpAny_bind (wpAny_bind (wpAny_mkText (wpAny_holding (wpAny_bind (wpAny_typeOf (hT _) (wpAny_bind (wpAny_of_eq hlk ?_)))))))
  show wpAny _ _ (getAttrByItsOwn (.ref so) (.str name t) (.type "super") (.builtin "super.__getattribute__") true false) _ _ _
  unfold getAttrByItsOwn hookBefore callGetattribute boundAndCalled
  refine wpAny_bind (wpAny_of_eq (show (if onTheHeap (.type "super") then typeLookup (.type "super") "__getattr__" else pure none) = pure none from rfl) ?_)
  refine wpAny_bind (wpAny_attempt (wpAny_holding ?_))
  refine wpAny_bind (m := bindSpecial (.builtin "super.__getattribute__") (.ref so)) (wpAny_of_eq (F.ks_slot_super_ga.bind _) ?_)
  refine wpAny_call_entry F.ks_slot_super_ga (hT _) F.ks_entry_super_ga (super_ga (l₀ := l₀) hso hno hC hl X hf hty slotG entryG argsG hG hchk hxC hn ⟨_, rfl, ?_⟩) (F.ks_gaArgs_super _ _)
  exact wpAny_pure (wpAny_pure hq)
theorem call_bound {b : Addr} {id B : String} {x : Value} {Bi : Builtin} {rest : List Value} {s : Shared} {Q : Value → Shared → Prop} (hb : s.heap.get? b = some { cls := .type B, dict := none, data := .fields #[.builtin id, x], slots := #[] })
    (hB : (Value.type B == .type "method" || Value.type B == .type "builtin_function_or_method" || Value.type B == .type "method-wrapper") = true) (hB2 : (Value.type B != .type "method") = true) (hp : plainId id = true)
    (hchk : ∀ {Q' : Unit → Shared → Prop} {E' : Value → Shared → Prop} {A' : Around}, Q' () s → wpAny (model prog w) A' (checkBoundCall id ⟨x :: rest, []⟩) Q' E' s) (he : entryFor table id = some Bi)
    (h : wpAny (model prog w) A.in1 (Bi ⟨x :: rest, []⟩) (fun fin s' => ∃ v, fin = .done (.ret v) ∧ Q v s') E s) : wpAny (model prog w) A (call (.ref b) rest) Q E s := by
  refine wpAny_call (codeAny_of_tree ?_)
  show wpAny _ A.in1 (callAny (.ref b) _) _ _ _
  unfold callAny
  refine wpAny_bind (wpAny_load hb ?_)
  dsimp only
  rw [if_pos hB]
  show wpAny _ A.in1 (if (Value.type B != .type "method") = true then (checkBoundCall id ⟨x :: rest, []⟩ >>= fun _ => again (.builtin id ⟨x :: rest, []⟩)) else _) _ _ _
  rw [if_pos hB2]
  refine wpAny_bind (hchk (wpAny_pure ⟨plainId_quiet hp _, codeAny_builtin he ?_⟩))
  rw [Around.under_plainId hp _]
  exact wpAny_mono h (fun fin s' h' => by obtain ⟨v, rfl, hv⟩ := h'; exact hv) fun _ _ e => e
end
end Mine
end
section
open PySem PySem.W PyProof.Rows PySem.Calls Builtin
set_option maxHeartbeats 4000000
namespace Mine
theorem code_fnAt {G : Gd} {C : Cx} {d : FnD} (K : COk1 G C) (D : FnOk G d) (hlv : 0 < C.lv) {W : Wd} {σ : PS} {X : Led} {s : Shared} {vs : List PV} {xs : List Value} {Q : Value → Shared → Prop} {E : Value → Shared → Prop} (hlen : vs.length = d.pn.length) (R : Rel C W σ X s) (rs : VRels W vs xs)
    (hb : ∀ cs L g s₁, COk1 G (cxF C d L g) → Rel (cxF C d L g) W ⟨vs.map some ++ d.rn.map fun _ => none, σ.mem⟩ (cs ++ X) s₁ → ∀ E', _root_.PySem.wpAt (model G.p G.w) (cxF C d L g).A (.func d.body (d.env L)) (execs d.body (d.env L)) (fun fl s' => ∃ W' σ₁ X' v y, W.le W' ∧ Rel (cxF C d L g) W' σ₁ (cs ++ X') s' ∧ VRel W' v y ∧ (fl = .ret y ∨ (fl = .next ∧ y = .none)) ∧
      ∀ s'', Rel C W' ⟨σ.vars, σ₁.mem⟩ X' s'' → Q y s'') E' s₁) :
    codeAny (model G.p G.w) C.A (.call (.ref d.f) ⟨xs, []⟩) (fun r s' => match r with | .ok (.ret v) => Q v s' | .ok _ => False | .error e => E e s') s := by
  refine Rel.exE R fun m cs ms FF N nd sr mr mu => ?_
  obtain ⟨fo, hfo, hd, hcode⟩ := K.gd.fn d D.obj
  obtain ⟨FG, BG, st, lv⟩ := groundX (R := fun r s' => match r with | .ok (.ret v) => Q v s' | .ok _ => False | .error e => E e s') K.below FF N K.frames K.frame K.kind
  refine ks_codeAny_call_defAt (fd := d.fd) (body := d.body) (binds := d.pn.zip xs) (by have := K.room; omega) (FF.keep _ _ hfo) hd (K.gd.nolimit.keeps FF.keep) (hcode.keeps FF.keep) rfl
    (D.bind s xs (K.gd.frag.keeps FF.keep) (by rw [← rs.length]; exact hlen)) D.nocell (fun y hy => ?_) (fun h₁ hns hk₁ => ?_) D.co D.gen D.kind
  · have := (List.of_mem_zip (a := y.1) (b := y.2) hy).1
    exact D.kinds _ (List.mem_append_left _ this)
  · generalize hg : hideAll s.heap ((cs ++ (ms ++ (W.T ++ X))).map (·.1)) = g at FG BG st lv
    have F' : Fr g s.heap.objs.size h₁ (fun x => (d.pn.zip xs).reverse.lookup x) := ⟨hns, fun b o e => hk₁ b o (of_hideAll _ (hg ▸ e)), by rw [← hg]; exact Nat.le_of_eq (hideAll_size _ _)⟩
    have N' : News g s.heap.objs.size h₁ (cs ++ (ms ++ (W.T ++ X))) := fun p hp => ⟨hk₁ _ _ (N p hp).1, Nat.ne_of_lt (Heap.lt_size (N p hp).1), by rw [← hg]; exact hideAll_none _ (List.mem_map_of_mem hp)⟩
    have KF : COk1 G (cxF C d s.heap.objs.size g) := cxF_ok K D BG st hlv
    have hp : ([] ++ (ms ++ (W.T ++ (cs ++ X)))).Perm (cs ++ (ms ++ (W.T ++ X))) := by
      rw [List.nil_append]
      refine (List.perm_append_comm_assoc ms W.T (cs ++ X)).trans ?_
      refine (List.Perm.append_left _ (List.perm_append_comm_assoc ms cs X)).trans ?_
      refine (List.perm_append_comm_assoc W.T cs (ms ++ X)).trans ?_
      exact List.Perm.append_left _ (List.perm_append_comm_assoc W.T ms X)
    have RF : Rel (cxF C d s.heap.objs.size g) W ⟨vs.map some ++ d.rn.map fun _ => none, σ.mem⟩ (cs ++ X) { s with heap := h₁, toks := s.toks + (d.pn.zip xs).length } :=
      ⟨⟨_, [], ms, F', fun p hp' => N' p (hp.mem_iff.mp hp'), (hp.map _).nodup_iff.mpr nd, SRel.of hlen.symm rs fun x y hx => lookup_zip (List.Nodup.sublist (List.sublist_append_left _ _) D.nodup) hx, mr, mu⟩, R.bare, R.os, Nat.lt_of_lt_of_le R.tk (Nat.le_add_right _ _)⟩
    have back : ∀ W' σ₁ X' v y s', W.le W' → Rel (cxF C d s.heap.objs.size g) W' σ₁ (cs ++ X') s' → VRel W' v y → (∀ s'', Rel C W' ⟨σ.vars, σ₁.mem⟩ X' s'' → Q y s'') →
        LeaveK C.h₀ C.L m g (fun r s' => match r with | .ok (.ret v) => Q v s' | .ok _ => False | .error e => E e s') y s' := by
      intro W' σ₁ X' v y s' le R' ry hQ
      refine Rel.exE R' fun m' cs' ms' F₂ N₂ nd₂ sr₂ mr₂ mu₂ => ?_
      refine leaveK_ F₂ N₂ fun FC NC => ?_
      refine hQ s' ⟨⟨m, cs, ms', FC, ?_, ?_, sr.mono le, mr₂, mu₂⟩, R'.bare, R'.os, R'.tk⟩
      · intro p hp
        refine NC p ?_
        simp only [List.mem_append] at hp ⊢
        rcases hp with h | h | h | h
        · exact .inr (.inr (.inr (.inl h)))
        · exact .inr (.inl h)
        · exact .inr (.inr (.inl h))
        · exact .inr (.inr (.inr (.inr h)))
      · have nd₃ : ((ms' ++ (W'.T ++ (cs ++ X'))).map (·.1)).Nodup := by
          rw [List.map_append] at nd₂
          exact (List.nodup_append.mp nd₂).2.1
        refine (List.Perm.map _ ?_).nodup_iff.mp nd₃
        refine (List.perm_append_comm_assoc ms' W'.T (cs ++ X')).trans ?_
        refine (List.Perm.append_left _ (List.perm_append_comm_assoc ms' cs X')).trans ?_
        refine (List.perm_append_comm_assoc W'.T cs (ms' ++ X')).trans ?_
        exact List.Perm.append_left _ (List.perm_append_comm_assoc W'.T ms' X')
    refine ks_wpAt_mono (hb cs s.heap.objs.size g _ KF RF _) (fun fl s' h' => ?_) fun _ _ e => e
    obtain ⟨W', σ₁, X', v, y, le, R', ry, hfl, hQ⟩ := h'
    rcases hfl with rfl | ⟨rfl, rfl⟩
    · exact lv _ _ (back W' σ₁ X' v y s' le R' ry hQ)
    · exact lv _ _ (back W' σ₁ X' v .none s' le R' ry hQ)
theorem keepsP {M : Model} {q : Addr} {id B : String} {x : Value} (hB : (Value.type B == .type "builtin_function_or_method" || Value.type B == .type "method-wrapper") = true) (hB2 : (Value.type B != .type "method") = true) (h : Heap)
    (X : h.get? q = some { cls := .type B, dict := none, data := .fields #[.builtin id, x], slots := #[] }) : ∃ k, (k = Keeper.frame ∨ k = Keeper.machine ∨ k = Keeper.boundFrame) ∧ Looks M h (keeperOf (.ref q)) k := by
  refine ⟨.machine, .inr (.inl rfl), (Looks.ld (part := none) X).andThen ?_⟩
  dsimp only
  rw [if_pos hB2, if_pos hB]
  exact .now
theorem li_kind : builtinKind "list.__init__" = some .slot := by decide +kernel
theorem li_chk {prog : Program} {w : World} {A : Around} {E : Value → Shared → Prop} {s : Shared} {x : Value} {Q : Unit → Shared → Prop} (q : Q () s) : wpAny (model prog w) A (checkBoundCall "list.__init__" ⟨[x], []⟩) Q E s := by
  have ha : argsOk "list.__init__" ⟨[x], []⟩ := by unfold argsOk; kernel_rfl
  unfold checkBoundCall
  cases hsig : Manifest.signature? "list.__init__" with
  | none => exact wpAny_pure q
  | some sig =>
    simp only [argsOk, hsig] at ha
    rw [li_kind]
    dsimp only
    rw [if_pos (by decide)]
    have h2 : Bind.checkArgs "list.__init__" sig ⟨[x], []⟩ = pure () := ha
    rw [h2]; exact wpAny_pure q
theorem li_run {prog : Program} {w : World} {A : Around} {E : Value → Shared → Prop} {s : Shared} {x dx c : Addr} {Q : PySem.Fin → Shared → Prop} (hx : s.heap.get? x = some (newAcc c dx))
    (h : ∀ h' e, Heap.SameBut x s.heap h' → h'.get? x = some (accO c dx [] e) → Q (.done (.ret .none)) { s with heap := h' }) : wpAny (model prog w) A (Builtin.«list.__init__» ⟨[.ref x], []⟩) Q E s := by
  show wpAny _ A (do let old ← Builtin.List.listItems (.ref x); Builtin.List.listUpdate (.ref x) (fun _ => #[]); letGo old.toList.reverse; ret .none) _ _ s
  refine wpAny_bind (m := Builtin.List.listItems (.ref x)) ?_
  unfold Builtin.List.listItems
  refine wpAny_bind (wpAny_seqItems hx rfl (wpAny_pure ?_))
  refine wpAny_bind (m := updateSeq x (fun _ => #[])) (wpAny_updateSeq hx rfl ?_)
  refine wpAny_bind (wpAny_letGo (wpAny_pure ?_))
  obtain ⟨e', hms⟩ := mapSeq_acc (c := c) (dx := dx) (vs := []) (e := 0) (f := fun _ => #[])
  refine h _ e' (Heap.SameBut.update ..) ?_
  have e1 : newAcc c dx = accO c dx [] 0 := rfl
  rw [Heap.get?_update_self _ hx (by rw [e1, hms]; rfl), e1, hms]
theorem Cl.fn {G : Gd} {C : Cx} {d : FnD} (K : COk1 G C) (D : FnOk G d) (hlv : 0 < C.lv) {F : PS → Option (Fl × PS)} (hb : ∀ L g, COk1 G (cxF C d L g) → Xs G (cxF C d L g) d.body F) : Cl G C (.ref d.f) (fcall d F) := by
  intro W σ X s vs xs r σ' Q E e R rs h
  unfold fcall at e
  split at e
  · rename_i hlen
    refine wpAny_call (code_fnAt K D hlv hlen R rs fun cs L' g s₁ KF RF E' => wpAt_of_wpAny ?_)
    split at e
    · rename_i v σ₁ hF
      induction e using someC
      refine hb L' g KF W _ (cs ++ X) _ _ σ₁ _ _ hF RF fun W' fl s' le R' fr => ?_
      cases fr with
      | ret _ y ry => exact ⟨W', σ₁, X, _, y, le, R', ry, .inl rfl, fun s'' R'' => h W' y s'' le R'' ry⟩
    · rename_i σ₁ hF
      induction e using someC
      refine hb L' g KF W _ (cs ++ X) _ _ σ₁ _ _ hF RF fun W' fl s' le R' fr => ?_
      cases fr with
      | next => exact ⟨W', σ₁, X, .none, .none, le, R', .none, .inr ⟨rfl, rfl⟩, fun s'' R'' => h W' .none s'' le R'' .none⟩
    · exact noneE e
  · exact noneE e
end Mine
end
section
open PySem PySem.W PyProof.Rows PySem.Calls Builtin
set_option maxHeartbeats 4000000
set_option genInjectivity false
set_option genSizeOfSpec false
namespace Mine
noncomputable def initBody (p1 p2 p3 p4 p5 p6 p7 p8 p9 : Pos) : List Stmt := [.Assign [.Attribute (.Name "self" p1) "_initial_size" p2] (.Name "initial_size" p3) p4, .Expr (.Call (.Attribute (.Call (.Name "super" p5) [] [] p6) "__init__" p7) [] [] p8) p9]
noncomputable def MForm (o : Expr) (name : Str) (apos pos : Pos) : Prop := ∃ pl : Sem Bool, ∀ env, eval (.Call (.Attribute o name apos) [] [] pos) env = (do
      let ov ← attributeBase o name env (eval o env)
      standAt apos.atName
      let (f, first) ← holding [ov] (getMethod ov name pl)
      callWith pos f first (backTo pos (starEach [] env)) [])
structure InitK (G : Gd) (d : FnD) (cc cda : Addr) : Prop where
  ok : FnOk G d
  body : ∃ p1 p2 p3 p4 p5 p6 p7 p8 p9, d.body = initBody p1 p2 p3 p4 p5 p6 p7 p8 p9 ∧ MForm (.Call (.Name "super" p5) [] [] p6) "__init__" p7 p8
  pn : d.pn = [("self" : Str), ("initial_size" : Str)]
  rn : d.rn = []
  cl : d.cl = [(("__class__" : Str), cc)]
  cell : ∃ cl cld csl, G.K.lookup cc = some ⟨cl, cld, .cell (some (.ref G.acc)), csl⟩
  cdv : d.cdv = .ref cda
  code : ∃ o vs file tf, G.K.lookup cda = some o ∧ o.data = .fields vs ∧ vs[2]? = some (.str file tf) ∧ (G.p.main.file == file) = true
  par : ∃ ar, (d.params.posonlyargs ++ d.params.args).head? = some ar ∧ ar.arg = "self"
  n1 : d.scope.names.lookup ("super" : Str) = some .globalImplicit
  n2 : d.scope.names.lookup ("__class__" : Str) = some .free
  top : (G.p.main.scope.names.lookup ("super" : Str)).isSome = false
  sup : nsIn G.K mainGlobals "super" = some none
  cls : ∃ cd, clsIn G.K G.acc = some cd ∧ cd.mro = [.ref G.acc, .type "list", .type "object"] ∧ cd.hasDict = true
  seta : findIn G.K (.ref G.acc) "__setattr__" = some (some (.builtin "object.__setattr__"))
  own : findIn G.K (.ref G.acc) "_initial_size" = some none
  along : alongIn G.K "__init__" [.type "list", .type "object"] = some (some (.builtin "list.__init__"))
  opq : nsIn G.K cStatics "thirdparty.any" = some none
theorem perm_two {α : Type} (cs : List α) (a b : α) (X : List α) : (cs ++ a :: b :: X).Perm (b :: a :: (cs ++ X)) :=
  (List.perm_middle.trans (List.Perm.cons a List.perm_middle)).trans (List.Perm.swap b a _)
theorem init_run {G : Gd} {C : Cx} {d : FnD} {cc cda : Addr} (K : COk1 G C) (AK : AccK G) (IK : InitK G d cc cda) (hlv : 0 < C.lv) {W : Wd} {σ : PS} {X : Led} {s : Shared} {x dx : Addr} {n : Int} {t : Tok} {R : Result → Shared → Prop}
    (Rl : Rel C W σ ((x, newAcc G.acc dx) :: (dx, emptyDict) :: X) s)
    (hR : ∀ s' t' u' e, Rel C W σ ((x, accO G.acc dx [] e) :: (dx, accD G.w.params n t' u') :: X) s' → R (.ok (.ret (.ref x))) s') :
    codeAny (model G.p G.w) C.A (.call (.ref d.f) ⟨[.ref x, .int n t], []⟩) (InitBack x R) s := by
  obtain ⟨p1, p2, p3, p4, p5, p6, p7, p8, p9, hbody, pl, hform⟩ := IK.body
  refine codeAny_mono (code_fnAt (Q := fun v s' => v = .none ∧ R (.ok (.ret (.ref x))) s') (E := fun e s' => R (.error e) s') K IK.ok hlv (vs := [.raw (.ref x), .int n]) (by rw [IK.pn]; rfl) Rl (.cons (.raw _) (.cons (.int n t) .nil)) fun cs L g s₁ KF R₁ E' => ?_) fun r s' h => ?_
  · rw [IK.rn] at R₁
    have hnm : (cxF C d L g).nm = [(("self" : Str), false), (("initial_size" : Str), false)] := by
      show d.nm = _
      unfold FnD.nm
      rw [IK.pn, IK.rn]; rfl
    have X₁ : G.K.In s₁.heap := KF.gd.frag.keeps fun _ _ => R₁.keep
    have R₂ := R₁.perm (perm_two cs (x, newAcc G.acc dx) (dx, emptyDict) X)
    have I₁ : InstAt s₁.heap x (newAcc G.acc dx) G.acc (some emptyDict) := ⟨R₂.getX (.tail _ (.head _)), rfl, rfl, R₂.getX (.head _)⟩
    obtain ⟨cd, hc, hmro, hhd⟩ := IK.cls
    have hint : interactive (d.env L) = false := by
      unfold interactive
      rw [show (d.env L).scope.kind = .function from KF.kind]; rfl
    rw [hbody]
    refine ks_wpAt_execs_cons (ks_wpAt_Assign_Attr (wpAt_of_wpAny (wpAny_Name (ld_var (i := 1) KF.toCOk (by rw [hnm]; rfl) R₂ rfl fun y ry => wpAny_Name (ld_var (i := 0) KF.toCOk (by rw [hnm]; rfl) R₂ rfl fun z rz => ?_) (by decide)) (by decide))))
    induction ry using VRel.intC with
    | int t₁ => induction rz using VRel.rawC with
      | raw =>
        refine set_sub X₁ I₁ rfl hc hmro hhd IK.seta IK.own rfl (od' := accD G.w.params n (s₁.toks + 1) t₁) rfl (es := [⟨PyData.keyHash G.w.params (Str.ofString "_initial_size"), .str (Str.ofString "_initial_size") (s₁.toks + 1), .int n t₁⟩]) rfl (by simp) fun h' hs hg => ?_
        have R₃ := (R₂.setX hs hg).toks (s₁.toks + 2)
        generalize hs₂ : ({ s₁ with heap := h', toks := s₁.toks + 2 } : Shared) = s₂ at R₃ ⊢
        have X₂ : G.K.In s₂.heap := KF.gd.frag.keeps fun _ _ => R₃.keep
        obtain ⟨hp, gg, dr, tk, os⟩ := s₂
        obtain ⟨fo, hfo, hfd, _⟩ := KF.gd.fn d IK.ok.obj
        obtain ⟨ar, har, harn⟩ := IK.par
        obtain ⟨oc, vs, file, tf, hoc, hvs, hv2, hfile⟩ := IK.code
        obtain ⟨ccl, cld, csl, hcell⟩ := IK.cell
        obtain ⟨oD, hD1, hD2⟩ : ∃ oD, hp.get? G.acc = some oD ∧ oD.data = .cls cd := by
          unfold clsIn at hc
          split at hc
          · rename_i c d' cd' sl ho
            induction hc using some1C
            exact ⟨_, X₂ _ _ ho, rfl⟩
          · exact noneE hc
        refine ks_wpAt_execs_cons (ks_wpAt_Expr_any (ks_wpAt_MethodCall (ks_wpAt_super_base (env := d.env L) IK.n1 IK.n2 (by decide) rfl (R₃.keep hfo) hfd har IK.cdv (X₂ _ _ hoc) hvs hv2 hfile IK.top ?_) (pl := pl) (hform _)) (hi := hint))
        refine ks_loadName_global KF.kind IK.n1 (loadGlobal_builtin (env := d.env L) (KF.gd.g.keeps fun _ _ => R₃.keep) (mg_none_of KF.gd.frag KF.gd.g IK.sup) (KF.gd.b.keeps fun _ _ => R₃.keep) ((KF.gd.bi _ (by decide)).trans (show bootBuiltins "super" = some (.type "super") by kernel_rfl)) ⟨rfl, ?_⟩)
        refine wpAny_loadName_free KF.kind IK.n2 (show d.cl.lookup _ = _ by rw [IK.cl]; rfl) ⟨_, X₂ _ _ hcell, rfl⟩ ?_
        rw [harn]
        refine ld_var (i := 0) KF.toCOk (by rw [hnm]; rfl) R₃ rfl fun z rz => ?_
        induction rz using VRel.rawC with
        | raw =>
          refine ks_wpAny_isType_cls hD1 hD2 ⟨rfl, ?_⟩
          have hsub : mroIn G.K G.acc (.ref G.acc) = some true := by unfold mroIn; rw [hc, Option.bind_some, hmro]; simp
          have hx₃ : hp.get? x = some (newAcc G.acc dx) := R₃.getX (.tail _ (.head _))
          refine ks_wpAny_call_super hD1 hD2 hx₃ rfl (fun c e => by cases e) (looks_mroIn X₂ hsub) fun h₄ hso k₄ => ?_
          have R₄ := R₃.grown k₄
          have X₄ : G.K.In h₄ := KF.gd.frag.keeps fun _ _ => R₄.keep
          have hxC : x ≠ G.acc := fun q => by rw [q, hD1] at hx₃; cases hx₃; cases hD2
          refine super_method (l₀ := cd.mro) (l := [.type "list", .type "object"]) hso (looks_opaque X₄ IK.opq) ((looks_clsIn X₄ hc).andThen .now) (by rw [hmro]; simp) X₄ IK.along li_type wd_slot wd_entry (wd_args _ _ _) (wget_eq x G.acc) (chkI_ok ?_) hxC (by decide) ?_
          · exact (show Looks (model G.p G.w) h₄ (typeOf (.ref x)) (.ref G.acc) from (Looks.ld (R₄.getX (.tail _ (.head _)))).andThen .now).andThen (looks_mroIn X₄ AK.list)
          · have R₅ := (R₄.allocX (o := { cls := .type "method-wrapper", data := .fields #[.builtin "list.__init__", .ref x] }) rfl).toks (tk + 1)
            dsimp only at R₅ ⊢
            generalize h₄.objs.size = q at R₅ ⊢
            generalize hs₅ : ({ heap := h₄.push { cls := .type "method-wrapper", data := .fields #[.builtin "list.__init__", .ref x] }, gens := gg, drawn := dr, toks := tk + 1, os := os } : Shared) = s₅ at R₅ ⊢
            have hq : s₅.heap.get? q = some { cls := .type "method-wrapper", dict := none, data := .fields #[.builtin "list.__init__", .ref x], slots := #[] } := R₅.getX (.head _)
            refine callWith_of (P := fun h => h.get? q = some { cls := .type "method-wrapper", dict := none, data := .fields #[.builtin "list.__init__", .ref x], slots := #[] }) rfl (keepsP (by decide) (by decide)) (evalArgs_nil3 ⟨hq, ?_⟩)
            refine call_bound hq (by decide) (by decide) F.slot_list_init.plain li_chk F.entry_list_init (li_run (c := G.acc) (dx := dx) (R₅.getX (.tail _ (.tail _ (.head _)))) fun h₆ e₆ hs₆ hg₆ => ⟨.none, rfl, ?_⟩)
            have R₆ := (R₅.dropX.perm (List.Perm.swap _ _ _)).setX hs₆ hg₆
            refine wpAt_of_wpAny (wpAny_execs_nil ⟨W, _, (x, accO G.acc dx [] e₆) :: (dx, accD G.w.params n (s₁.toks + 1) t₁) :: X, .none, .none, Wd.le_refl _, R₆.perm ?_, .none, .inr ⟨rfl, rfl⟩, fun s'' R'' => ⟨rfl, hR s'' _ _ _ R''⟩⟩)
            exact (List.Perm.swap _ _ _).trans (perm_two cs _ _ X).symm
  · rcases r with e | (v | _ | _ | _) <;> first | exact h | exact h.elim
end Mine
end
section
open PySem PySem.W PyProof.Rows PySem.Calls Builtin
set_option maxHeartbeats 4000000
namespace Mine
section
variable {prog : Program} {w : World} {A : Around} {K : Frag} {C fI : Addr} {R : Result → Shared → Prop} {h : Heap} {g : Array GenState} {d : Drawn} {t : Nat} {os : OsState}
theorem make_L {a : Value} (X : K.In h) (Y : MakesL (model prog w) h C) (hf : findIn K (.ref C) "__init__" = some (some (.ref fI))) (ht : typeIn K (.ref fI) = some (.type "function"))
    (hq : codeAny (model prog w) (A.under (.builtin "type.__call__" ⟨[.ref C, a], []⟩)) (.call (.ref fI) ⟨[.ref (h.objs.size + 1), a], []⟩) (InitBack (h.objs.size + 1) R) ⟨(h.push emptyDict).push (newAcc C h.objs.size), g, d, t, os⟩) :
    codeAny (model prog w) A (.call (.ref C) ⟨[a], []⟩) R ⟨h, g, d, t, os⟩ := by
  have Y' := Y
  have hi := looks_findIn (M := model prog w) X hf
  have hb := fun self => bind_fn (M := model prog w) X self ht
  obtain ⟨⟨oc, od, cd, sl, hC, e1, e2, e4⟩, made, base, self, top, call, typ⟩ := Y
  refine codeAny_of_tree ?_
  show wpAny _ _ (callAny (.ref C) _) _ _ _
  refine nd_load hC ?_
  show wpAny _ _ (callAny.viaDunder (.ref C) _) _ _ _
  unfold callAny.viaDunder
  refine wpAny_bind (call.at ?_)
  dsimp only
  rw [tc_bind]
  refine wpAny_bind (wpAny_pure (wpAny_bind (wpAny_pure ?_)))
  refine wpAny_pure (a := PySem.Fin.again (.call (.builtin "type.__call__") ⟨[.ref C, a], []⟩)) (And.intro rfl ?_)
  refine codeAny_call_builtin_at (Code.quiet_builtin _ (by decide +kernel)) entry_typeCall (check_slot tc_kind tc_split typ (tc_args _ _ _) ?_)
  unfold Builtin.«type.__call__»
  have hm : Looks (model prog w) h (mroOf (.ref C)) cd.mro := ((Looks.ld (part := none) hC).andThen .now).andThen .now
  repeat (first | simp only [e4, Bool.false_eq_true, if_false] | with_reducible refine wpAny_call ?_ | lk)
  refine new_L Y' ?_
  have k : ∀ b o, h.get? b = some o → ((h.push emptyDict).push (newAcc C h.objs.size)).get? b = some o := fun b o e => Heap.get?_push_of_some _ (Heap.get?_push_of_some _ e)
  have hx : ((h.push emptyDict).push (newAcc C h.objs.size)).get? (h.objs.size + 1) = some (newAcc C h.objs.size) := by heap_get
  have t1 : Looks (model prog w) ((h.push emptyDict).push (newAcc C h.objs.size)) (typeOf (.ref (h.objs.size + 1))) (.ref C) := (Looks.ld hx).andThen .now
  have s1 := self.keeps k
  have i1 := hi.keeps k
  have b1 := (hb (.ref (h.objs.size + 1))).keeps k
  unfold isInstance callSpecial? specialOf
  repeat (first | with_reducible refine wpAny_call ?_ | lk)
  refine codeAny_mono hq fun r s' z => ?_
  rcases r with e | (v | _ | _ | _) <;> first | exact z | exact z.elim | skip
  obtain ⟨rfl, z⟩ := z
  exact wpAny_pure (wpAny_pure z)
end
noncomputable def subC (C : Cx) (A' : Around) : Cx := { C with A := A', lv := C.lv - 2 }
theorem COk1.sub {G : Gd} {C : Cx} {A' : Around} (K : COk1 G C) (hlv : 2 ≤ C.lv) (hd : A'.depth ≤ C.A.depth + 2) (hf : A'.frames = C.A.frames) (hh : A'.handled = C.A.handled) (hu : A'.units ≤ C.A.units + 6) : COk1 G (subC C A') where
  below := K.below
  frames := hf.trans K.frames
  frame := K.frame
  kind := K.kind
  handled := hh.trans K.handled
  nm := K.nm
  globals := K.globals
  builtins := K.builtins
  locals := K.locals
  gd := K.gd
  cells := K.cells
  room := by
    have := K.room
    show A'.depth + (C.lv - 2) < _
    omega
  units := by
    have := K.units
    show A'.units + 3 * (C.lv - 2) + 8 < _
    omega
  acp := K.acp
  acC := K.acC
  acP := K.acP
  acw := K.acw
  inj := K.inj
theorem Rel.sub {C : Cx} {A' : Around} {W : Wd} {σ : PS} {X : Led} {s : Shared} (R : Rel C W σ X s) : Rel (subC C A') W σ X s := ⟨R.ex, R.bare, R.os, R.tk⟩
theorem Rel.unsub {C : Cx} {A' : Around} {W : Wd} {σ : PS} {X : Led} {s : Shared} (R : Rel (subC C A') W σ X s) : Rel C W σ X s := ⟨R.ex, R.bare, R.os, R.tk⟩
theorem Rel.toT {C : Cx} {W : Wd} {σ : PS} {X : Led} {s : Shared} {p : Addr × Obj} (R : Rel C W σ (p :: X) s) : Rel C ⟨W.mu, p :: W.T⟩ σ X s := by
  refine Rel.exE R fun m cs ms F N nd sr mr mu => ?_
  have le : W.le ⟨W.mu, p :: W.T⟩ := ⟨⟨[], by simp⟩, fun _ h => .tail _ h⟩
  have hp : (cs ++ (ms ++ ((p :: W.T) ++ X))).Perm (cs ++ (ms ++ (W.T ++ p :: X))) := List.Perm.append_left _ (List.Perm.append_left _ (by rw [List.cons_append]; exact List.perm_middle.symm))
  exact ⟨⟨m, cs, ms, F, fun q hq => N q (hp.mem_iff.mp hq), (hp.map _).nodup_iff.mpr nd, sr.mono le, mr.mono le, mu⟩, R.bare, R.os, R.tk⟩
noncomputable def cNew : List PV → PS → Option (PV × PS)
  | [.int n], σ => fnew (.acc n []) σ
  | _, _ => none
theorem tc_under (A : Around) (C : Addr) (a : Value) : (A.under (.builtin "type.__call__" ⟨[.ref C, a], []⟩)).depth ≤ A.depth + 2 ∧ (A.under (.builtin "type.__call__" ⟨[.ref C, a], []⟩)).frames = A.frames ∧ (A.under (.builtin "type.__call__" ⟨[.ref C, a], []⟩)).handled = A.handled ∧
    (A.under (.builtin "type.__call__" ⟨[.ref C, a], []⟩)).units ≤ A.units + 6 := by
  refine ⟨?_, ?_, rfl, ?_⟩
  · have : (Code.builtin "type.__call__" ⟨[.ref C, a], []⟩).weight = 1 := by rfl
    show A.depth + Code.weight _ ≤ _
    omega
  · have : (Code.builtin "type.__call__" ⟨[.ref C, a], []⟩).envs = [] := by rfl
    unfold Around.under
    rw [this]; rfl
  · have : (Code.builtin "type.__call__" ⟨[.ref C, a], []⟩).cUnits = 1 := by rfl
    show A.units + Code.cUnits _ ≤ _
    omega
end Mine
end
section
open PySem PySem.W PyProof.Rows PySem.Calls Builtin
set_option maxHeartbeats 4000000
set_option genInjectivity false
set_option genSizeOfSpec false
namespace Mine
structure NewK (G : Gd) (d : FnD) (cc cda : Addr) : Prop extends InitK G d cc cda where
  makes : makesL G.K G.acc = true
  init : findIn G.K (.ref G.acc) "__init__" = some (some (.ref d.f))
  fty : typeIn G.K (.ref d.f) = some (.type "function")
  keep : keepIn G.K (.ref G.acc) = true
section
variable {G : Gd} {C : Cx} {V : Vw}
theorem Ev.newAcc (K : COk1 G C) (VV : VG V) (AK : AccK G) {d : FnD} {cc cda : Addr} (NK : NewK G d cc cda) (hlv : 3 ≤ C.lv) {x : Str} {p pos : Pos} {es : List Expr} {f : PS → Option (List PV × PS)} (hx : V.env.kindOf x = some .globalImplicit)
    (e : nsIn G.K mainGlobals x = some (some (.ref G.acc))) (hdb : (x == ("__debug__" : Str)) = false) (H : Evs G C V es f) : Ev G C V (.Call (.Name x p) es [] pos) (fun σ => fbf f σ fun vs σ => cNew vs σ) := by
  intro W σ X s r σ' Q E e' R ok h
  refine fbE e' fun vs σ₁ e₁ e₂ => ?_
  refine Call_Name rfl ((Ev.glo K VV hx e (fun _ => .raw _) hdb) W σ X s _ _ _ E rfl R ok fun W₁ y s₁ l₁ R₁ ry => ?_)
  induction ry using VRel.rawC
  refine callWith_of (P := G.K.In) (by rw [H.plain]; rfl) (keeps_K NK.keep) (H.args _ e₁ R₁ (V.mono l₁ ok) fun W₂ xs s₂ l₂ R₂ rs => ⟨K.gd.frag.keeps fun _ _ => R₂.keep, ?_⟩)
  unfold cNew at e₂
  split at e₂
  · rename_i n
    induction rs using VRels.consC with | cons r1 rs => induction rs using VRels.nilC with | nil => induction r1 using VRel.intC with | int t =>
    have R₃ := (R₂.allocX (o := emptyDict) rfl).allocX (o := Mine.newAcc G.acc s₂.heap.objs.size) rfl
    have X₂ : G.K.In s₂.heap := K.gd.frag.keeps fun _ _ => R₂.keep
    have hlen := R₂.len
    refine wpAny_call ?_
    obtain ⟨hp, gg, dr, tk, os⟩ := s₂
    obtain ⟨u1, u2, u3, u4⟩ := tc_under C.A G.acc (.int n t)
    have K' : COk1 G (subC C (C.A.under (.builtin "type.__call__" ⟨[.ref G.acc, .int n t], []⟩))) := K.sub (by omega) u1 u2 u3 u4
    refine make_L X₂ (makesL_of X₂ NK.makes) NK.init NK.fty ?_
    dsimp only at R₃
    rw [Heap.size_push] at R₃
    refine init_run K' AK NK.toInitK (by show 0 < C.lv - 2; omega) R₃.sub fun s' t' u' e₃ R₄ => ?_
    have R₅ := ((R₄.unsub.perm (List.Perm.swap _ _ _)).toT).promote (po := .acc n []) (by
      rw [← K.acC, ← K.acP]
      exact .acc n [] [] e₃ _ t' u' .nil (.head _))
    cases e₂
    refine h _ _ _ (Wd.le_trans l₁ (Wd.le_trans l₂ ⟨⟨_, rfl⟩, fun _ h => .tail _ h⟩)) R₅ (.ref _ _ ?_)
    show (W₂.mu ++ [_])[_]? = _
    rw [← hlen]; simp
  · exact noneE e₂
end
end Mine
end
section
open PySem PySem.W PyProof.Rows PySem.Calls Builtin
set_option maxHeartbeats 4000000
namespace Mine
noncomputable def cLenA (g : List PV → PS → Option (PV × PS)) (vs : List PV) (σ : PS) : Option (PV × PS) := match vs with
  | [.ref l] => if isAcc (.ref l) σ = true then (match g [.ref l] σ with
      | some (.int n, σ') => if 0 ≤ n ∧ n < 2 ^ 63 then some (.int n, σ') else none
      | _ => none) else cLen [.ref l] σ
  | vs => cLen vs σ
noncomputable def cStrA (g : List PV → PS → Option (PV × PS)) (vs : List PV) (σ : PS) : Option (PV × PS) := match vs with
  | [.ref l] => if isAcc (.ref l) σ = true then (match g [.ref l] σ with
      | some (.str x, σ') => some (.str x, σ')
      | _ => none) else none
  | _ => none
section
variable {G : Gd} {C : Cx}
theorem isAcc_some {l : Nat} {σ : PS} (h : isAcc (.ref l) σ = true) : ∃ n xs, σ.mem[l]? = some (.acc n xs) := by
  unfold isAcc at h
  dsimp only at h
  split at h
  · exact ⟨_, _, by assumption⟩
  · cases h
theorem Cl.lenA (K : COk1 G C) {f : Addr} {g : List PV → PS → Option (PV × PS)} (hf : findIn G.K (.ref G.acc) "__len__" = some (some (.ref f))) (ht : typeIn G.K (.ref f) = some (.type "function")) (hc : Cl G (subC C C.A.in1) (.ref f) g) : Cl G C (.builtin "len") (cLenA g) := by
  intro W σ X s vs xs r σ' Q E e R rs h
  unfold cLenA at e
  split at e
  · rename_i l
    split at e
    · rename_i ha
      obtain ⟨n, ys, hx⟩ := isAcc_some ha
      induction rs using VRels.consC with | cons r1 rs => induction rs using VRels.nilC with | nil => induction r1 using VRel.refC with | ref ad had =>
      refine accE K R hx had fun us ee dx t u ho rv hm I => ?_
      split at e
      · rename_i n' σ₁ hg
        split at e
        · rename_i hn
          induction e using someC
          refine len_sub (K.gd.frag.keeps fun _ _ => R.keep) I hf ht (hc W σ X s [.ref l] [.ref ad] _ _ _ E hg R.sub (.cons (.ref l ad had) .nil) fun W' y s' le R' ry => ?_)
          induction ry using VRel.intC with
          | int t' => exact ⟨_, t', rfl, hn.1, hn.2, fun u k hk => h W' _ _ le (R'.unsub.toks k (Nat.lt_of_le_of_lt (Nat.zero_le _) hk)) (.int _ _)⟩
        · exact noneE e
      · exact noneE e
    · exact Cl.len W σ X s _ xs r σ' Q E e R rs h
  · exact Cl.len W σ X s _ xs r σ' Q E e R rs h
theorem Cl.strA (K : COk1 G C) {f : Addr} {g : List PV → PS → Option (PV × PS)} (hf : findIn G.K (.ref G.acc) "__str__" = some (some (.ref f))) (ht : typeIn G.K (.ref f) = some (.type "function")) (hc : Cl G (subC C C.A.in1.in1) (.ref f) g) : Cl G C (.type "str") (cStrA g) := by
  intro W σ X s vs xs r σ' Q E e R rs h
  unfold cStrA at e
  split at e
  · rename_i l
    split at e
    · rename_i ha
      obtain ⟨n, ys, hx⟩ := isAcc_some ha
      induction rs using VRels.consC with | cons r1 rs => induction rs using VRels.nilC with | nil => induction r1 using VRel.refC with | ref ad had =>
      refine accE K R hx had fun us ee dx t u ho rv hm I => ?_
      split at e
      · rename_i x σ₁ hg
        induction e using someC
        refine str_sub (K.gd.frag.keeps fun _ _ => R.keep) I hf ht (by have := K.units; omega) (hc W σ X s [.ref l] [.ref ad] _ _ _ E hg R.sub (.cons (.ref l ad had) .nil) fun W' y s' le R' ry => ?_)
        induction ry using VRel.strC with
        | str t' => exact ⟨_, t', rfl, h W' _ _ le R'.unsub (.str _ _)⟩
      · exact noneE e
    · exact noneE e
  · exact noneE e
end
end Mine
end
section
open PySem PySem.W PyProof.Rows
set_option genInjectivity false
set_option genSizeOfSpec false
namespace Mine
structure Mc where
  tb : String → Option Builtin
  p : Program
  w : World
  n₀ : Nat
  ann : Option Value
  b : Nat
noncomputable def Mc.go (M : Mc) (k : Nat) (s : Shared) (t : Thread) : Option (Shared × Thread) := segGo M.tb M.p M.w M.n₀ M.ann M.b k s t
theorem Mc.go_add {M : Mc} : ∀ {k l : Nat} {s s₁ : Shared} {t t₁ : Thread} {r : Option (Shared × Thread)}, M.go k s t = some (s₁, t₁) → M.go l s₁ t₁ = r → M.go (k + l) s t = r
  | 0, l, s, s₁, t, t₁, r, h, h' => by
    have : s = s₁ ∧ t = t₁ := by simpa [Mc.go, segGo] using h
    obtain ⟨rfl, rfl⟩ := this
    rw [Nat.zero_add]; exact h'
  | k + 1, l, s, s₁, t, t₁, r, h, h' => by
    rw [show k + 1 + l = (k + l) + 1 by omega]
    unfold Mc.go segGo at h ⊢
    cases he : endAt M.b t with
    | some f => rw [he] at h; cases h
    | none =>
      rw [he] at h
      dsimp only at h ⊢
      cases hk : stepOk M.n₀ M.ann t with
      | false => rw [hk] at h; cases h
      | true =>
        rw [hk] at h
        dsimp only at h ⊢
        cases hs : step (denote M.tb) M.p M.w s t with
        | halt o s₂ => rw [hs] at h; cases h
        | go s₂ t₂ =>
          rw [hs] at h
          exact Mc.go_add (M := M) h h'
theorem Mc.go_one {M : Mc} {s s' : Shared} {t t' : Thread} (h1 : endAt M.b t = none) (h2 : stepOk M.n₀ M.ann t = true) (h3 : step (denote M.tb) M.p M.w s t = .go s' t') : M.go 1 s t = some (s', t') := by
  unfold Mc.go segGo; rw [h1]; dsimp only; rw [h2]; dsimp only; rw [h3]; rfl
noncomputable def Goes (M : Mc) {α : Type} (k : Nat) (m : Sem α) (s : Shared) (q : Pos) (a : α) (s' : Shared) (q' : Pos) : Prop :=
  ∀ (K : α → Sem Fin) (H : Value → Sem Fin) (gd : Bool → Bool) (lv : List Value → List Value) (c : Code) (st : List Frame), M.b ≤ st.length →
    M.go k s ⟨m.wrap K H gd lv, c, q, st⟩ = some (s', ⟨K a, c, q', st⟩)
noncomputable def okA (M : Mc) (a : Addr) : Bool := Nat.ble M.n₀ a || a == mainNs || a == cStatics || M.ann == some (.ref a)
section
variable {M : Mc} {α β : Type} {s s₁ s' : Shared} {q q₁ q' : Pos} {k l : Nat}
theorem g_leaf {a : α} : Goes M 0 (pure a) s q a s q := fun _ _ _ _ _ _ _ => rfl
theorem g_bind {m : Sem α} {f : α → Sem β} {a : α} {b : β} (h : Goes M k m s q a s₁ q₁) (h' : Goes M l (f a) s₁ q₁ b s' q') : Goes M (k + l) (m >>= f) s q b s' q' := by
  intro K H gd lv c st hb
  rw [Sem.bind_eq_wrap', Sem.wrap_wrap]
  exact Mc.go_add (h _ _ _ _ c st hb) (h' K H gd lv c st hb)
theorem g_of_eq {m m' : Sem α} {a : α} (e : m = m') (h : Goes M k m' s q a s' q') : Goes M k m s q a s' q' := e ▸ h
theorem g_onRaise {m : Sem α} {f : Value → Sem Unit} {a : α} (h : Goes M k m s q a s' q') : Goes M k (m.onRaise f) s q a s' q' := by
  intro K H gd lv c st hb
  rw [Sem.onRaise_eq_wrap, Sem.wrap_wrap]
  exact h _ _ _ _ c st hb
theorem g_keep {vs : List Value} {m : Sem α} {a : α} (h : Goes M k m s q a s' q') : Goes M k (m.keep vs) s q a s' q' := by
  intro K H gd lv c st hb
  rw [Sem.keep_eq_wrap, Sem.wrap_wrap]
  exact h _ _ _ _ c st hb
theorem g_holding {vs : List Value} {m : Sem α} {a : α} (h : Goes M k m s q a s' q') : Goes M k (holding vs m) s q a s' q' := by
  unfold PySem.holding; split
  · exact h
  · exact g_keep h
theorem stack_ne {c : Code} {q : Pos} {st : List Frame} {F : Frame} {cur : Sem Fin} (hb : M.b ≤ st.length) : endAt M.b ⟨cur, c, q, F :: st⟩ = none := by
  have : ((F :: st).length == M.b) = false := by
    rw [List.length_cons, beq_eq_false_iff_ne]; omega
  simp only [endAt, this]
theorem g_rule {t : String} : Goes M 1 (PySem.rule t) s q () s q := fun K H gd lv c st _ => Mc.go_one (by simp [endAt, PySem.rule, Sem.wrap]) (by rfl) (by rfl)
theorem g_standAt {p : Pos} : Goes M 1 (PySem.standAt p) s q () s p := fun K H gd lv c st _ => Mc.go_one (by simp [endAt, PySem.standAt, Sem.wrap]) (by rfl) (by rfl)
theorem g_point : Goes M 1 PySem.point s q () s q := fun K H gd lv c st _ => Mc.go_one (by simp [endAt, PySem.point, Sem.wrap]) (by rfl) (by rfl)
theorem g_ask : Goes M 1 PySem.ask s q ⟨M.p, M.w.params⟩ s q := fun K H gd lv c st _ => Mc.go_one (by simp [endAt, PySem.ask, Sem.wrap]) (by rfl) (by rfl)
theorem g_fresh : Goes M 1 PySem.fresh s q s.toks { s with toks := s.toks + 1 } q := fun K H gd lv c st _ => Mc.go_one (by simp [endAt, PySem.fresh, Sem.wrap]) (by rfl) (by rfl)
theorem g_alloc {o : Obj} : Goes M 1 (PySem.alloc o) s q s.heap.objs.size { s with heap := s.heap.push o } q := fun K H gd lv c st _ => Mc.go_one (by simp [endAt, PySem.alloc, Sem.wrap]) (by rfl) (by rfl)
theorem g_loadPart {a : Addr} {pt : Option Value} {o : Obj} (h : s.heap.get? a = some o) : Goes M 1 (PySem.loadPart a pt) s q o s q := fun K H gd lv c st _ =>
  Mc.go_one (by simp [endAt, PySem.loadPart, Sem.wrap]) (by rfl) (by
    show step (denote M.tb) M.p M.w s ⟨.load a pt fun x => (Sem.pure x).wrap K H gd lv, c, q, st⟩ = _
    obtain ⟨heap, gens, drawn, toks, os⟩ := s
    simp only [step]; rw [show heap.get? a = some o from h]; rfl)
theorem g_updatePart {a : Addr} {pt : Option Value} {f : Obj → Obj} {o : Obj} (h : s.heap.get? a = some o) (ok : okA M a = true) : Goes M 1 (PySem.updatePart a pt f) s q () { s with heap := s.heap.update a f } q := fun K H gd lv c st _ =>
  Mc.go_one (by simp [endAt, PySem.updatePart, Sem.wrap]) (by
      show stepOk M.n₀ M.ann ⟨.update a pt f fun x => (Sem.pure x).wrap K H gd lv, c, q, st⟩ = true
      unfold stepOk
      rw [Bool.and_eq_true]
      exact ⟨rfl, ok⟩) (by
    show step (denote M.tb) M.p M.w s ⟨.update a pt f fun x => (Sem.pure x).wrap K H gd lv, c, q, st⟩ = _
    obtain ⟨heap, gens, drawn, toks, os⟩ := s
    simp only [step]; rw [show heap.get? a = some o from h]; rfl)
noncomputable def GoesC (M : Mc) (k : Nat) (c : Code) (s : Shared) (q : Pos) (f : Flow) (s' : Shared) : Prop :=
  ∀ (K : Result → Sem Fin) h g l cd p kept st, M.b ≤ st.length → ∃ c' q' kept', M.go k s ⟨denote M.tb c, c, q, .ret K h g l cd p kept :: st⟩ = some (s', ⟨.pure (.done f), c', q', .ret K h g l cd p kept' :: st⟩)
theorem wrap_self (m : Sem α) : m.wrap .pure .raise id id = m := by
  induction m <;> simp only [Sem.wrap, id, *]
theorem gc_done {c : Code} {f : Flow} (h : Goes M k (denote M.tb c) s q (.done f) s' q') : GoesC M k c s q f s' := by
  intro K hd g l cd p kept st hb
  have := h .pure .raise id id c (.ret K hd g l cd p kept :: st) (Nat.le_succ_of_le hb)
  rw [wrap_self] at this
  exact ⟨_, _, _, this⟩
theorem gc_again {c c' : Code} {f : Flow} (h : Goes M k (denote M.tb c) s q (.again c') s₁ q₁) (h' : GoesC M l c' s₁ q₁ f s') (hc : ∀ (K : Result → Sem Fin) hd g ll cd p kept st, stepOk M.n₀ M.ann ⟨.pure (.again c'), c, q₁, .ret K hd g ll cd p kept :: st⟩ = true) : GoesC M (k + (1 + l)) c s q f s' := by
  intro K hd g ll cd p kept st hb
  have e := h .pure .raise id id c (.ret K hd g ll cd p kept :: st) (Nat.le_succ_of_le hb)
  rw [wrap_self] at e
  obtain ⟨c₂, q₂, kp, e'⟩ := h' K hd g ll cd p (keptBy c c' ll kept) st hb
  refine ⟨c₂, q₂, kp, Mc.go_add e (Mc.go_add (Mc.go_one (stack_ne hb) (hc ..) ?_) e')⟩
  obtain ⟨heap, gens, drawn, toks, os⟩ := s₁
  exact step_again
noncomputable def keptNew (c code : Code) (l : List Value) : List Value := match c, code with
  | .builtin _ a, _ => unmarked a.refs
  | .call f a, .builtin .. | .call f a, .call .. => unmarked (if l.contains borrowed then a.refs else f :: a.refs)
  | _, _ => []
theorem g_run {c : Code} {f : Flow} (h : GoesC M k c s q f s') : Goes M (1 + (k + 1)) (PySem.run c) s q f s' q := by
  intro K H gd lv cd st hb
  obtain ⟨c', q', kp, e⟩ := h (fun r => ((match r with | .ok f => .pure f | .error e => .raise e : Sem Flow)).wrap K H gd lv) none (gd false) (lv []) cd q
    (keptNew c cd (lv [])) st hb
  refine Mc.go_add (Mc.go_one ?_ ?_ ?_) (Mc.go_add e (Mc.go_one (stack_ne hb) (by rfl) ?_))
  · simp [endAt, PySem.run, Sem.wrap]
  · rfl
  · rfl
  · rfl
end
end Mine
end
section
open PySem PySem.W PyProof.Rows
namespace Mine
theorem chk_hash (k : Int) (t : Tok) : checkBuiltinCall "int.__hash__" ⟨[.int k t], []⟩ = pure () := by kernel_rfl
theorem ca_hash (k : Int) (t : Tok) : callAny (.builtin "int.__hash__") ⟨[.int k t], []⟩ = pure (.again (.builtin "int.__hash__" ⟨[.int k t], []⟩)) := by
  show (checkBuiltinCall "int.__hash__" ⟨[.int k t], []⟩ >>= fun _ => again _) = _
  rw [chk_hash]; rfl
theorem bd_hash (k : Int) (t : Tok) : Builtin.«int.__hash__» ⟨[.int k t], []⟩ = (do ret (← mkInt (rawHash k))) := by rfl
theorem sp_hash (k : Int) (t : Tok) : specialOf (.int k t) "__hash__" = pure (some (.builtin "int.__hash__")) := by
  show (typeOf (.int k t) >>= fun x => typeLookup x "__hash__") = _
  show (pure (Value.type "int") >>= fun x => typeLookup x "__hash__") = _
  exact slot_int_hash.lookup
section
variable {M : Mc} {α β : Type} {s s₁ s' : Shared} {q q₁ q' : Pos} {k l : Nat}
theorem g_cast {m : Sem α} {a : α} (h : Goes M k m s q a s' q') (e : k = l) : Goes M l m s q a s' q' := e ▸ h
theorem g_gMkInt {i : Int} : Goes M 1 (mkInt i) s q (.int i s.toks) { s with toks := s.toks + 1 } q := g_cast (g_bind g_fresh g_leaf) rfl
theorem g_call_hash {i : Int} {t : Tok} (hM : M.tb = table) : Goes M 4 (PySem.call (.builtin "int.__hash__") [.int i t]) s q (.int (rawHash i) s.toks) { s with toks := s.toks + 1 } q := by
  refine g_cast (g_bind (g_run (f := .ret (.int (rawHash i) s.toks)) (k := 2) (s' := { s with toks := s.toks + 1 }) ?_) (g_leaf (a := Value.int (rawHash i) s.toks))) rfl
  refine gc_again (k := 0) (l := 1) (c' := .builtin "int.__hash__" ⟨[.int i t], []⟩) (q₁ := q) (g_of_eq (m' := pure (.again (.builtin "int.__hash__" ⟨[.int i t], []⟩))) ?_ g_leaf) ?_ ?_
  · exact ca_hash i t
  · refine gc_done (g_of_eq (m' := (do ret (← mkInt (rawHash i)))) ?_ (g_cast (g_bind g_gMkInt g_leaf) rfl))
    show (match entryFor M.tb "int.__hash__" with | some b => b _ | none => _) = _
    rw [hM, entry_int_hash]
    exact bd_hash i t
  · intros; kernel_rfl
theorem g_pyHash_int {i : Int} {t : Tok} (hM : M.tb = table) : Goes M 5 (pyHash (.int i t)) s q (hashInt i) { s with toks := s.toks + 1 } q := by
  have hr := rawHash_range i
  refine g_of_eq (m' := pyHashByItsType (.int i t)) rfl ?_
  unfold pyHashByItsType
  refine g_cast (g_bind (k := 0) (a := ()) (g_of_eq (m' := pure ()) (by rw [cRoomFor, if_neg (by exact Bool.false_ne_true)]) g_leaf) ?_) (Nat.zero_add 5)
  refine g_cast (g_bind (k := 0) (g_of_eq (sp_hash i t) g_leaf) ?_) (Nat.zero_add 5)
  rw [if_neg (by rw [beq_builtin_none]; exact Bool.false_ne_true)]
  refine g_cast (g_bind (k := 0) (g_of_eq (sp_hash i t) g_leaf) ?_) (Nat.zero_add 5)
  show Goes M 5 (callSpecialIfBoundUnlessNone? (.int i t) "__hash__" _ >>= _) s q _ _ q
  refine g_cast (g_bind (k := 5) (l := 0) (a := some (.int (rawHash i) s.toks)) (s₁ := { s with toks := s.toks + 1 }) (q₁ := q) ?_ ?_) rfl
  · unfold callSpecialIfBoundUnlessNone?
    refine g_holding (g_cast (g_bind (k := 1) (l := 4) (a := some (.builtin "int.__hash__", [.int i t])) (s₁ := s) (q₁ := q) ?_ ?_) rfl)
    · unfold bindSpecialIfBound?
      refine g_cast (g_bind (k := 0) (g_of_eq (sp_hash i t) g_leaf) ?_) (Nat.zero_add 1)
      dsimp only
      refine g_cast (g_bind (k := 1) (l := 0) g_ask ?_) rfl
      rw [show bindSpecial (.builtin "int.__hash__") (.int i t) = pure (.builtin "int.__hash__", [.int i t]) from slot_int_hash.bind _]
      split
      · exact g_leaf
      · exact g_leaf
    · dsimp only
      rw [if_neg (by rw [builtin_beq_none]; exact Bool.false_ne_true)]
      exact g_cast (g_bind (g_call_hash hM) g_leaf) rfl
  · show Goes M 0 (if (decide (-(2 : Int) ^ 63 ≤ rawHash i) && decide (rawHash i < 2 ^ 63)) = true then _ else _) _ _ _ _ _
    rw [if_pos (by rw [decide_eq_true hr.1, decide_eq_true hr.2]; rfl)]
    exact g_leaf
end
end Mine
end
section
open PySem PySem.W PyProof.Rows
namespace Mine
noncomputable def dO (es : List DictEntry) (n : Nat) : Obj := { cls := .type "dict", data := .dict es.toArray n }
theorem dO_live (es : List DictEntry) (n : Nat) : (dO es n).isFreed = false := rfl
theorem dO_add (es : List DictEntry) (n : Nat) (e : DictEntry) : Obj.mapDictKeys (fun x => x.push e) (dO es n) = dO (es ++ [e]) (n + 1) := by
  simp [dO, Obj.mapDictKeys]
theorem upd_to {h : Heap} {a : Addr} {o : Obj} {f : Obj → Obj} (g : h.get? a = some o) : h.update a f = h.update a (fun _ => f o) := by
  obtain ⟨e, _⟩ := Heap.get?_some_iff.mp g
  obtain ⟨objs, life⟩ := h
  show Heap.mk _ _ = Heap.mk _ _
  congr 1
  apply Array.ext_getElem?
  intro i
  rw [Array.getElem?_modify, Array.getElem?_modify]
  by_cases q : a = i
  · subst q; simp only [if_true]; rw [show objs[a]? = some o from e]; rfl
  · simp only [if_neg q]
theorem upd_upd {h : Heap} {a : Addr} {o o' : Obj} : (h.update a (fun _ => o)).update a (fun _ => o') = h.update a (fun _ => o') := by
  obtain ⟨objs, life⟩ := h
  show Heap.mk _ _ = Heap.mk _ _
  congr 1
  apply Array.ext_getElem?
  intro i
  rw [Array.getElem?_modify, Array.getElem?_modify, Array.getElem?_modify]
  by_cases q : a = i
  · subst q; simp only [if_true]; cases objs[a]? <;> rfl
  · simp only [if_neg q]
theorem upd_push {h : Heap} {o o' : Obj} : (h.push o).update h.objs.size (fun _ => o') = h.push o' := by
  obtain ⟨objs, life⟩ := h
  show Heap.mk _ _ = Heap.mk _ _
  congr 1
  apply Array.ext_getElem?
  intro i
  rw [Array.getElem?_modify]
  simp only [Array.getElem?_push]
  by_cases q : objs.size = i
  · subst q; simp
  · simp [q, Ne.symm q]
section
variable {M : Mc} {α β : Type} {s s₁ s' : Shared} {q q₁ q' : Pos} {k l : Nat}
theorem places_nil {es : List DictEntry} {h : Int} (hn : ∀ e ∈ es, e.hash ≠ h) : placesWithHash es.toArray.size (fun i => es.toArray[i]?.map (·.hash)) h = [] := by
  unfold placesWithHash
  rw [List.filter_eq_nil_iff]
  intro i _
  show ¬(Option.map (fun x : DictEntry => x.hash) es.toArray[i]? == some h) = true
  rw [List.getElem?_toArray]
  cases e : es[i]? with
  | none => simp
  | some x => simpa using hn x (List.mem_of_getElem? e)
theorem g_find_none {d : Addr} {i : Int} {t : Tok} {h : Int} {es : List DictEntry} {n : Nat} (hd : s.heap.get? d = some (dO es n)) (hn : ∀ e ∈ es, e.hash ≠ h) : Goes M 1 (dictFind d (.int i t) h) s q none s q := by
  unfold dictFind
  refine g_holding (g_cast (g_bind (k := 1) (l := 0) (a := es.toArray) (s₁ := s) (q₁ := q) ?_ ?_) rfl)
  · unfold dictEntries
    exact g_cast (g_bind (g_loadPart hd) g_leaf) rfl
  · dsimp only
    rw [places_nil hn]
    exact g_leaf
theorem g_addKey {d : Addr} {e : DictEntry} {es : List DictEntry} {n : Nat} {pt : Option Value} (hd : s.heap.get? d = some (dO es n)) (ok : okA M d = true) (hs : es.length ≤ 1000000) :
    Goes M 3 (updateDictKeys d (fun x => x.push e) pt) s q () { s with heap := s.heap.update d (fun _ => dO (es ++ [e]) (n + 1)) } q := by
  unfold updateDictKeys
  refine g_cast (g_bind (k := 1) (l := 2) (g_loadPart hd) ?_) rfl
  show Goes M 2 (updatePart d pt _ >>= fun _ => lookBehind d pt) _ _ _ _ _
  refine g_cast (g_bind (k := 1) (l := 1) (g_updatePart hd ok) ?_) rfl
  rw [upd_to hd, dO_add]
  unfold lookBehind
  refine g_cast (g_bind (k := 1) (l := 0) (g_loadPart (Heap.get?_update_self (o := dO es n) (fun _ => dO (es ++ [e]) (n + 1)) hd (dO_live _ _))) ?_) rfl
  have : (dO (es ++ [e]) (n + 1)).data.pastItsLine = none := by
    show (if (es ++ [e]).toArray.size > sizeLine + 1 then _ else _) = _
    rw [if_neg]
    rw [List.size_toArray, List.length_append, List.length_singleton, sizeLine_eq]; omega
  rw [this]
  exact g_leaf
theorem g_put {d : Addr} {i : Int} {t : Tok} {h : Int} {v : Value} {es : List DictEntry} {n : Nat} (hd : s.heap.get? d = some (dO es n)) (ok : okA M d = true) (hs : es.length ≤ 1000000) (hn : ∀ e ∈ es, e.hash ≠ h) :
    Goes M 4 (dictPut d h (.int i t) v) s q () { s with heap := s.heap.update d (fun _ => dO (es ++ [⟨h, .int i t, v⟩]) (n + 1)) } q := by
  unfold dictPut
  exact g_cast (g_bind (k := 1) (l := 3) (g_find_none hd hn) (g_addKey hd ok hs)) rfl
theorem g_dset {d : Addr} {i : Int} {t : Tok} {v : Value} {es : List DictEntry} {n : Nat} (hM : M.tb = table) (hd : s.heap.get? d = some (dO es n)) (ok : okA M d = true) (hs : es.length ≤ 1000000) (hn : ∀ e ∈ es, e.hash ≠ hashInt i) :
    Goes M 10 (dictSet d (.int i t) v) s q () { s with heap := s.heap.update d (fun _ => dO (es ++ [⟨hashInt i, .int i t, v⟩]) (n + 1)), toks := s.toks + 1 } q := by
  unfold dictSet
  refine g_holding (g_cast (g_bind (k := 5) (l := 5) (g_pyHash_int hM) ?_) rfl)
  unfold dictSetHashed
  refine g_holding (g_cast (g_bind (k := 1) (l := 4) (g_find_none hd hn) ?_) rfl)
  exact g_cast (g_bind (k := 1) (l := 3) g_rule (g_addKey (s := { s with toks := s.toks + 1 }) hd ok hs)) rfl
noncomputable def mkE : Nat → List (Int × Str) → List DictEntry
  | _, [] => []
  | T, (k, v) :: r => ⟨hashInt k, .int k T, .str v (T + 1)⟩ :: mkE (T + 3) r
theorem mkE_length : ∀ (T : Nat) (l : List (Int × Str)), (mkE T l).length = l.length
  | _, [] => rfl
  | T, (k, v) :: r => by simp [mkE, mkE_length (T + 3) r]
theorem mkE_hash : ∀ (T : Nat) (l : List (Int × Str)), (mkE T l).map (·.hash) = l.map fun x => hashInt x.1
  | _, [] => rfl
  | T, (k, v) :: r => by simp [mkE, mkE_hash (T + 3) r]
noncomputable def valT (pos : Pos) (v : Str) : Sem Value := do let x ← mkText v; standAt pos; pure x
noncomputable def keyT (k : Int) : Sem Value := mkInt k
theorem g_valT {pos : Pos} {v : Str} : Goes M 2 (valT pos v) s q (.str v s.toks) { s with toks := s.toks + 1 } pos :=
  g_cast (g_bind (k := 1) (l := 1) (g_cast (g_bind (k := 1) (l := 0) g_fresh g_leaf) rfl) (g_cast (g_bind (k := 1) (l := 0) g_standAt g_leaf) rfl)) rfl
noncomputable def longBody (d : Addr) : Sem Value × Sem Value → PUnit → Sem (ForInStep PUnit) := fun x _ => match x with
  | (k, v) => do
    let kv ← k
    let vv ← PySem.holding [kv] v
    PySem.holding [kv, vv] (dictSet d kv vv)
    pure (ForInStep.yield PUnit.unit)
theorem g_longLoop {pos : Pos} (hM : M.tb = table) {d : Addr} (ok : okA M d = true) : ∀ (l : List (Int × Str)) (s : Shared) (es : List DictEntry) (n : Nat), s.heap.get? d = some (dO es n) → es.length + l.length ≤ 1000000 →
    (es.map (·.hash) ++ l.map fun x => hashInt x.1).Nodup →
    Goes M (13 * l.length) (forIn (l.map fun x => (keyT x.1, Mine.valT pos x.2)) PUnit.unit (longBody d)) s pos PUnit.unit
      { s with heap := s.heap.update d (fun _ => dO (es ++ mkE s.toks l) (n + l.length)), toks := s.toks + 3 * l.length } pos
  | [], s, es, n, hd, _, _ => by
    have e : s.heap.update d (fun _ => dO (es ++ mkE s.toks []) (n + ([] : List (Int × Str)).length)) = s.heap := by
      obtain ⟨e, _⟩ := Heap.get?_some_iff.mp hd
      generalize s.heap = h at e
      obtain ⟨objs, life⟩ := h
      show Heap.mk _ _ = Heap.mk _ _
      congr 1
      apply Array.ext_getElem?
      intro i
      rw [Array.getElem?_modify]
      by_cases q : d = i
      · subst q; simp only [if_true]; rw [show objs[d]? = _ from e]; simp [mkE]
      · simp only [if_neg q]
    rw [e]
    exact g_leaf
  | (k, v) :: r, s, es, n, hd, hs, hn => by
    have hk : ∀ e ∈ es, e.hash ≠ hashInt k := fun e he q => by
      rw [List.nodup_append] at hn
      exact hn.2.2 _ (List.mem_map_of_mem he) _ (List.mem_cons_self ..) q
    simp only [List.length_cons] at hs
    have ih := g_longLoop (pos := pos) hM ok r { s with heap := s.heap.update d (fun _ => dO (es ++ [⟨hashInt k, .int k s.toks, .str v (s.toks + 1)⟩]) (n + 1)), toks := s.toks + 3 }
      (es ++ [⟨hashInt k, .int k s.toks, .str v (s.toks + 1)⟩]) (n + 1) (Heap.get?_update_self (o := dO es n) _ hd (dO_live _ _)) (by simp only [List.length_append, List.length_singleton]; omega)
      (by simpa [List.append_assoc] using hn)
    rw [List.map_cons, List.forIn_cons]
    refine g_cast (g_bind (k := 13) (l := 13 * r.length) (a := ForInStep.yield PUnit.unit) (q₁ := pos) (s₁ := { s with heap := s.heap.update d (fun _ => dO (es ++ [⟨hashInt k, .int k s.toks, .str v (s.toks + 1)⟩]) (n + 1)), toks := s.toks + 3 }) ?_ ?_) (by simp only [List.length_cons]; omega)
    · refine g_cast (g_bind (k := 1) (l := 12) g_gMkInt ?_) rfl
      refine g_cast (g_bind (k := 2) (l := 10) (g_holding g_valT) ?_) rfl
      refine g_cast (g_bind (k := 10) (l := 0) (g_holding (g_dset (s := { s with toks := s.toks + 1 + 1 }) hM hd ok (by omega) hk)) g_leaf) rfl
    · dsimp only at ih ⊢
      rw [upd_upd] at ih
      have e1 : es ++ [⟨hashInt k, .int k s.toks, .str v (s.toks + 1)⟩] ++ mkE (s.toks + 3) r = es ++ mkE s.toks ((k, v) :: r) := by simp [mkE]
      have e2 : n + 1 + r.length = n + ((k, v) :: r).length := by simp only [List.length_cons]; omega
      have e3 : s.toks + 3 + 3 * r.length = s.toks + 3 * ((k, v) :: r).length := by simp only [List.length_cons]; omega
      rw [e1, e2, e3] at ih
      exact ih
theorem g_subLong {pos : Pos} (hM : M.tb = table) {l : List (Int × Str)} (hl : 15 < l.length) (hs : l.length ≤ 1000000) (hn : (l.map fun x => hashInt x.1).Nodup) (ok : okA M s.heap.objs.size = true) :
    Goes M (2 + 13 * l.length) (subDict (l.map fun x => (keyT x.1, Mine.valT pos x.2))) s pos s.heap.objs.size { s with heap := s.heap.push (dO (mkE s.toks l) l.length), toks := s.toks + 3 * l.length } pos := by
  unfold subDict
  refine g_cast (g_bind (k := 1) (l := 1 + 13 * l.length) g_alloc ?_) (by omega)
  refine g_cast (g_bind (k := 1 + 13 * l.length) (l := 0) (a := ()) (g_holding ?_) g_leaf) (by omega)
  rw [if_neg (by rw [List.length_map]; omega)]
  refine g_cast (g_bind (k := 1) (l := 13 * l.length) g_rule ?_) rfl
  have lp := g_longLoop (M := M) (pos := pos) hM (d := s.heap.objs.size) ok l { s with heap := s.heap.push (dO [] 0) } [] 0 (Heap.get?_push_size _ (dO_live _ _)) (by simpa using hs) (by simpa using hn)
  dsimp only at lp
  rw [upd_push] at lp
  simp only [List.nil_append, Nat.zero_add] at lp
  exact g_cast (g_bind (k := 13 * l.length) (l := 0) lp g_leaf) (by omega)
end
end Mine
end
section
open PySem PySem.W PyProof.Rows
namespace Mine
theorem upd_same {h : Heap} {d : Addr} {o : Obj} (hd : h.get? d = some o) : h.update d (fun _ => o) = h := by
  obtain ⟨e, _⟩ := Heap.get?_some_iff.mp hd
  obtain ⟨objs, life⟩ := h
  show Heap.mk _ _ = Heap.mk _ _
  congr 1
  apply Array.ext_getElem?
  intro i
  rw [Array.getElem?_modify]
  by_cases q : d = i
  · subst q; simp only [if_true]; rw [show objs[d]? = _ from e]; rfl
  · simp only [if_neg q]
section
variable {M : Mc} {α β : Type} {s s₁ s' : Shared} {q q₁ q' : Pos} {k l : Nat}
theorem g_forFrom {f : Nat → PUnit → Sem (ForInStep PUnit)} {c : Nat} (S : Nat → Shared) : ∀ (m i : Nat), (∀ j, i ≤ j → j < i + m → Goes M c (f j PUnit.unit) (S j) q (.yield PUnit.unit) (S (j + 1)) q) →
    Goes M (c * m) (forIn (List.range' i m) PUnit.unit f) (S i) q PUnit.unit (S (i + m)) q
  | 0, i, _ => g_leaf
  | m + 1, i, h => by
    rw [List.range'_succ, List.forIn_cons]
    have ih := g_forFrom (f := f) (c := c) S m (i + 1) (fun j h1 h2 => h j (by omega) (by omega))
    rw [show i + (m + 1) = i + 1 + m by omega]
    exact g_cast (g_bind (h i (Nat.le_refl _) (by omega)) ih) (by rw [Nat.mul_succ]; omega)
theorem g_forRange {f : Nat → PUnit → Sem (ForInStep PUnit)} {c n : Nat} (S : Nat → Shared) (h : ∀ j, j < n → Goes M c (f j PUnit.unit) (S j) q (.yield PUnit.unit) (S (j + 1)) q) :
    Goes M (c * n) (forIn (List.range n) PUnit.unit f) (S 0) q PUnit.unit (S n) q := by
  rw [List.range_eq_range']
  have h' := g_forFrom (M := M) (q := q) (f := f) (c := c) S n 0 (fun j _ h2 => h j (by omega))
  rw [Nat.zero_add] at h'
  exact h'
theorem sub_dd : isSubtype (.type "dict") (.type "dict") = pure true := by rw [isSubtype_type]; kernel_rfl
theorem it_dd : typeLookup (.type "dict") "__iter__" = pure (some (.builtin "dict.__iter__")) := by rw [typeLookup_type, builtinLookup_eq_fast]; kernel_rfl
theorem bltEq : (some (Value.builtin "dict.__iter__") == some (Value.builtin "dict.__iter__")) = true := by decide +kernel
theorem g_entries {d : Addr} {es : List DictEntry} {n : Nat} {pt : Option Value} (hd : s.heap.get? d = some (dO es n)) : Goes M 1 (dictEntries d pt) s q es.toArray s q := by
  unfold dictEntries; exact g_cast (g_bind (g_loadPart hd) g_leaf) rfl
theorem g_epoch {d : Addr} {es : List DictEntry} {n : Nat} {pt : Option Value} (hd : s.heap.get? d = some (dO es n)) : Goes M 1 (dictEpoch d pt) s q n s q := by
  unfold dictEpoch; exact g_cast (g_bind (g_loadPart hd) g_leaf) rfl
theorem g_typeOf {a : Addr} {o : Obj} (h : s.heap.get? a = some o) : Goes M 1 (typeOf (.ref a)) s q o.cls s q := by
  show Goes M 1 (do return (← loadPart a (some headPart)).cls) s q _ s q
  exact g_cast (g_bind (g_loadPart h) g_leaf) rfl
theorem g_merge {d a : Addr} {es ea : List DictEntry} {n na : Nat} (hd : s.heap.get? d = some (dO es n)) (ha : s.heap.get? a = some (dO ea na)) (hda : d ≠ a) (hne : es ≠ []) (hs : (a == sysModules) = false)
    (ok : okA M d = true) (hk : ∀ e ∈ ea, ∃ i t, e.key = .int i t) (hnd : ((es ++ ea).map (·.hash)).Nodup) (hsz : (es ++ ea).length ≤ 1000000) :
    Goes M (5 + 6 * ea.length) (mergeMapping d (.ref a) false) s q () { s with heap := s.heap.update d (fun _ => dO (es ++ ea) (n + ea.length)) } q := by
  unfold mergeMapping
  refine g_cast (g_bind (k := 1) (l := 4 + 6 * ea.length) (a := true) (s₁ := s) (q₁ := q) ?_ ?_) (by omega)
  · unfold isInstance
    refine g_cast (g_bind (g_typeOf ha) (k := 1) (l := 0) ?_) rfl
    exact g_of_eq sub_dd g_leaf
  simp only [if_true]
  refine g_cast (g_bind (k := 1) (l := 3 + 6 * ea.length) (a := some (.builtin "dict.__iter__")) (s₁ := s) (q₁ := q) ?_ ?_) (by omega)
  · unfold specialOf
    refine g_cast (g_bind (g_typeOf ha) (k := 1) (l := 0) ?_) rfl
    exact g_of_eq it_dd g_leaf
  refine g_cast (g_bind (k := 0) (l := 3 + 6 * ea.length) g_leaf ?_) (by omega)
  rw [bltEq]
  dsimp only
  rw [hs]
  simp only [Bool.false_eq_true, if_false]
  refine g_cast (g_bind (k := 1) (l := 2 + 6 * ea.length) (g_entries hd) ?_) (by omega)
  have he : es.toArray.isEmpty = false := by cases es with | nil => exact absurd rfl hne | cons => rfl
  rw [he]
  simp only [Bool.false_eq_true, if_false]
  refine g_cast (g_bind (k := 1) (l := 1 + 6 * ea.length) (g_entries ha) ?_) (by omega)
  refine g_cast (g_bind (k := 1) (l := 6 * ea.length) (g_epoch ha) ?_) (by omega)
  let S : Nat → Shared := fun i => { s with heap := s.heap.update d (fun _ => dO (es ++ ea.take i) (n + i)) }
  have hS0 : S 0 = s := by
    show ({ s with heap := s.heap.update d (fun _ => dO (es ++ ea.take 0) (n + 0)) } : Shared) = s
    rw [List.take_zero, List.append_nil, Nat.add_zero, upd_same hd]
  have hSn : S ea.length = { s with heap := s.heap.update d (fun _ => dO (es ++ ea) (n + ea.length)) } := by
    show ({ s with heap := s.heap.update d (fun _ => dO (es ++ ea.take ea.length) (n + ea.length)) } : Shared) = _
    rw [List.take_length]
  rw [← hSn]
  refine g_cast (g_bind (k := 6 * ea.length) (l := 0) (a := PUnit.unit) (s₁ := S ea.length) (q₁ := q) ?_ g_leaf) (by omega)
  have lp := fun f h => g_forRange (M := M) (q := q) (f := f) (c := 6) (n := ea.length) S h
  rw [hS0] at lp
  rw [show ea.toArray.size = ea.length from List.size_toArray ..]
  refine lp _ fun j hj => ?_
  have hdj : (S j).heap.get? d = some (dO (es ++ ea.take j) (n + j)) := Heap.get?_update_self (o := dO es n) _ hd (dO_live _ _)
  have haj : (S j).heap.get? a = some (dO ea na) := (Heap.get?_update_ne _ _ _ _ (Ne.symm hda)).trans ha
  refine g_cast (g_bind (k := 1) (l := 5) (g_entries haj) ?_) rfl
  have hj' : ea.toArray[j]? = some ea[j] := by rw [List.getElem?_toArray]; exact List.getElem?_eq_getElem hj
  rw [hj']
  dsimp only
  obtain ⟨i, t, hkey⟩ := hk ea[j] (List.getElem_mem hj)
  refine g_cast (g_bind (k := 4) (l := 1) (a := ()) (s₁ := S (j + 1)) (q₁ := q) (g_holding ?_) ?_) rfl
  · rw [hkey]
    have hput := g_put (M := M) (q := q) (t := t) (i := i) (h := ea[j].hash) (v := ea[j].val) hdj ok (by
      have : (ea.take j).length ≤ ea.length := by rw [List.length_take]; omega
      rw [List.length_append] at hsz ⊢; omega) (fun e he q => by
      have hnd' : ((es ++ ea.take j).map (·.hash) ++ (ea.drop j).map (·.hash)).Nodup := by
        rw [← List.map_append, List.append_assoc, List.take_append_drop]; exact hnd
      rw [List.nodup_append] at hnd'
      refine hnd'.2.2 _ (List.mem_map_of_mem he) ea[j].hash (List.mem_map_of_mem ?_) q
      rw [List.drop_eq_getElem_cons hj]
      exact List.mem_cons_self ..)
    have e : ({ (S j) with heap := (S j).heap.update d (fun _ => dO (es ++ ea.take j ++ [⟨ea[j].hash, .int i t, ea[j].val⟩]) (n + j + 1)) } : Shared) = S (j + 1) := by
      show ({ s with heap := (s.heap.update d _).update d _ } : Shared) = { s with heap := s.heap.update d _ }
      rw [upd_upd, List.append_assoc, ← hkey, List.take_add_one, List.getElem?_eq_getElem hj]
      rfl
    rw [e] at hput
    exact hput
  · have haj' : (S (j + 1)).heap.get? a = some (dO ea na) := (Heap.get?_update_ne _ _ _ _ (Ne.symm hda)).trans ha
    refine g_cast (g_bind (k := 1) (l := 0) (g_epoch haj') ?_) rfl
    rw [if_neg (by simp)]
    exact g_leaf
end
end Mine
end
section
open PySem PySem.W PyProof.Rows
namespace Mine
noncomputable def vsOf : Nat → List (Int × Str) → List (Value × Value)
  | _, [] => []
  | T, (k, v) :: r => (.int k T, .str v (T + 1)) :: vsOf (T + 2) r
noncomputable def mkS : Nat → List (Int × Str) → List DictEntry
  | _, [] => []
  | T, (k, v) :: r => ⟨hashInt k, .int k T, .str v (T + 1)⟩ :: mkS (T + 2) r
theorem mkS_length : ∀ (T : Nat) (l : List (Int × Str)), (mkS T l).length = l.length
  | _, [] => rfl
  | T, (k, v) :: r => by simp [mkS, mkS_length (T + 2) r]
theorem mkS_hash : ∀ (T : Nat) (l : List (Int × Str)), (mkS T l).map (·.hash) = l.map fun x => hashInt x.1
  | _, [] => rfl
  | T, (k, v) :: r => by simp [mkS, mkS_hash (T + 2) r]
theorem mkS_key : ∀ (T : Nat) (l : List (Int × Str)), ∀ e ∈ mkS T l, ∃ i t, e.key = .int i t
  | _, [], e, h => by cases h
  | T, (k, v) :: r, e, h => by
    rcases List.mem_cons.mp h with rfl | h
    · exact ⟨_, _, rfl⟩
    · exact mkS_key _ r e h
theorem mkE_key : ∀ (T : Nat) (l : List (Int × Str)), ∀ e ∈ mkE T l, ∃ i t, e.key = .int i t
  | _, [], e, h => by cases h
  | T, (k, v) :: r, e, h => by
    rcases List.mem_cons.mp h with rfl | h
    · exact ⟨_, _, rfl⟩
    · exact mkE_key _ r e h
section
variable {M : Mc} {α β : Type} {s s₁ s' : Shared} {q q₁ q' : Pos} {k l : Nat}
noncomputable abbrev prs (pos : Pos) (l : List (Int × Str)) : List (Sem Value × Sem Value) := l.map fun x => (keyT x.1, Mine.valT pos x.2)
theorem g_evalPairs {pos : Pos} : ∀ (l : List (Int × Str)) (s : Shared), Goes M (3 * l.length) (evalPairs (prs pos l)) s pos (vsOf s.toks l) { s with toks := s.toks + 2 * l.length } pos
  | [], s => g_leaf
  | (k, v) :: r, s => by
    have ih := g_evalPairs (pos := pos) r { s with toks := s.toks + 2 }
    show Goes M _ (do let kv ← keyT k; let vv ← holding [kv] (valT pos v); return (kv, vv) :: (← holding [kv, vv] (evalPairs (prs pos r)))) s pos _ _ pos
    refine g_cast (g_bind (k := 1) (l := 2 + 3 * r.length) g_gMkInt ?_) (by simp only [List.length_cons]; omega)
    refine g_cast (g_bind (k := 2) (l := 3 * r.length) (g_holding g_valT) ?_) (by omega)
    refine g_cast (g_bind (k := 3 * r.length) (l := 0) (a := vsOf (s.toks + 2) r) (q₁ := pos) (s₁ := { s with toks := s.toks + 2 * ((k, v) :: r).length }) (g_holding ?_) g_leaf) (by omega)
    have e : s.toks + 2 + 2 * r.length = s.toks + 2 * ((k, v) :: r).length := by simp only [List.length_cons]; omega
    dsimp only at ih
    rw [e] at ih
    exact ih
theorem g_setLoop {f : Value × Value → PUnit → Sem (ForInStep PUnit)} {d : Addr} (hM : M.tb = table) (ok : okA M d = true) (hf : ∀ x, f x PUnit.unit = (do dictSet d x.1 x.2; pure (ForInStep.yield PUnit.unit))) :
    ∀ (l : List (Int × Str)) (T : Nat) (s : Shared) (es : List DictEntry) (n : Nat), s.heap.get? d = some (dO es n) → es.length + l.length ≤ 1000000 → (es.map (·.hash) ++ l.map fun x => hashInt x.1).Nodup →
    Goes M (10 * l.length) (forIn (vsOf T l) PUnit.unit f) s q PUnit.unit { s with heap := s.heap.update d (fun _ => dO (es ++ mkS T l) (n + l.length)), toks := s.toks + l.length } q
  | [], T, s, es, n, hd, _, _ => by
    have e : ({ s with heap := s.heap.update d (fun _ => dO (es ++ mkS T []) (n + ([] : List (Int × Str)).length)), toks := s.toks + ([] : List (Int × Str)).length } : Shared) = s := by
      simp only [mkS, List.append_nil, List.length_nil, Nat.add_zero, upd_same hd]
    rw [e]
    exact g_leaf
  | (k, v) :: r, T, s, es, n, hd, hs, hn => by
    have hk : ∀ e ∈ es, e.hash ≠ hashInt k := fun e he q => by
      rw [List.nodup_append] at hn
      exact hn.2.2 _ (List.mem_map_of_mem he) _ (List.mem_cons_self ..) q
    simp only [List.length_cons] at hs
    have ih := g_setLoop hM ok hf r (T + 2) { s with heap := s.heap.update d (fun _ => dO (es ++ [⟨hashInt k, .int k T, .str v (T + 1)⟩]) (n + 1)), toks := s.toks + 1 }
      (es ++ [⟨hashInt k, .int k T, .str v (T + 1)⟩]) (n + 1) (Heap.get?_update_self (o := dO es n) _ hd (dO_live _ _)) (by simp only [List.length_append, List.length_singleton]; omega)
      (by simpa [List.append_assoc] using hn)
    show Goes M _ (forIn ((Value.int k T, Value.str v (T + 1)) :: vsOf (T + 2) r) PUnit.unit f) s q _ _ q
    rw [List.forIn_cons, hf]
    refine g_cast (g_bind (k := 10) (l := 10 * r.length) (g_cast (g_bind (k := 10) (l := 0) (g_dset hM hd ok (by omega) hk) g_leaf) rfl) ?_) (by simp only [List.length_cons]; omega)
    dsimp only at ih ⊢
    rw [upd_upd] at ih
    have e1 : es ++ [⟨hashInt k, .int k T, .str v (T + 1)⟩] ++ mkS (T + 2) r = es ++ mkS T ((k, v) :: r) := by simp [mkS]
    have e2 : n + 1 + r.length = n + ((k, v) :: r).length := by simp only [List.length_cons]; omega
    have e3 : s.toks + 1 + r.length = s.toks + ((k, v) :: r).length := by simp only [List.length_cons]; omega
    rw [e1, e2, e3] at ih
    exact ih
theorem g_subShort {pos : Pos} (hM : M.tb = table) {l : List (Int × Str)} (hl : l.length ≤ 15) (hn : (l.map fun x => hashInt x.1).Nodup) (ok : okA M s.heap.objs.size = true) :
    Goes M (1 + 13 * l.length) (subDict (prs pos l)) s pos s.heap.objs.size { s with heap := s.heap.push (dO (mkS s.toks l) l.length), toks := s.toks + 3 * l.length } pos := by
  unfold subDict
  refine g_cast (g_bind (k := 1) (l := 13 * l.length) g_alloc ?_) (by omega)
  refine g_cast (g_bind (k := 13 * l.length) (l := 0) (a := ()) (g_holding ?_) g_leaf) (by omega)
  rw [if_pos (by rw [List.length_map]; exact hl)]
  refine g_cast (g_bind (k := 3 * l.length) (l := 10 * l.length) (g_evalPairs l _) ?_) (by omega)
  refine g_holding (g_cast (g_bind (k := 10 * l.length) (l := 0) (a := PUnit.unit) (q₁ := pos) (s₁ := { s with heap := s.heap.push (dO (mkS s.toks l) l.length), toks := s.toks + 3 * l.length }) ?_ g_leaf) (by omega))
  have lp := fun f hf => g_setLoop (M := M) (q := pos) (f := f) hM (d := s.heap.objs.size) ok hf l s.toks { s with heap := s.heap.push (dO [] 0), toks := s.toks + 2 * l.length } [] 0 (Heap.get?_push_size _ (dO_live _ _)) (by simp; omega) (by simpa using hn)
  dsimp only at lp
  rw [upd_push] at lp
  simp only [List.nil_append, Nat.zero_add] at lp
  rw [show s.toks + 2 * l.length + l.length = s.toks + 3 * l.length by omega] at lp
  exact lp _ (fun x => rfl)
end
noncomputable def addAll (h : Heap) (l : List Obj) : Heap := ⟨h.objs ++ l.toArray, h.life⟩
theorem addAll_push (h : Heap) (l : List Obj) (o : Obj) : (addAll h l).push o = addAll h (l ++ [o]) := by
  show Heap.mk _ _ = Heap.mk _ _
  congr 1
  simp [addAll]
theorem addAll_nil (h : Heap) : addAll h [] = h := by simp [addAll]
theorem addAll_one (h : Heap) (o : Obj) : h.push o = addAll h [o] := by
  have := addAll_push h [] o
  rw [addAll_nil] at this; exact this
theorem addAll_size (h : Heap) (l : List Obj) : (addAll h l).objs.size = h.objs.size + l.length := by simp [addAll]
theorem addAll_upd (h : Heap) (o o' : Obj) (l : List Obj) : (addAll h (o :: l)).update h.objs.size (fun _ => o') = addAll h (o' :: l) := by
  show Heap.mk _ _ = Heap.mk _ _
  congr 1
  apply Array.ext_getElem?
  intro i
  rw [Array.getElem?_modify]
  simp only [addAll, Array.getElem?_append, List.getElem?_toArray]
  by_cases q : h.objs.size = i
  · subst q; simp
  · by_cases q2 : i < h.objs.size
    · simp [q, q2]
    · have : i - h.objs.size = (i - h.objs.size - 1) + 1 := by omega
      rw [if_neg q2, if_neg q, if_neg q2, this]; rfl
theorem addAll_get {h : Heap} {l : List Obj} {i : Nat} {o : Obj} (e : l[i]? = some o) (hf : o.isFreed = false) : (addAll h l).get? (h.objs.size + i) = some o := by
  refine Heap.get?_some_iff.mpr ⟨?_, hf⟩
  simp only [addAll, Array.getElem?_append, List.getElem?_toArray]
  rw [if_neg (by omega), Nat.add_sub_cancel_left]; exact e
theorem addAll_old {h : Heap} {l : List Obj} {a : Addr} {o : Obj} (e : h.get? a = some o) : (addAll h l).get? a = some o := by
  have lt := Heap.lt_size e
  obtain ⟨e1, e2⟩ := Heap.get?_some_iff.mp e
  refine Heap.get?_some_iff.mpr ⟨?_, e2⟩
  simp only [addAll, Array.getElem?_append]
  rw [if_pos lt]; exact e1
structure Dsp where
  ms : List DictEntry
  subs : List Obj
  T : Nat
noncomputable def Dsp.heap (H : Heap) (D : Dsp) : Heap := addAll H (dO D.ms D.ms.length :: D.subs)
noncomputable def Dsp.more (D : Dsp) (c : List (Int × Str)) : Dsp := ⟨D.ms ++ mkE D.T c, D.subs ++ [dO (mkE D.T c) c.length], D.T + 3 * c.length⟩
noncomputable def Dsp.last (D : Dsp) (c : List (Int × Str)) : Dsp := ⟨D.ms ++ mkS D.T c, D.subs ++ [dO (mkS D.T c) c.length], D.T + 3 * c.length⟩
noncomputable def Dsp.all : Nat → Dsp → List (Int × Str) → Dsp
  | 0, D, l => D.last l
  | n + 1, D, l => Dsp.all n (D.more (l.take 17)) (l.drop 17)
noncomputable def Dsp.start (T : Nat) (c : List (Int × Str)) : Dsp := ⟨mkE T c, [], T + 3 * c.length⟩
end Mine
end
section
open PySem PySem.W PyProof.Rows
namespace Mine
noncomputable def dflush (run : List (Sem Value × Sem Value)) (main : Option Addr) : Sem (Option Addr) := do
  if run.isEmpty then return main
  match main with
  | none => return some (← subDict run)
  | some d =>
    let sub ← holding [.ref d] (subDict run)
    (holding [.ref d, .ref sub] (mergeMapping d (.ref sub) false)).onRaise fun x => do let _ ← holding [.ref d, x] (runValue (.builtin "proto.let_go" {}))
    return some d
section
variable {M : Mc} {s s₁ s' : Shared} {q q₁ q' : Pos} {k l : Nat} {H : Heap}
theorem g_flush0 {pos : Pos} (hM : M.tb = table) {c : List (Int × Str)} (hl : 15 < c.length) (hs : c.length ≤ 1000000) (hn : (c.map fun x => hashInt x.1).Nodup) (ok : okA M s.heap.objs.size = true) :
    Goes M (2 + 13 * c.length) (dflush (prs pos c) none) s pos (some s.heap.objs.size) { s with heap := (Dsp.start s.toks c).heap s.heap, toks := (Dsp.start s.toks c).T } pos := by
  unfold dflush
  rw [if_neg (by cases c with | nil => simp at hl | cons => simp [prs])]
  have e : (Dsp.start s.toks c).heap s.heap = s.heap.push (dO (mkE s.toks c) c.length) := by
    unfold Dsp.heap; rw [addAll_one]; simp [Dsp.start, mkE_length]
  rw [e]
  exact g_cast (g_bind (k := 2 + 13 * c.length) (l := 0) (g_subLong hM hl hs hn ok) g_leaf) (by omega)
theorem g_flush1 {pos : Pos} (hM : M.tb = table) {D : Dsp} {c : List (Int × Str)} (hH : s.heap = D.heap H) (hT : s.toks = D.T) (hl : 15 < c.length) (hs : (D.ms.length + c.length) ≤ 1000000)
    (hn : (D.ms.map (·.hash) ++ c.map fun x => hashInt x.1).Nodup) (hne : D.ms ≠ []) (okd : okA M H.objs.size = true) (ok : okA M s.heap.objs.size = true) (hsys : (s.heap.objs.size == sysModules) = false) :
    Goes M (7 + 19 * c.length) (dflush (prs pos c) (some H.objs.size)) s pos (some H.objs.size) { s with heap := (D.more c).heap H, toks := (D.more c).T } pos := by
  unfold dflush
  rw [if_neg (by cases c with | nil => simp at hl | cons => simp [prs])]
  dsimp only
  refine g_cast (g_bind (k := 2 + 13 * c.length) (l := 5 + 6 * c.length) (g_holding (g_subLong hM hl (by omega) (List.nodup_append.mp hn).2.1 ok)) ?_) (by omega)
  have sz : s.heap.objs.size = H.objs.size + (D.subs.length + 1) := by rw [hH, Dsp.heap, addAll_size, List.length_cons]
  have e1 : s.heap.push (dO (mkE s.toks c) c.length) = addAll H (dO D.ms D.ms.length :: (D.subs ++ [dO (mkE D.T c) c.length])) := by rw [hH, hT, Dsp.heap, addAll_push]; rfl
  have hm := g_merge (M := M) (q := pos) (s := { s with heap := s.heap.push (dO (mkE s.toks c) c.length), toks := s.toks + 3 * c.length }) (d := H.objs.size) (a := s.heap.objs.size) (es := D.ms) (n := D.ms.length) (ea := mkE D.T c) (na := c.length)
    (by rw [e1]; exact addAll_get (i := 0) rfl (dO_live _ _)) (by rw [hT]; exact Heap.get?_push_size _ (dO_live _ _)) (by rw [sz]; exact Nat.ne_of_lt (by omega)) hne hsys okd (mkE_key _ _)
    (by rw [List.map_append, mkE_hash]; exact hn) (by rw [List.length_append, mkE_length]; exact hs)
  rw [mkE_length] at hm
  dsimp only at hm
  rw [e1, addAll_upd] at hm
  refine g_cast (g_bind (k := 5 + 6 * c.length) (l := 0) (a := ()) (q₁ := pos) (s₁ := { s with heap := (D.more c).heap H, toks := (D.more c).T }) (g_onRaise (g_holding ?_)) g_leaf) (by omega)
  have e2 : (D.more c).heap H = addAll H (dO (D.ms ++ mkE D.T c) (D.ms.length + c.length) :: (D.subs ++ [dO (mkE D.T c) c.length])) := by
    unfold Dsp.heap Dsp.more; rw [List.length_append, mkE_length]
  have e3 : (D.more c).T = s.toks + 3 * c.length := by rw [hT]; rfl
  rw [e2, e3, e1]
  exact hm
theorem g_flush2 {pos : Pos} (hM : M.tb = table) {D : Dsp} {c : List (Int × Str)} (hH : s.heap = D.heap H) (hT : s.toks = D.T) (hl : c.length ≤ 15) (hc : c ≠ []) (hs : (D.ms.length + c.length) ≤ 1000000)
    (hn : (D.ms.map (·.hash) ++ c.map fun x => hashInt x.1).Nodup) (hne : D.ms ≠ []) (okd : okA M H.objs.size = true) (ok : okA M s.heap.objs.size = true) (hsys : (s.heap.objs.size == sysModules) = false) :
    Goes M (6 + 19 * c.length) (dflush (prs pos c) (some H.objs.size)) s pos (some H.objs.size) { s with heap := (D.last c).heap H, toks := (D.last c).T } pos := by
  unfold dflush
  rw [if_neg (by cases c with | nil => exact absurd rfl hc | cons => simp [prs])]
  dsimp only
  refine g_cast (g_bind (k := 1 + 13 * c.length) (l := 5 + 6 * c.length) (g_holding (g_subShort hM hl (List.nodup_append.mp hn).2.1 ok)) ?_) (by omega)
  have sz : s.heap.objs.size = H.objs.size + (D.subs.length + 1) := by rw [hH, Dsp.heap, addAll_size, List.length_cons]
  have e1 : s.heap.push (dO (mkS s.toks c) c.length) = addAll H (dO D.ms D.ms.length :: (D.subs ++ [dO (mkS D.T c) c.length])) := by rw [hH, hT, Dsp.heap, addAll_push]; rfl
  have hm := g_merge (M := M) (q := pos) (s := { s with heap := s.heap.push (dO (mkS s.toks c) c.length), toks := s.toks + 3 * c.length }) (d := H.objs.size) (a := s.heap.objs.size) (es := D.ms) (n := D.ms.length) (ea := mkS D.T c) (na := c.length)
    (by rw [e1]; exact addAll_get (i := 0) rfl (dO_live _ _)) (by rw [hT]; exact Heap.get?_push_size _ (dO_live _ _)) (by rw [sz]; exact Nat.ne_of_lt (by omega)) hne hsys okd (mkS_key _ _)
    (by rw [List.map_append, mkS_hash]; exact hn) (by rw [List.length_append, mkS_length]; exact hs)
  rw [mkS_length] at hm
  dsimp only at hm
  rw [e1, addAll_upd] at hm
  refine g_cast (g_bind (k := 5 + 6 * c.length) (l := 0) (a := ()) (q₁ := pos) (s₁ := { s with heap := (D.last c).heap H, toks := (D.last c).T }) (g_onRaise (g_holding ?_)) g_leaf) (by omega)
  have e2 : (D.last c).heap H = addAll H (dO (D.ms ++ mkS D.T c) (D.ms.length + c.length) :: (D.subs ++ [dO (mkS D.T c) c.length])) := by
    unfold Dsp.heap Dsp.last; rw [List.length_append, mkS_length]
  have e3 : (D.last c).T = s.toks + 3 * c.length := by rw [hT]; rfl
  rw [e2, e3, e1]
  exact hm
noncomputable abbrev itm (pos : Pos) (l : List (Int × Str)) : List (Option (Sem Value) × Sem Value) := l.map fun x => (some (keyT x.1), Mine.valT pos x.2)
noncomputable abbrev DSt := Option Addr × List (Sem Value × Sem Value)
variable {f : Option (Sem Value) × Sem Value → DSt → Sem (ForInStep DSt)}
theorem fill_eq {pos : Pos} (hf1 : ∀ k v (st : DSt), st.2.length + 1 ≠ 17 → f (some k, v) st = pure (.yield (st.1, st.2 ++ [(k, v)]))) : ∀ (A : List (Int × Str)) (rest : List (Option (Sem Value) × Sem Value)) (main : Option Addr) (run : List (Sem Value × Sem Value)),
    run.length + A.length < 17 → forIn (itm pos A ++ rest) ((main, run) : DSt) f = forIn rest ((main, run ++ prs pos A) : DSt) f
  | [], rest, main, run, _ => by simp [prs, itm]
  | (k, v) :: r, rest, main, run, h => by
    simp only [List.length_cons] at h
    have ih := fill_eq (pos := pos) hf1 r rest main (run ++ [(keyT k, Mine.valT pos v)]) (by simp only [List.length_append, List.length_singleton]; omega)
    show forIn ((some (keyT k), Mine.valT pos v) :: (itm pos r ++ rest)) ((main, run) : DSt) f = _
    rw [List.forIn_cons, hf1 _ _ _ (by dsimp only; omega)]
    show forIn (itm pos r ++ rest) ((main, run ++ [(keyT k, Mine.valT pos v)]) : DSt) f = _
    rw [ih, List.append_assoc]
    rfl
theorem full_eq {pos : Pos} (hf1 : ∀ k v (st : DSt), st.2.length + 1 ≠ 17 → f (some k, v) st = pure (.yield (st.1, st.2 ++ [(k, v)])))
    (hf2 : ∀ k v (st : DSt), st.2.length + 1 = 17 → f (some k, v) st = (dflush (st.2 ++ [(k, v)]) st.1 >>= fun m => pure (.yield (m, [])))) (c : List (Int × Str)) (hc : c.length = 17) (rest : List (Option (Sem Value) × Sem Value)) (main : Option Addr) :
    forIn (itm pos c ++ rest) ((main, []) : DSt) f = (dflush (prs pos c) main >>= fun m => forIn rest ((m, []) : DSt) f) := by
  have hsplit : c = c.take 16 ++ c.drop 16 := (List.take_append_drop 16 c).symm
  obtain ⟨x, hx⟩ : ∃ x, c.drop 16 = [x] := by
    have : (c.drop 16).length = 1 := by rw [List.length_drop, hc]
    exact List.length_eq_one_iff.mp this
  have e1 : itm pos c ++ rest = itm pos (c.take 16) ++ ((some (keyT x.1), Mine.valT pos x.2) :: rest) := by
    conv => lhs; rw [hsplit, hx]
    simp [itm]
  have e2 : prs pos c = prs pos (c.take 16) ++ [(keyT x.1, Mine.valT pos x.2)] := by
    conv => lhs; rw [hsplit, hx]
    simp [prs]
  have hl : (c.take 16).length = 16 := by rw [List.length_take, hc]; rfl
  rw [e1, fill_eq hf1 _ _ _ _ (by simp only [List.length_nil]; omega), List.forIn_cons, hf2 _ _ _ (by simp [prs, hc]), List.nil_append, ← e2]
  simp only [bind_assoc, pure_bind]
theorem g_disp {pos : Pos} (hM : M.tb = table) (hf1 : ∀ k v (st : DSt), st.2.length + 1 ≠ 17 → f (some k, v) st = pure (.yield (st.1, st.2 ++ [(k, v)])))
    (hf2 : ∀ k v (st : DSt), st.2.length + 1 = 17 → f (some k, v) st = (dflush (st.2 ++ [(k, v)]) st.1 >>= fun m => pure (.yield (m, [])))) (okd : ∀ a, H.objs.size ≤ a → okA M a = true) (hsys : 2 ≤ H.objs.size) :
    ∀ (n : Nat) (L : List (Int × Str)) (D : Dsp) (s : Shared), s.heap = D.heap H → s.toks = D.T → 17 * n < L.length → L.length ≤ 17 * n + 15 → (D.ms.length + L.length) ≤ 1000000 → (D.ms.map (·.hash) ++ L.map fun x => hashInt x.1).Nodup → D.ms ≠ [] →
    Goes M (330 * n + (6 + 19 * (L.length - 17 * n))) (forIn (itm pos L) ((some H.objs.size, []) : DSt) f >>= fun st => dflush st.2 st.1) s pos (some H.objs.size) { s with heap := (Dsp.all n D L).heap H, toks := (Dsp.all n D L).T } pos
  | 0, L, D, s, hH, hT, h1, h2, hs, hn, hne => by
    have e := fill_eq (pos := pos) hf1 L [] (some H.objs.size) [] (by simp only [List.length_nil]; omega)
    rw [List.append_nil] at e
    rw [e]
    have sz : s.heap.objs.size = H.objs.size + (D.subs.length + 1) := by rw [hH, Dsp.heap, addAll_size, List.length_cons]
    show Goes M _ (dflush ([] ++ prs pos L) (some H.objs.size)) s pos _ _ pos
    rw [List.nil_append]
    refine g_cast (g_flush2 hM hH hT (by omega) (by rintro rfl; simp at h1) hs hn hne (okd _ (Nat.le_refl _)) (okd _ (by omega)) ?_) (by omega)
    rw [sz, beq_eq_false_iff_ne]; show _ ≠ 1; omega
  | n + 1, L, D, s, hH, hT, h1, h2, hs, hn, hne => by
    have hsp : L = L.take 17 ++ L.drop 17 := (List.take_append_drop 17 L).symm
    have hl : (L.take 17).length = 17 := by rw [List.length_take]; omega
    have e : itm pos L = itm pos (L.take 17) ++ itm pos (L.drop 17) := by
      conv => lhs; rw [hsp]
      simp [itm]
    rw [e, full_eq hf1 hf2 _ hl, bind_assoc]
    have sz : s.heap.objs.size = H.objs.size + (D.subs.length + 1) := by rw [hH, Dsp.heap, addAll_size, List.length_cons]
    have hn' : (D.ms.map (·.hash) ++ ((L.take 17).map (fun x => hashInt x.1) ++ (L.drop 17).map (fun x => hashInt x.1))).Nodup := by
      rw [← List.map_append, List.take_append_drop]; exact hn
    have hll : (L.drop 17).length = L.length - 17 := List.length_drop ..
    have hmsl : (D.more (L.take 17)).ms.length = D.ms.length + 17 := by
      show (D.ms ++ mkE D.T (L.take 17)).length = _
      rw [List.length_append, mkE_length, hl]
    have ih := g_disp (pos := pos) hM hf1 hf2 okd hsys n (L.drop 17) (D.more (L.take 17)) { s with heap := (D.more (L.take 17)).heap H, toks := (D.more (L.take 17)).T } rfl rfl (by omega) (by omega) (by omega)
      (by show ((D.ms ++ mkE D.T (L.take 17)).map (·.hash) ++ _).Nodup
          rw [List.map_append, mkE_hash, List.append_assoc]; exact hn') (by
          show D.ms ++ mkE D.T (L.take 17) ≠ []
          simp [hne])
    refine g_cast (g_bind (k := 330) (g_cast (g_flush1 hM hH hT (by omega) (by omega) ?_ hne (okd _ (Nat.le_refl _)) (okd _ (by omega)) ?_) (by omega)) ih) (by omega)
    · rw [← List.append_assoc] at hn'
      exact (List.nodup_append.mp hn').1
    · rw [sz, beq_eq_false_iff_ne]; show _ ≠ 1; omega
end
end Mine
end
section
open PySem PySem.W PyProof.Rows
namespace Mine
noncomputable def intLit : Option Expr → Option Int
  | some (.Constant c _ _) => match c with
    | .int k => some k
    | _ => none
  | _ => none
noncomputable def strLit : Expr → Option Str
  | .Constant c _ _ => match c with
    | .str v => some v
    | _ => none
  | _ => none
theorem intLit_some {e : Option Expr} {k : Int} (h : intLit e = some k) : ∃ a b, e = some (.Constant (.int k) a b) := by
  unfold intLit at h
  split at h
  · split at h
    · cases h; exact ⟨_, _, rfl⟩
    · cases h
  · cases h
theorem strLit_some {e : Expr} {k : Str} (h : strLit e = some k) : ∃ a b, e = .Constant (.str k) a b := by
  unfold strLit at h
  split at h
  · split at h
    · cases h; exact ⟨_, _, rfl⟩
    · cases h
  · cases h
noncomputable def isPairs : List (Option Expr) → List Expr → Option (List (Int × Str))
  | [], [] => some []
  | e :: ks, v :: vs => (intLit e).bind fun k => (strLit v).bind fun s => (isPairs ks vs).map ((k, s) :: ·)
  | [], _ :: _ => none
  | _ :: _, [] => none
theorem pairs_items {env : Env} {pos : Pos} : ∀ {ks : List (Option Expr)} {vs : List Expr} {L : List (Int × Str)}, isPairs ks vs = some L →
    ((evalEachOpt ks env).zip ((evalEach vs env).map fun v => do let x ← v; standAt pos; pure x)) = itm pos L
  | [], [], L, h => by cases h; rfl
  | [], _ :: _, L, h => by cases h
  | _ :: _, [], L, h => by cases h
  | e :: ks, v :: vs, L, h => by
    obtain ⟨k, h1, h2⟩ := Option.bind_eq_some_iff.mp (show (intLit e).bind (fun k => (strLit v).bind fun s => (isPairs ks vs).map ((k, s) :: ·)) = some L from h)
    obtain ⟨s, h3, h4⟩ := Option.bind_eq_some_iff.mp h2
    obtain ⟨L', h5, rfl⟩ := Option.map_eq_some_iff.mp h4
    obtain ⟨a, b, rfl⟩ := intLit_some h1
    obtain ⟨a', b', rfl⟩ := strLit_some h3
    have ih := pairs_items (env := env) (pos := pos) h5
    show (some (constValue env (.int k)), (do let x ← constValue env (.str s); standAt pos; pure x)) :: ((evalEachOpt ks env).zip ((evalEach vs env).map fun v => do let x ← v; standAt pos; pure x)) = _
    rw [ih]; rfl
section
variable {M : Mc} {s s₁ s' : Shared} {q q₁ q' : Pos} {k l : Nat}
noncomputable def dispOf (T : Nat) (L : List (Int × Str)) (n : Nat) : Dsp := Dsp.all n (Dsp.start T (L.take 17)) (L.drop 17)
theorem g_display {pos : Pos} {n : Nat} {L : List (Int × Str)} (hM : M.tb = table) (okd : ∀ a, s.heap.objs.size ≤ a → okA M a = true) (hsys : 2 ≤ s.heap.objs.size) (h1 : 17 * n < L.length - 17) (h2 : L.length - 17 ≤ 17 * n + 15) (hs : L.length ≤ 1000000)
    (hn : (L.map fun x => hashInt x.1).Nodup) :
    Goes M (223 + (330 * n + (6 + 19 * (L.length - 17 - 17 * n)))) (dictDisplay (itm pos L)) s pos (.ref s.heap.objs.size) { s with heap := (dispOf s.toks L n).heap s.heap, toks := (dispOf s.toks L n).T } pos := by
  unfold dictDisplay
  have hsp : L = L.take 17 ++ L.drop 17 := (List.take_append_drop 17 L).symm
  have hl : (L.take 17).length = 17 := by rw [List.length_take]; omega
  have hll : (L.drop 17).length = L.length - 17 := List.length_drop ..
  have e : itm pos L = itm pos (L.take 17) ++ itm pos (L.drop 17) := by
    conv => lhs; rw [hsp]
    simp [itm]
  have hn' : ((L.take 17).map (fun x => hashInt x.1) ++ (L.drop 17).map (fun x => hashInt x.1)).Nodup := by
    rw [← List.map_append, List.take_append_drop]; exact hn
  rw [e]
  dsimp only
  have key : ∀ f : Option (Sem Value) × Sem Value → DSt → Sem (ForInStep DSt), (∀ k v (st : DSt), st.2.length + 1 ≠ 17 → f (some k, v) st = pure (.yield (st.1, st.2 ++ [(k, v)]))) →
      (∀ k v (st : DSt), st.2.length + 1 = 17 → f (some k, v) st = (dflush (st.2 ++ [(k, v)]) st.1 >>= fun m => pure (.yield (m, [])))) →
      Goes M (223 + (330 * n + (6 + 19 * (L.length - 17 - 17 * n)))) (forIn (itm pos (L.take 17) ++ itm pos (L.drop 17)) ((none, []) : DSt) f >>= fun st => dflush st.2 st.1 >>= fun r => match r with | some d => pure (.ref d) | none => newDict) s pos (.ref s.heap.objs.size) { s with heap := (dispOf s.toks L n).heap s.heap, toks := (dispOf s.toks L n).T } pos := by
    intro f hf1 hf2
    rw [full_eq hf1 hf2 _ hl, bind_assoc]
    have f0 := g_flush0 (M := M) (s := s) (pos := pos) hM (c := L.take 17) (by omega) (by omega) (List.nodup_append.mp hn').1 (okd _ (Nat.le_refl _))
    refine g_cast (g_bind (k := 223) (g_cast f0 (by omega)) ?_) rfl
    rw [← bind_assoc]
    refine g_cast (g_bind (k := 330 * n + (6 + 19 * (L.length - 17 - 17 * n))) (l := 0) (a := some s.heap.objs.size) (q₁ := pos) (s₁ := { s with heap := (dispOf s.toks L n).heap s.heap, toks := (dispOf s.toks L n).T }) ?_ g_leaf) rfl
    have d := g_disp (M := M) (H := s.heap) (f := f) (pos := pos) hM hf1 hf2 okd hsys n (L.drop 17) (Dsp.start s.toks (L.take 17)) { s with heap := (Dsp.start s.toks (L.take 17)).heap s.heap, toks := (Dsp.start s.toks (L.take 17)).T } rfl rfl (by omega) (by omega)
      (by show (mkE s.toks (L.take 17)).length + _ ≤ _; rw [mkE_length]; omega) (by show ((mkE s.toks (L.take 17)).map (·.hash) ++ _).Nodup; rw [mkE_hash]; exact hn')
      (by
        intro q
        have : (mkE s.toks (L.take 17)).length = 0 := by rw [show mkE s.toks (L.take 17) = [] from q]; rfl
        rw [mkE_length] at this; omega)
    rw [hll] at d
    exact d
  refine key _ (fun k v st h => ?_) (fun k v st h => ?_)
  · show (if ((st.2 ++ [(k, v)]).length == 17) = true then _ else _) = _
    rw [if_neg (by simpa using h)]
  · show (if ((st.2 ++ [(k, v)]).length == 17) = true then _ else _) = _
    rw [if_pos (by simpa using h)]
    rfl
theorem g_nsSet {ns : Addr} {x : Str} {v : Value} {o : Obj} {es : Array DictEntry} {n : Nat} (ho : s.heap.get? ns = some o) (hd : o.data = .dict es n) (hr : aRefKeyMayBeTheName x es = false) (ok : okA M ns = true) :
    Goes M 4 (nsSet ns x v) s q () { s with heap := s.heap.update ns (Obj.putName x (if x.cps.isEmpty then 0 else reduceHash (M.w.params.strHash x.cps)) (.str x s.toks) v), toks := s.toks + 1 } q := by
  unfold nsSet
  refine g_cast (g_bind (k := 1) (l := 3) (g_cast (g_bind (k := 1) (l := 0) g_ask g_leaf) rfl) ?_) rfl
  refine g_cast (g_bind (k := 1) (l := 2) (g_cast (g_bind (k := 1) (l := 0) g_fresh g_leaf) rfl) ?_) rfl
  refine g_cast (g_bind (k := 1) (l := 1) (g_loadPart ho) ?_) rfl
  rw [hd]
  dsimp only
  rw [hr]
  simp only [Bool.false_eq_true, if_false]
  exact g_updatePart (s := { s with toks := s.toks + 1 }) ho ok
noncomputable def afterB (x : Str) (L : List (Int × Str)) (n : Nat) (P : Params) (s : Shared) : Shared :=
  { s with heap := ((dispOf s.toks L n).heap s.heap).update mainNs (Obj.putName x (if x.cps.isEmpty then 0 else reduceHash (P.strHash x.cps)) (.str x (dispOf s.toks L n).T) (.ref s.heap.objs.size)), toks := (dispOf s.toks L n).T + 1 }
noncomputable def stepsB (L : List (Int × Str)) (n : Nat) : Nat := 9 + (223 + (330 * n + (6 + 19 * (L.length - 17 - 17 * n))))
theorem g_stmt {env : Env} {x : Str} {p p' pos : Pos} {ks : List (Option Expr)} {vs : List Expr} {L : List (Int × Str)} {n : Nat} {o : Obj} {es : Array DictEntry} {ep : Nat} (hM : M.tb = table) (hL : isPairs ks vs = some L) (hst : ∀ v, storeName env x v = nsSet mainNs x v)
    (okd : ∀ a, s.heap.objs.size ≤ a → okA M a = true) (hsys : 2 ≤ s.heap.objs.size) (h1 : 17 * n < L.length - 17) (h2 : L.length - 17 ≤ 17 * n + 15) (hs : L.length ≤ 1000000)
    (hn : (L.map fun x => hashInt x.1).Nodup) (ho : s.heap.get? mainNs = some o) (hd : o.data = .dict es ep) (hr : aRefKeyMayBeTheName x es = false) (ok : okA M mainNs = true) :
    Goes M (stepsB L n) (exec (.Assign [.Name x p'] (.Dict ks vs pos) p) env) s q Flow.next (afterB x L n M.w.params s) p' := by
  rw [exec_Assign_Name env x p' (Expr.Dict ks vs pos) p rfl]
  refine g_cast (g_bind (k := 1) (l := 8 + (223 + (330 * n + (6 + 19 * (L.length - 17 - 17 * n))))) g_standAt ?_) (by unfold stepsB; omega)
  refine g_cast (g_bind (k := 1 + (223 + (330 * n + (6 + 19 * (L.length - 17 - 17 * n))))) (l := 7) (a := .ref s.heap.objs.size) (q₁ := pos) (s₁ := { s with heap := (dispOf s.toks L n).heap s.heap, toks := (dispOf s.toks L n).T }) ?_ ?_) (by omega)
  · show Goes M _ (standAt pos >>= fun _ => dictDisplay ((evalEachOpt ks env).zip ((evalEach vs env).map fun v => do let x ← v; standAt pos; pure x))) s p _ _ pos
    rw [pairs_items hL]
    exact g_bind (k := 1) g_standAt (g_display hM okd hsys h1 h2 hs hn)
  have hm : ((dispOf s.toks L n).heap s.heap).get? mainNs = some o := addAll_old ho
  refine g_cast (g_bind (k := 1) (l := 6) g_standAt ?_) rfl
  refine g_cast (g_bind (k := 6) (l := 0) (a := ()) (q₁ := p') (s₁ := afterB x L n M.w.params s) ?_ g_leaf) rfl
  unfold bindName
  refine g_cast (g_bind (k := 1) (l := 5) (g_holding g_point) ?_) rfl
  rw [hst]
  exact g_cast (g_bind (k := 4) (l := 1) (g_nsSet (s := { s with heap := (dispOf s.toks L n).heap s.heap, toks := (dispOf s.toks L n).T }) hm hd hr ok) g_point) rfl
theorem piece_of_goes {tb : String → Option Builtin} {p : Program} {w : World} {n₀ : Nat} {ann : Option Value} {st : Stmt} {env : Env} {c : Code} {pos p' qq : Pos} {k : Nat} {s s' : Shared} (h : Goes ⟨tb, p, w, n₀, ann, 1⟩ k (exec st env) s pos .next s' p') :
    segRun tb p w n₀ ann 1 (k + 1) s (pieceOf st env c pos [topFrame qq]) = some (.next, s', c, p') :=
  seg_go (h doneF deadEnd id id c [topFrame qq] (Nat.le_refl _)) rfl
end
end Mine
end
section
open PySem PySem.W PyProof.Rows
namespace Mine
noncomputable abbrev pg : Program := Challenge.pw_wr0042_01
noncomputable def bdy : List Stmt := pg.main.body
noncomputable def stAt (k : Nat) : Stmt := (bdy[k]?).getD (.Pass default)
noncomputable def e0 : Env := { scope := pg.main.scope, locals := mainNs, globals := mainNs, cells := [], code := .ref 13, frame := some 14 }
noncomputable def cE : Code := .body bdy e0
noncomputable def stA : List Stmt := bdy.take 12
noncomputable def stC : List Stmt := bdy.drop 13
noncomputable def b3ks : List (Option Expr) := match stAt 12 with | .Assign _ (.Dict ks _ _) _ => ks | _ => []
noncomputable def b3vs : List Expr := match stAt 12 with | .Assign _ (.Dict _ vs _) _ => vs | _ => []
noncomputable def b3pos : Pos := match stAt 12 with | .Assign _ (.Dict _ _ p) _ => p | _ => default
noncomputable def b3p : Pos := match stAt 12 with | .Assign _ _ p => p | _ => default
noncomputable def b3p' : Pos := match stAt 12 with | .Assign [.Name _ p] _ _ => p | _ => default
noncomputable def b3L : List (Int × Str) := (isPairs b3ks b3vs).getD []
noncomputable abbrev b3n : Str := Str.ofString "b3_exceptions"
theorem b3_is : stAt 12 = .Assign [.Name b3n b3p'] (.Dict b3ks b3vs b3pos) b3p := by kernel_rfl
theorem bdy_is : bdy = stA ++ (stAt 12 :: stC) := by kernel_rfl
theorem pairs_is : isPairs b3ks b3vs = some b3L := by kernel_rfl
theorem len_is : b3L.length = 650 := by kernel_rfl
noncomputable def rising : List Int → Bool
  | a :: b :: r => (decide (a < b)) && rising (b :: r)
  | _ => true
theorem rising_le : ∀ {l : List Int} {a : Int}, rising (a :: l) = true → ∀ b ∈ l, a < b
  | [], _, _, b, h => by cases h
  | c :: r, a, h, b, hb => by
    simp only [rising, Bool.and_eq_true, decide_eq_true_eq] at h
    rcases List.mem_cons.mp hb with rfl | hb
    · exact h.1
    · have := rising_le h.2 b hb
      omega
theorem rising_nodup : ∀ {l : List Int}, rising l = true → l.Nodup
  | [], _ => List.nodup_nil
  | a :: r, h => by
    refine List.nodup_cons.mpr ⟨fun hm => ?_, rising_nodup ?_⟩
    · have := rising_le h a hm; omega
    · cases r with
      | nil => rfl
      | cons b r => simp only [rising, Bool.and_eq_true] at h; exact h.2
theorem nodup_is : (b3L.map fun x => hashInt x.1).Nodup := rising_nodup (by kernel_rfl)
theorem store_is (v : Value) : storeName e0 b3n v = nsSet mainNs b3n v := by kernel_rfl
end Mine
end
section
open PySem PySem.W PyProof.Rows
namespace Mine
noncomputable def S0 (w : World) (os : OsState) : Shared := ⟨boot_heap w.params, Array.mk [], boot_drawn, boot_toks, os⟩
noncomputable abbrev qF : Pos := default
noncomputable def ranPre (w : World) (os : OsState) : Option (Shared × Thread) := topGo treeTable pg w 11 (some (.ref 6)) 12 (S0 w os) (topStub pg)
noncomputable def Sa (w : World) (os : OsState) : Shared := match ranPre w os with | some r => r.1 | none => S0 w os
theorem pre_is (w : World) (os : OsState) : ranPre w os = some (Sa w os, ⟨denote treeTable cE, cE, default, [topFrame qF]⟩) := by
  kernel_rfl
theorem block_is (w : World) (os : OsState) (s : Shared) : segRun treeTable pg w 11 (some (.ref 6)) 1 1 s (blockOf bdy e0 cE default [topFrame qF]) = some (.next, s, cE, default) := by kernel_rfl
theorem tw_seg : @segRun = PySem.W.Fast.tw14374325043358763698 := PySem.W.Fast.te14374325043358763698
theorem tw_tab : treeTable = PySem.W.Fast.tw14364793385576792824 := PySem.W.Fast.te14364793385576792824
theorem tw_exs : @execs = PySem.W.Fast.tw12563942051412417395 := PySem.W.Fast.te12563942051412417395
noncomputable abbrev WW (w : World) (b1 b2 : Bool) : World := (w.withFollow "set-order" b1).withFollow "special-get-raises" b2
noncomputable def ranA (w : World) (os : OsState) : Option (Flow × Shared × Code × Pos) := segRun treeTable pg w 11 (some (.ref 6)) 1 1675 (Sa w os) ⟨(execs stA e0).wrap doneF deadEnd id id, cE, default, [topFrame qF]⟩
theorem ranA_tw (w : World) (os : OsState) : ranA w os = PySem.W.Fast.tw14374325043358763698 PySem.W.Fast.tw14364793385576792824 pg w 11 (some (.ref 6)) 1 1675 (Sa w os) ⟨(PySem.W.Fast.tw12563942051412417395 stA e0).wrap doneF deadEnd id id, cE, default, [topFrame qF]⟩ := by
  unfold ranA
  rw [tw_seg, tw_exs]
  rw [show (treeTable : String → Option Builtin) = _ from tw_tab]
noncomputable def ranC (w : World) (s : Shared) : Option (Flow × Shared × Code × Pos) := segRun treeTable pg w 11 (some (.ref 6)) 1 100 s ⟨(execs stC e0).wrap doneF deadEnd id id, cE, b3p', [topFrame qF]⟩
theorem ranC_tw (w : World) (s : Shared) : ranC w s = PySem.W.Fast.tw14374325043358763698 PySem.W.Fast.tw14364793385576792824 pg w 11 (some (.ref 6)) 1 100 s ⟨(PySem.W.Fast.tw12563942051412417395 stC e0).wrap doneF deadEnd id id, cE, b3p', [topFrame qF]⟩ := by
  unfold ranC
  rw [tw_seg, tw_exs]
  rw [show (treeTable : String → Option Builtin) = _ from tw_tab]
theorem tw_seen : @openSeen = PySem.W.Fast.tw4187177175401517315 := PySem.W.Fast.te4187177175401517315
noncomputable def mainOk (s : Shared) : Bool := match s.heap.get? 3 with
  | some o => (match o.data with | .dict es _ => !aRefKeyMayBeTheName b3n es | _ => false)
  | none => false
end Mine
end
section
open PySem PySem.W PyProof.Rows
namespace Mine
noncomputable def clsBody : List Stmt := match stAt 6 with | .ClassDef _ _ _ body .. => body | _ => []
noncomputable def inCls (i : Nat) : Stmt := (clsBody[i]?).getD (.Pass default)
noncomputable def fnD (st : Stmt) (qual : Str) (cl : List (Str × Addr)) (ct code dfl kwd md doc : Value) : Data := match st with
  | .FunctionDef name params body _ _ _ scope _ _ _ => .func { name, qualname := qual, params, body := .stmts body, scope, globals := 3, closure := cl, defaults := dfl, kwdefaults := kwd, doc, pyModule := md, annotations := none, code, closureTuple := ct, builtins := 0 }
  | _ => .plain
noncomputable def b3Obj : Obj := dO (dispOf 387 b3L 37).ms 650
noncomputable def K1 (P : Params) : Frag := [
  (2, ⟨.none, none, .dict #[] 0, #[]⟩),
  (3, ⟨.type "dict", none, .dict #[⟨PyData.keyHash P (PySem.Str.ofString "__name__"), .str (PySem.Str.ofString "__name__") 165, .str (PySem.Str.ofString "law_wr0042_01") 2346⟩, ⟨PyData.keyHash P (PySem.Str.ofString "__doc__"), .str (PySem.Str.ofString "__doc__") 166, .none⟩, ⟨PyData.keyHash P (PySem.Str.ofString "__package__"), .str (PySem.Str.ofString "__package__") 167, .none⟩, ⟨PyData.keyHash P (PySem.Str.ofString "__loader__"), .str (PySem.Str.ofString "__loader__") 168, .builtin "__main__.__loader__#opaque"⟩, ⟨PyData.keyHash P (PySem.Str.ofString "__spec__"), .str (PySem.Str.ofString "__spec__") 169, .none⟩, ⟨PyData.keyHash P (PySem.Str.ofString "__annotations__"), .str (PySem.Str.ofString "__annotations__") 170, .ref 6⟩, ⟨PyData.keyHash P (PySem.Str.ofString "__builtins__"), .str (PySem.Str.ofString "__builtins__") 171, .ref 4⟩, ⟨PyData.keyHash P (PySem.Str.ofString "__file__"), .str (PySem.Str.ofString "__file__") 173, .str (PySem.Str.ofString "/claim/cut.py") 172⟩, ⟨PyData.keyHash P (PySem.Str.ofString "__cached__"), .str (PySem.Str.ofString "__cached__") 174, .none⟩, ⟨PyData.keyHash P (PySem.Str.ofString "_wall"), .str (PySem.Str.ofString "_wall") 193, .ref 21⟩, ⟨PyData.keyHash P (PySem.Str.ofString "ELLIPSIS_MARKER"), .str (PySem.Str.ofString "ELLIPSIS_MARKER") 197, .str (PySem.Str.ofString "...") 196⟩, ⟨PyData.keyHash P (PySem.Str.ofString "_ellipsis_match"), .str (PySem.Str.ofString "_ellipsis_match") 209, .ref 28⟩, ⟨PyData.keyHash P (PySem.Str.ofString "EMPTYSTRING"), .str (PySem.Str.ofString "EMPTYSTRING") 213, .str (PySem.Str.ofString "") 212⟩, ⟨PyData.keyHash P (PySem.Str.ofString "_Accumulator"), .str (PySem.Str.ofString "_Accumulator") 307, .ref 106⟩, ⟨PyData.keyHash P (PySem.Str.ofString "_strcoll"), .str (PySem.Str.ofString "_strcoll") 317, .ref 117⟩, ⟨PyData.keyHash P (PySem.Str.ofString "b1_set"), .str (PySem.Str.ofString "b1_set") 379, .ref 125⟩, ⟨PyData.keyHash P (PySem.Str.ofString "in_table_b1"), .str (PySem.Str.ofString "in_table_b1") 386, .ref 135⟩, ⟨PyData.keyHash P (PySem.Str.ofString "b3_exceptions"), .str (PySem.Str.ofString "b3_exceptions") 2337, .ref 136⟩, ⟨PyData.keyHash P (PySem.Str.ofString "map_table_b3"), .str (PySem.Str.ofString "map_table_b3") 2345, .ref 181⟩, ⟨PyData.keyHash P (PySem.Str.ofString "_law_typed"), .str (PySem.Str.ofString "_law_typed") 2359, .ref 188⟩, ⟨PyData.keyHash P (PySem.Str.ofString "law"), .str (PySem.Str.ofString "law") 2365, .ref 193⟩] 21, #[]⟩),
  (4, ⟨.type "module", some 0, .plain, #[]⟩),
  (32, ⟨.type "cell", none, .cell (some (.ref 106)), #[]⟩),
  (37, ⟨.type "tuple", none, .seq #[.int (0) 226] 0, #[]⟩),
  (44, ⟨.type "code", none, .fields #[.str (PySem.Str.ofString "__init__") 227, .str (PySem.Str.ofString "_Accumulator.__init__") 228, .str (PySem.Str.ofString "/claim/cut.py") 229, .int (38) 0, .int (2) 0, .int (0) 0, .int (0) 0, .int (3) 0, .ref 39, .bool true, .int (181) 0, .ref 40, .none, .ref 41, .ref 42, .ref 43, .int (233) 0, .int (38) 0, .str (PySem.Str.ofString "/claim/cut.py") 234], #[]⟩),
  (45, ⟨.type "function", none, fnD (inCls 0) (PySem.Str.ofString "_Accumulator.__init__") [((PySem.Str.ofString "__class__"), 32)] (.ref 38) (.ref 44) (.ref 37) (.none) (.str (PySem.Str.ofString "cpy313.email.header") 210) (.none), #[]⟩),
  (51, ⟨.type "code", none, .fields #[.str (PySem.Str.ofString "push") 236, .str (PySem.Str.ofString "_Accumulator.push") 237, .str (PySem.Str.ofString "/claim/cut.py") 238, .int (42) 0, .int (3) 0, .int (0) 0, .int (0) 0, .int (3) 0, .ref 46, .bool true, .int (181) 0, .ref 47, .none, .ref 48, .ref 49, .ref 50, .int (242) 0, .int (42) 0, .str (PySem.Str.ofString "/claim/cut.py") 243], #[]⟩),
  (52, ⟨.type "function", none, fnD (inCls 1) (PySem.Str.ofString "_Accumulator.push") [] (.none) (.ref 51) (.none) (.none) (.str (PySem.Str.ofString "cpy313.email.header") 210) (.none), #[]⟩),
  (53, ⟨.type "tuple", none, .seq #[.int (0) 245] 0, #[]⟩),
  (59, ⟨.type "code", none, .fields #[.str (PySem.Str.ofString "pop_from") 246, .str (PySem.Str.ofString "_Accumulator.pop_from") 247, .str (PySem.Str.ofString "/claim/cut.py") 248, .int (45) 0, .int (2) 0, .int (0) 0, .int (0) 0, .int (3) 0, .ref 54, .bool true, .int (181) 0, .ref 55, .none, .ref 56, .ref 57, .ref 58, .int (252) 0, .int (45) 0, .str (PySem.Str.ofString "/claim/cut.py") 253], #[]⟩),
  (60, ⟨.type "function", none, fnD (inCls 2) (PySem.Str.ofString "_Accumulator.pop_from") [] (.none) (.ref 59) (.ref 53) (.none) (.str (PySem.Str.ofString "cpy313.email.header") 210) (.none), #[]⟩),
  (73, ⟨.type "code", none, .fields #[.str (PySem.Str.ofString "__len__") 262, .str (PySem.Str.ofString "_Accumulator.__len__") 263, .str (PySem.Str.ofString "/claim/cut.py") 264, .int (53) 0, .int (1) 0, .int (0) 0, .int (0) 0, .int (3) 0, .ref 68, .bool true, .int (181) 0, .ref 69, .none, .ref 70, .ref 71, .ref 72, .int (266) 0, .int (53) 0, .str (PySem.Str.ofString "/claim/cut.py") 267], #[]⟩),
  (74, ⟨.type "function", none, fnD (inCls 4) (PySem.Str.ofString "_Accumulator.__len__") [] (.none) (.ref 73) (.none) (.none) (.str (PySem.Str.ofString "cpy313.email.header") 210) (.none), #[]⟩),
  (80, ⟨.type "code", none, .fields #[.str (PySem.Str.ofString "__str__") 269, .str (PySem.Str.ofString "_Accumulator.__str__") 270, .str (PySem.Str.ofString "/claim/cut.py") 271, .int (56) 0, .int (1) 0, .int (0) 0, .int (0) 0, .int (3) 0, .ref 75, .bool true, .int (181) 0, .ref 76, .none, .ref 77, .ref 78, .ref 79, .int (273) 0, .int (56) 0, .str (PySem.Str.ofString "/claim/cut.py") 274], #[]⟩),
  (81, ⟨.type "function", none, fnD (inCls 5) (PySem.Str.ofString "_Accumulator.__str__") [] (.none) (.ref 80) (.none) (.none) (.str (PySem.Str.ofString "cpy313.email.header") 210) (.none), #[]⟩),
  (105, ⟨.type "dict", none, .dict #[⟨PyData.keyHash P (PySem.Str.ofString "__module__"), .str (PySem.Str.ofString "__module__") 221, .str (PySem.Str.ofString "cpy313.email.header") 210⟩, ⟨PyData.keyHash P (PySem.Str.ofString "__firstlineno__"), .str (PySem.Str.ofString "__firstlineno__") 225, .int (36) 224⟩, ⟨PyData.keyHash P (PySem.Str.ofString "__init__"), .str (PySem.Str.ofString "__init__") 235, .ref 45⟩, ⟨PyData.keyHash P (PySem.Str.ofString "push"), .str (PySem.Str.ofString "push") 244, .ref 52⟩, ⟨PyData.keyHash P (PySem.Str.ofString "pop_from"), .str (PySem.Str.ofString "pop_from") 254, .ref 60⟩, ⟨PyData.keyHash P (PySem.Str.ofString "pop"), .str (PySem.Str.ofString "pop") 261, .ref 67⟩, ⟨PyData.keyHash P (PySem.Str.ofString "__len__"), .str (PySem.Str.ofString "__len__") 268, .ref 74⟩, ⟨PyData.keyHash P (PySem.Str.ofString "__str__"), .str (PySem.Str.ofString "__str__") 275, .ref 81⟩, ⟨PyData.keyHash P (PySem.Str.ofString "reset"), .str (PySem.Str.ofString "reset") 283, .ref 89⟩, ⟨PyData.keyHash P (PySem.Str.ofString "is_onlyws"), .str (PySem.Str.ofString "is_onlyws") 290, .ref 96⟩, ⟨PyData.keyHash P (PySem.Str.ofString "part_count"), .str (PySem.Str.ofString "part_count") 297, .ref 103⟩, ⟨PyData.keyHash P (PySem.Str.ofString "__static_attributes__"), .str (PySem.Str.ofString "__static_attributes__") 299, .ref 104⟩, ⟨PyData.keyHash P (PySem.Str.ofString "__dict__"), .str (PySem.Str.ofString "__dict__") 302, .ref 107⟩, ⟨PyData.keyHash P (PySem.Str.ofString "__weakref__"), .str (PySem.Str.ofString "__weakref__") 304, .ref 108⟩, ⟨PyData.keyHash P (PySem.Str.ofString "__doc__"), .str (PySem.Str.ofString "__doc__") 305, .none⟩] 5, #[]⟩),
  (106, ⟨.type "type", none, .cls { name := (PySem.Str.ofString "_Accumulator"), bases := [.type "list"], mro := [.ref 106, .type "list", .type "object"], ns := 105, qualname := (PySem.Str.ofString "_Accumulator"), hasDict := true, slotNames := [], subclasses := [], abstract := false, collection := none, hasDel := false }, #[some (.ref 29), none, some (.str (PySem.Str.ofString "_Accumulator") 214), some (.str (PySem.Str.ofString "_Accumulator") 222), some (.builtin "list.__new__"), some (.bool true)]⟩),
  (125, ⟨.type "set", none, .set #[(65024, .int (65024) 336), (65025, .int (65025) 337), (65026, .int (65026) 338), (65027, .int (65027) 339), (65028, .int (65028) 340), (65029, .int (65029) 341), (6150, .int (6150) 322), (65030, .int (65030) 342), (65031, .int (65031) 343), (65032, .int (65032) 344), (65033, .int (65033) 345), (6155, .int (6155) 323), (6156, .int (6156) 324), (6157, .int (6157) 325), (8203, .int (8203) 326), (8204, .int (8204) 327), (8205, .int (8205) 328), (65034, .int (65034) 346), (65035, .int (65035) 347), (65036, .int (65036) 348), (65037, .int (65037) 349), (65038, .int (65038) 350), (65039, .int (65039) 351), (173, .int (173) 320), (847, .int (847) 321), (8288, .int (8288) 329), (65279, .int (65279) 330)] 29 { mask := 127, place := #[0, 1, 2, 3, 4, 5, 6, 7, 8, 9, 10, 11, 12, 13, 14, 15, 16, 17, 18, 19, 20, 21, 22, 45, 79, 96, 127], dummies := #[], finger := 0, led := !P.followText "set-order", moves := 2, plain := true }, #[]⟩),
  (136, b3Obj)]
noncomputable def K1T (P : Params) : Frag := (69, ⟨.none, none, .fields #[], #[]⟩) :: (76, ⟨.none, none, .fields #[], #[]⟩) :: K1 P
noncomputable def as1 : List Addr := [69, 76, 2, 3, 4, 32, 37, 44, 45, 51, 52, 53, 59, 60, 73, 74, 80, 81, 105, 106, 125, 136]
theorem as1_is (P : Params) : as1 = (K1T P).map (·.1) := rfl
noncomputable def hk1 : Hook := kHook K1T as1 as1_is
noncomputable def qv : Program := { pg with main := { pg.main with body := [stAt 0, stAt 2, stAt 3, stAt 5, stAt 8, stAt 11, stAt 13, stAt 15, stAt 16] } }
noncomputable def lsv : List Str := [Str.ofString "_Accumulator", Str.ofString "b1_set", Str.ofString "b3_exceptions"]
noncomputable def XtV (s : Shared) : Bool := xlAt qv [] s && recOk [] s
noncomputable def lookV (w : World) (s : Shared) :=
  ((staticsOk (importedModules pg.main.body) (boot_heap w.params) s.heap && namesBound pg s.heap && gensDone s && laidKept (boot_heap w.params) s.heap), openSeen qv lsv (importedModules pg.main.body) XtV true s, hk1.obs s)
noncomputable def fullV (w : World) (os : OsState) :=
  (ranA w os).map fun r => ((r.1, r.2.2), (r.2.1.heap.objs.size, mainOk r.2.1), (ranC w (afterB b3n b3L 37 w.params r.2.1)).map fun r2 => ((r2.1, r2.2.2), lookV w r2.2.1))
noncomputable abbrev posA : Pos := ⟨72, 0, 73, 30⟩
noncomputable abbrev posC : Pos := ⟨97, 0, 171, 15⟩
noncomputable def goodV (w : World) := some (((Flow.next, cE, posA), ((136, true) : Nat × Bool), some ((Flow.next, cE, posC), (true, openGood qv lsv, hk1.val w))))
end Mine
end
section
open PySem PySem.W PyProof.Rows
namespace Mine
theorem full_ff (w : World) (os : OsState) : fullV (WW w false false) os = goodV (WW w false false) := by
  unfold fullV
  simp only [ranA_tw, ranC_tw]
  unfold lookV
  rw [tw_seen]
  kernel_rfl
theorem full_ft (w : World) (os : OsState) : fullV (WW w false true) os = goodV (WW w false true) := by
  unfold fullV
  simp only [ranA_tw, ranC_tw]
  unfold lookV
  rw [tw_seen]
  kernel_rfl
theorem full_tf (w : World) (os : OsState) : fullV (WW w true false) os = goodV (WW w true false) := by
  unfold fullV
  simp only [ranA_tw, ranC_tw]
  unfold lookV
  rw [tw_seen]
  kernel_rfl
theorem full_tt (w : World) (os : OsState) : fullV (WW w true true) os = goodV (WW w true true) := by
  unfold fullV
  simp only [ranA_tw, ranC_tw]
  unfold lookV
  rw [tw_seen]
  kernel_rfl
theorem full_all (w : World) : ∀ os, fullV w os = goodV w :=
  byRow2 "special-get-raises" (P := fun w => ∀ os, fullV w os = goodV w)
    (fun w => byRow2 "set-order" (P := fun w => ∀ os, fullV (w.withFollow "special-get-raises" false) os = goodV (w.withFollow "special-get-raises" false)) (fun w => full_ff w) (fun w => full_tf w) w)
    (fun w => byRow2 "set-order" (P := fun w => ∀ os, fullV (w.withFollow "special-get-raises" true) os = goodV (w.withFollow "special-get-raises" true)) (fun w => full_ft w) (fun w => full_tt w) w) w
end Mine
end
section
open PySem PySem.W PyProof.Rows
namespace Mine
noncomputable def MM : Nat := 12 + (1 + (1675 + ((stepsB b3L 37 + 1) + (100 + 2))))
noncomputable def NN : Nat := MM + 600
theorem boot_is (w : World) : (fencedOpening treeTable pg w NN).map (fun s => (s.heap, s.gens, s.drawn, s.toks)) = some (boot_heap w.params, Array.mk [], boot_drawn, boot_toks) :=
  boot_open (by kernel_rfl) (Nat.ble_eq_true_of_le (by unfold NN; omega)) (fun s => by kernel_rfl) w
theorem run_is (w : World) (os : OsState) : ∃ s, topRun treeTable pg w 11 (some (.ref 6)) NN (S0 w os) (topStub pg) = some s ∧ lookV w s = (true, openGood qv lsv, hk1.val w) := by
  have h := full_all w os
  unfold fullV goodV at h
  obtain ⟨⟨f, sA, cA, pA⟩, hA, h⟩ := Option.map_eq_some_iff.mp h
  obtain ⟨h1, h⟩ := Prod.mk.inj h
  obtain ⟨h2, h⟩ := Prod.mk.inj h
  obtain ⟨⟨f2, sC, cC, pC⟩, hC, h⟩ := Option.map_eq_some_iff.mp h
  obtain ⟨h3, h⟩ := Prod.mk.inj h
  obtain ⟨rfl, h1⟩ := Prod.mk.inj h1
  obtain ⟨rfl, rfl⟩ := Prod.mk.inj h1
  obtain ⟨rfl, h3⟩ := Prod.mk.inj h3
  obtain ⟨rfl, rfl⟩ := Prod.mk.inj h3
  obtain ⟨h4, h5⟩ := Prod.mk.inj h2
  refine ⟨sC, ?_, h⟩
  have hm : ∃ o es ep, sA.heap.get? mainNs = some o ∧ o.data = .dict es ep ∧ aRefKeyMayBeTheName b3n es = false := by
    unfold mainOk at h5
    split at h5
    · rename_i o ho
      split at h5
      · rename_i es ep hd
        exact ⟨o, es, ep, ho, hd, by simpa using h5⟩
      · cases h5
    · cases h5
  obtain ⟨o, es, ep, ho, hd, hr⟩ := hm
  have gB := g_stmt (M := ⟨table, pg, w, 11, some (.ref 6), 1⟩) (s := sA) (q := posA) (env := e0) (x := b3n) (p := b3p) (p' := b3p') (pos := b3pos) (ks := b3ks) (vs := b3vs) (L := b3L) (n := 37) rfl pairs_is store_is
    (fun a ha => by
      have : 11 ≤ a := by dsimp only at h4; omega
      unfold okA
      rw [show Nat.ble 11 a = true from Nat.ble_eq_true_of_le this]; rfl) (by dsimp only at h4 ⊢; omega) (by rw [len_is]; omega) (by rw [len_is]; omega) (by rw [len_is]; omega) nodup_is ho hd hr rfl
  have pB := piece_of_goes (c := cE) (qq := qF) gB
  rw [table_eq_tree] at pB
  rw [← b3_is] at pB
  have fin : topRun treeTable pg w 11 (some (.ref 6)) 2 sC (restOf [] e0 cE posC [topFrame qF]) = some sC := by
    obtain ⟨heap, gens, drawn, toks, os⟩ := sC
    rfl
  have c1 := piece_app (l := stC) (rest := []) (p' := posC) (pos := b3p') (s' := sC) hC fin
  rw [List.append_nil] at c1
  have c2 := piece_cons pB c1
  have c3 := piece_app (l := stA) (rest := stAt 12 :: stC) (p' := posA) (pos := default) (s' := sA) hA c2
  rw [← bdy_is] at c3
  have c4 := piece_block (block_is w os (Sa w os)) c3
  have c5 := go_top (pre_is w os) c4
  exact topRun_mono 600 _ _ _ _ c5
theorem size_is (w : World) : ((boot_heap w.params).isNs mainGlobals && (Array.mk [] : Array GenState).size == 0, (boot_heap w.params).objs.size, (boot_heap w.params).nsMap mainGlobals "__annotations__") = (true, 11, some (.ref 6)) := by kernel_rfl
theorem left1 : LeftO pg qv lsv XtV hk1.obs hk1.val NN true := fun w => by
  obtain ⟨⟨h, gs, d, k, os⟩, e, e'⟩ := Option.map_eq_some_iff.mp (boot_is w)
  obtain ⟨rfl, rfl, rfl, rfl⟩ : h = boot_heap w.params ∧ gs = Array.mk [] ∧ d = boot_drawn ∧ k = boot_toks := by simpa using e'
  obtain ⟨z1, z2, z3⟩ : _ ∧ _ ∧ _ := by simpa only [Prod.mk.injEq] using size_is w
  obtain ⟨s, hr, hl⟩ := run_is w os
  obtain ⟨l1, hl⟩ := Prod.mk.inj hl
  obtain ⟨l2, l3⟩ := Prod.mk.inj hl
  have t : topFrom treeTable pg w NN ⟨boot_heap w.params, Array.mk [], boot_drawn, boot_toks, os⟩ = some s := by
    unfold topFrom
    dsimp only
    rw [z1, z2, z3]
    show ((topRun treeTable pg w 11 (some (.ref 6)) NN (S0 w os) (topStub pg)).bind _) = _
    rw [hr]
    show (match staticsOk (importedModules pg.main.body) (boot_heap w.params) s.heap && namesBound pg s.heap && gensDone s && laidKept (boot_heap w.params) s.heap with | true => _ | false => _) = _
    rw [l1]
  unfold openEnds
  rw [e]
  show (topFrom treeTable pg w NN _).map _ = _
  rw [t]
  exact congrArg some (Prod.ext l2 l3)
end Mine
end
section
open PySem PySem.W PyProof.Rows PySem.Calls
namespace Mine
inductive WX {α : Type} (P : α → Prop) where
  | mk (f : α) (h : P f)
  | no
noncomputable def WX.val {α : Type} {P : α → Prop} : WX P → Option α
  | .mk f _ => some f
  | .no => none
theorem WX.spec {α : Type} {P : α → Prop} : ∀ (x : WX P) {f : α}, x.val = some f → P f
  | .mk _ h, _, e => by cases e; exact h
noncomputable def dStrP : Arguments := fnP (stAt 8)
noncomputable def dStrB : List Stmt := fnB (stAt 8)
noncomputable def dStrS : Scope := fnS (stAt 8)
@[reducible] noncomputable def dStr (doc pm cdv : Value) : FnD := { f := 117, name := "_strcoll", qual := "_strcoll", params := dStrP, body := dStrB, scope := dStrS, dV := .none, kV := .none, doc, pm, cdv, ct := .none, an := none, pn := ["a", "b"], rn := [] }
@[reducible] noncomputable def strT1 (s : Stmt) (f : PS → Option (Fl × PS)) : Prop := ∀ (G : Gd) (C : Cx) (doc : Value) (pm : Value) (cdv : Value) (L : Addr) (g : Heap) (K : COk1 G (cxF C (dStr doc pm cdv) L g)), X1 (G) (cxF C (dStr doc pm cdv) L g) s f
@[reducible] noncomputable def strT (s : List Stmt) (f : PS → Option (Fl × PS)) : Prop := ∀ (G : Gd) (C : Cx) (doc : Value) (pm : Value) (cdv : Value) (L : Addr) (g : Heap) (K : COk1 G (cxF C (dStr doc pm cdv) L g)), Xs (G) (cxF C (dStr doc pm cdv) L g) s f
noncomputable abbrev strS_0 : Stmt := pick (s := nthS dStrB 0) (t := .Return _ _) rfl
@[reducible] noncomputable def strX_0 : WX (strT1 strS_0) := .mk _ (by with_reducible exact fun G C doc pm cdv L g K => (X1.ret (Ev.bin (Ev.cmp (Ev.var K (i := 0) (b := false) (by kernel_rfl) (hd := by kernel_rfl)) (Ev.var K (i := 1) (b := false) (by kernel_rfl) (hd := by kernel_rfl)) (Op2.gt) (hm := by kernel_rfl)) (Ev.cmp (Ev.var K (i := 0) (b := false) (by kernel_rfl) (hd := by kernel_rfl)) (Ev.var K (i := 1) (b := false) (by kernel_rfl) (hd := by kernel_rfl)) (Op2.lt) (hm := by kernel_rfl)) (Op2.sub))))
noncomputable def strF_0 : PS → Option (Fl × PS) := by with_reducible refine (?g : {f : PS → Option (Fl × PS)} → {h : strT1 strS_0 f} → strX_0 = .mk f h → PS → Option (Fl × PS)) rfl; exact fun {f} {h} _ => f
theorem strW_0 : strT1 strS_0 strF_0 := by with_reducible exact WX.spec strX_0 (by kernel_rfl)
@[reducible] noncomputable def strX : WX (strT [strS_0]) := .mk _ (by with_reducible exact fun G C doc pm cdv L g K => (Xs.cons (strW_0 G C doc pm cdv L g K) (Xs.nil)))
noncomputable def strF : PS → Option (Fl × PS) := by with_reducible refine (?g : {f : PS → Option (Fl × PS)} → {h : strT [strS_0] f} → strX = .mk f h → PS → Option (Fl × PS)) rfl; exact fun {f} {h} _ => f
theorem strBi : dStrB = [strS_0] := by kernel_rfl
theorem strW : strT dStrB strF := by rw [strBi]; with_reducible exact WX.spec strX (by kernel_rfl)
end Mine
end
section
open PySem PySem.W PyProof.Rows PySem.Calls
set_option maxHeartbeats 0
namespace Mine
noncomputable def dPushP : Arguments := fnP (inCls 1)
noncomputable def dPushB : List Stmt := fnB (inCls 1)
noncomputable def dPushS : Scope := fnS (inCls 1)
@[reducible] noncomputable def dPush : FnD := { f := 52, name := "push", qual := "_Accumulator.push", params := dPushP, body := dPushB, scope := dPushS, dV := .none, kV := .none, doc := .none, pm := .str (Str.ofString "cpy313.email.header") 210, cdv := .ref 51, ct := .none, an := none, pn := ["self", "fws", "string"], rn := [] }
noncomputable def dPopFP : Arguments := fnP (inCls 2)
noncomputable def dPopFB : List Stmt := fnB (inCls 2)
noncomputable def dPopFS : Scope := fnS (inCls 2)
@[reducible] noncomputable def dPopF : FnD := { f := 60, name := "pop_from", qual := "_Accumulator.pop_from", params := dPopFP, body := dPopFB, scope := dPopFS, dV := .ref 53, kV := .none, doc := .none, pm := .str (Str.ofString "cpy313.email.header") 210, cdv := .ref 59, ct := .none, an := none, pn := ["self", "i"], rn := ["popped"] }
noncomputable def dAIP : Arguments := fnP (inCls 0)
noncomputable def dAIB : List Stmt := fnB (inCls 0)
noncomputable def dAIS : Scope := fnS (inCls 0)
@[reducible] noncomputable def dAI : FnD := { f := 45, name := "__init__", qual := "_Accumulator.__init__", params := dAIP, body := dAIB, scope := dAIS, dV := .ref 37, kV := .none, doc := .none, pm := .str (Str.ofString "cpy313.email.header") 210, cdv := .ref 44, ct := .ref 38, an := none, pn := ["self", "initial_size"], rn := [], cl := [("__class__", 32)] }
noncomputable def dALP : Arguments := fnP (inCls 4)
noncomputable def dALB : List Stmt := fnB (inCls 4)
noncomputable def dALS : Scope := fnS (inCls 4)
@[reducible] noncomputable def dAL : FnD := { f := 74, name := "__len__", qual := "_Accumulator.__len__", params := dALP, body := dALB, scope := dALS, dV := .none, kV := .none, doc := .none, pm := .str (Str.ofString "cpy313.email.header") 210, cdv := .ref 73, ct := .none, an := none, pn := ["self"], rn := [] }
noncomputable def dASP : Arguments := fnP (inCls 5)
noncomputable def dASB : List Stmt := fnB (inCls 5)
noncomputable def dASS : Scope := fnS (inCls 5)
@[reducible] noncomputable def dAS : FnD := { f := 81, name := "__str__", qual := "_Accumulator.__str__", params := dASP, body := dASB, scope := dASS, dV := .none, kV := .none, doc := .none, pm := .str (Str.ofString "cpy313.email.header") 210, cdv := .ref 80, ct := .none, an := none, pn := ["self"], rn := [] }
@[reducible] noncomputable def gd1 (w : World) (mg mb : Str → Option Value) (fns : List FnD) : Gd := { p := pg, w, mg, mb, K := K1 w.params, fns := dPush :: dPopF :: dAI :: dAL :: dAS :: fns, acc := 106 }
section
variable {w : World} {mg mb : Str → Option Value} {fns : List FnD} {C : Cx} {V : Vw} {p : Pos} (K : COk1 (gd1 w mg mb fns) C) (VV : VG V)
include K VV
theorem g_ell (hx : V.env.kindOf (Str.ofString "ELLIPSIS_MARKER") = some .globalImplicit) : Ev (gd1 w mg mb fns) C V (.Name (Str.ofString "ELLIPSIS_MARKER") p) (fun σ => some (.str [46, 46, 46], σ)) :=
  Ev.glo K VV hx (v := .str (Str.ofString "...") 196) (by kernel_rfl) (fun _ => by rw [show Str.ofString "..." = mkS' [46, 46, 46] by kernel_rfl]; exact .str _ _) (by decide)
theorem g_blt {x : Str} {v : Value} (e : nsIn (K1 w.params) mainGlobals x = some none) (hv : bootBuiltins x = some v) (hn : x ≠ "__name__") (hd : (x == ("__debug__" : Str)) = false) (hx : V.env.kindOf x = some .globalImplicit) :
    Ev (gd1 w mg mb fns) C V (.Name x p) (fun σ => some (.raw v, σ)) := Ev.bui K VV hx e hv hn hd
theorem g_len (hx : V.env.kindOf (Str.ofString "len") = some .globalImplicit) : Ev (gd1 w mg mb fns) C V (.Name (Str.ofString "len") p) (fun σ => some (.raw (.builtin "len"), σ)) := g_blt K VV (by kernel_rfl) (by kernel_rfl) (by decide) (by decide) hx
theorem g_chr (hx : V.env.kindOf (Str.ofString "chr") = some .globalImplicit) : Ev (gd1 w mg mb fns) C V (.Name (Str.ofString "chr") p) (fun σ => some (.raw (.builtin "chr"), σ)) := g_blt K VV (by kernel_rfl) (by kernel_rfl) (by decide) (by decide) hx
theorem g_ord (hx : V.env.kindOf (Str.ofString "ord") = some .globalImplicit) : Ev (gd1 w mg mb fns) C V (.Name (Str.ofString "ord") p) (fun σ => some (.raw (.builtin "ord"), σ)) := g_blt K VV (by kernel_rfl) (by kernel_rfl) (by decide) (by decide) hx
theorem g_sum (hx : V.env.kindOf (Str.ofString "sum") = some .globalImplicit) : Ev (gd1 w mg mb fns) C V (.Name (Str.ofString "sum") p) (fun σ => some (.raw (.builtin "sum"), σ)) := g_blt K VV (by kernel_rfl) (by kernel_rfl) (by decide) (by decide) hx
theorem g_isi (hx : V.env.kindOf (Str.ofString "isinstance") = some .globalImplicit) : Ev (gd1 w mg mb fns) C V (.Name (Str.ofString "isinstance") p) (fun σ => some (.raw (.builtin "isinstance"), σ)) := g_blt K VV (by kernel_rfl) (by kernel_rfl) (by decide) (by decide) hx
theorem g_bool (hx : V.env.kindOf (Str.ofString "bool") = some .globalImplicit) : Ev (gd1 w mg mb fns) C V (.Name (Str.ofString "bool") p) (fun σ => some (.raw (.type "bool"), σ)) := g_blt K VV (by kernel_rfl) (by kernel_rfl) (by decide) (by decide) hx
theorem g_range (hx : V.env.kindOf (Str.ofString "range") = some .globalImplicit) : Ev (gd1 w mg mb fns) C V (.Name (Str.ofString "range") p) (fun σ => some (.raw (.type "range"), σ)) := g_blt K VV (by kernel_rfl) (by kernel_rfl) (by decide) (by decide) hx
theorem g_list (hx : V.env.kindOf (Str.ofString "list") = some .globalImplicit) : Ev (gd1 w mg mb fns) C V (.Name (Str.ofString "list") p) (fun σ => some (.raw (.type "list"), σ)) := g_blt K VV (by kernel_rfl) (by kernel_rfl) (by decide) (by decide) hx
theorem g_enum (hx : V.env.kindOf (Str.ofString "enumerate") = some .globalImplicit) : Ev (gd1 w mg mb fns) C V (.Name (Str.ofString "enumerate") p) (fun σ => some (.raw (.type "enumerate"), σ)) := g_blt K VV (by kernel_rfl) (by kernel_rfl) (by decide) (by decide) hx
theorem g_str (hx : V.env.kindOf (Str.ofString "str") = some .globalImplicit) : Ev (gd1 w mg mb fns) C V (.Name (Str.ofString "str") p) (fun σ => some (.raw (.type "str"), σ)) := g_blt K VV (by kernel_rfl) (by kernel_rfl) (by decide) (by decide) hx
end
noncomputable def dEllP : Arguments := fnP (stAt 3)
noncomputable def dEllB : List Stmt := fnB (stAt 3)
noncomputable def dEllS : Scope := fnS (stAt 3)
@[reducible] noncomputable def dEll (doc pm cdv : Value) : FnD := { f := 28, name := "_ellipsis_match", qual := "_ellipsis_match", params := dEllP, body := dEllB, scope := dEllS, dV := .none, kV := .none, doc, pm, cdv, ct := .none, an := none, pn := ["want", "got"], rn := ["ws", "startpos", "endpos", "w"] }
@[reducible] noncomputable def ellT1 (s : Stmt) (f : PS → Option (Fl × PS)) : Prop := ∀ (w : World) (mg : Str → Option Value) (mb : Str → Option Value) (fns : List FnD) (C : Cx) (doc : Value) (pm : Value) (cdv : Value) (L : Addr) (g : Heap) (K : COk1 (gd1 w mg mb fns) (cxF C (dEll doc pm cdv) L g)), X1 (gd1 w mg mb fns) (cxF C (dEll doc pm cdv) L g) s f
@[reducible] noncomputable def ellT (s : List Stmt) (f : PS → Option (Fl × PS)) : Prop := ∀ (w : World) (mg : Str → Option Value) (mb : Str → Option Value) (fns : List FnD) (C : Cx) (doc : Value) (pm : Value) (cdv : Value) (L : Addr) (g : Heap) (K : COk1 (gd1 w mg mb fns) (cxF C (dEll doc pm cdv) L g)), Xs (gd1 w mg mb fns) (cxF C (dEll doc pm cdv) L g) s f
noncomputable abbrev ellS_4 : Stmt := pick (s := nthS dEllB 4) (t := .Assign _ _ _) rfl
noncomputable abbrev ellS_8 : Stmt := pick (s := nthS dEllB 8) (t := .If _ _ _ _) rfl
noncomputable abbrev ellS_1 : Stmt := pick (s := nthS dEllB 1) (t := .Assign _ _ _) rfl
noncomputable abbrev ellS_7 : Stmt := pick (s := nthS dEllB 7) (t := .If _ _ _ _) rfl
noncomputable abbrev ellS_6 : Stmt := pick (s := nthS dEllB 6) (t := .Assign _ _ _) rfl
noncomputable abbrev ellS_9 : Stmt := pick (s := nthS dEllB 9) (t := .For _ _ _ _ _) rfl
noncomputable abbrev ellS_0 : Stmt := pick (s := nthS dEllB 0) (t := .If _ _ _ _) rfl
noncomputable abbrev ellS_2 : Stmt := pick (s := nthS dEllB 2) (t := .Assert _ _ _) rfl
noncomputable abbrev ellS_5 : Stmt := pick (s := nthS dEllB 5) (t := .If _ _ _ _) rfl
noncomputable abbrev ellS_10 : Stmt := pick (s := nthS dEllB 10) (t := .Return _ _) rfl
noncomputable abbrev ellS_3 : Stmt := pick (s := nthS dEllB 3) (t := .Assign _ _ _) rfl
noncomputable abbrev ellS_8t_0 : Stmt := pick (s := nthS (sBody ellS_8) 0) (t := .Return _ _) rfl
noncomputable abbrev ellS_7t_0 : Stmt := pick (s := nthS (sBody ellS_7) 0) (t := .If _ _ _ _) rfl
noncomputable abbrev ellS_9b_0 : Stmt := pick (s := nthS (sBody ellS_9) 0) (t := .Assign _ _ _) rfl
noncomputable abbrev ellS_9b_2 : Stmt := pick (s := nthS (sBody ellS_9) 2) (t := .AugAssign _ _ _ _) rfl
noncomputable abbrev ellS_9b_1 : Stmt := pick (s := nthS (sBody ellS_9) 1) (t := .If _ _ _ _) rfl
noncomputable abbrev ellS_0t_0 : Stmt := pick (s := nthS (sBody ellS_0) 0) (t := .Return _ _) rfl
noncomputable abbrev ellS_5t_0 : Stmt := pick (s := nthS (sBody ellS_5) 0) (t := .If _ _ _ _) rfl
noncomputable abbrev ellS_7t_0e_0 : Stmt := pick (s := nthS (sElse ellS_7t_0) 0) (t := .Return _ _) rfl
noncomputable abbrev ellS_7t_0t_1 : Stmt := pick (s := nthS (sBody ellS_7t_0) 1) (t := .Delete _ _) rfl
noncomputable abbrev ellS_7t_0t_0 : Stmt := pick (s := nthS (sBody ellS_7t_0) 0) (t := .AugAssign _ _ _ _) rfl
noncomputable abbrev ellS_9b_1t_0 : Stmt := pick (s := nthS (sBody ellS_9b_1) 0) (t := .Return _ _) rfl
noncomputable abbrev ellS_5t_0t_1 : Stmt := pick (s := nthS (sBody ellS_5t_0) 1) (t := .Delete _ _) rfl
noncomputable abbrev ellS_5t_0t_0 : Stmt := pick (s := nthS (sBody ellS_5t_0) 0) (t := .Assign _ _ _) rfl
noncomputable abbrev ellS_5t_0e_0 : Stmt := pick (s := nthS (sElse ellS_5t_0) 0) (t := .Return _ _) rfl
@[reducible] noncomputable def ellX_4 : WX (ellT1 ellS_4) := .mk _ (by with_reducible exact fun w mg mb fns C doc pm cdv L g K => (X1.assign K (i := 5) (b := false) (by kernel_rfl) (Ev.sub K (Ev.var K (i := 2) (b := false) (by kernel_rfl) (hd := by kernel_rfl)) (Ev.int) (hsl := by intros; kernel_rfl)) (hs := by kernel_rfl)))
noncomputable def ellF_4 : PS → Option (Fl × PS) := by with_reducible refine (?g : {f : PS → Option (Fl × PS)} → {h : ellT1 ellS_4 f} → ellX_4 = .mk f h → PS → Option (Fl × PS)) rfl; exact fun {f} {h} _ => f
theorem ellW_4 : ellT1 ellS_4 ellF_4 := by with_reducible exact WX.spec ellX_4 (by kernel_rfl)
@[reducible] noncomputable def ellX_8t_0 : WX (ellT1 ellS_8t_0) := .mk _ (by with_reducible exact fun w mg mb fns C doc pm cdv L g K => (X1.ret (Ev.bool (b := false))))
noncomputable def ellF_8t_0 : PS → Option (Fl × PS) := by with_reducible refine (?g : {f : PS → Option (Fl × PS)} → {h : ellT1 ellS_8t_0 f} → ellX_8t_0 = .mk f h → PS → Option (Fl × PS)) rfl; exact fun {f} {h} _ => f
theorem ellW_8t_0 : ellT1 ellS_8t_0 ellF_8t_0 := by with_reducible exact WX.spec ellX_8t_0 (by kernel_rfl)
@[reducible] noncomputable def ellX_8 : WX (ellT1 ellS_8) := .mk _ (by with_reducible exact fun w mg mb fns C doc pm cdv L g K => (X1.ite (Ts.cmp (Ev.var K (i := 3) (b := false) (by kernel_rfl) (hd := by kernel_rfl)) (Ev.var K (i := 4) (b := false) (by kernel_rfl) (hd := by kernel_rfl)) (Op2.gt) (hm := by kernel_rfl)) (Xs.cons (ellW_8t_0 w mg mb fns C doc pm cdv L g K) (Xs.nil)) (Xs.nil)))
noncomputable def ellF_8 : PS → Option (Fl × PS) := by with_reducible refine (?g : {f : PS → Option (Fl × PS)} → {h : ellT1 ellS_8 f} → ellX_8 = .mk f h → PS → Option (Fl × PS)) rfl; exact fun {f} {h} _ => f
theorem ellW_8 : ellT1 ellS_8 ellF_8 := by with_reducible exact WX.spec ellX_8 (by kernel_rfl)
@[reducible] noncomputable def ellX_1 : WX (ellT1 ellS_1) := .mk _ (by with_reducible exact fun w mg mb fns C doc pm cdv L g K => (X1.assign K (i := 2) (b := false) (by kernel_rfl) (Ev.meth PySem.F.plainAttrs_str PySem.F.slot_str_split PySem.F.type_str_split (Ev.var K (i := 0) (b := false) (by kernel_rfl) (hd := by kernel_rfl)) (Evs.cons (g_ell K (VG.f K) (by kernel_rfl)) (Evs.nil) (by kernel_rfl)) (Cl.split) (hbase := by kernel_rfl) (hl := by kernel_rfl) (hline := by kernel_rfl)) (hs := by kernel_rfl)))
noncomputable def ellF_1 : PS → Option (Fl × PS) := by with_reducible refine (?g : {f : PS → Option (Fl × PS)} → {h : ellT1 ellS_1 f} → ellX_1 = .mk f h → PS → Option (Fl × PS)) rfl; exact fun {f} {h} _ => f
theorem ellW_1 : ellT1 ellS_1 ellF_1 := by with_reducible exact WX.spec ellX_1 (by kernel_rfl)
@[reducible] noncomputable def ellX_7t_0e_0 : WX (ellT1 ellS_7t_0e_0) := .mk _ (by with_reducible exact fun w mg mb fns C doc pm cdv L g K => (X1.ret (Ev.bool (b := false))))
noncomputable def ellF_7t_0e_0 : PS → Option (Fl × PS) := by with_reducible refine (?g : {f : PS → Option (Fl × PS)} → {h : ellT1 ellS_7t_0e_0 f} → ellX_7t_0e_0 = .mk f h → PS → Option (Fl × PS)) rfl; exact fun {f} {h} _ => f
theorem ellW_7t_0e_0 : ellT1 ellS_7t_0e_0 ellF_7t_0e_0 := by with_reducible exact WX.spec ellX_7t_0e_0 (by kernel_rfl)
@[reducible] noncomputable def ellX_7t_0t_1 : WX (ellT1 ellS_7t_0t_1) := .mk _ (by with_reducible exact fun w mg mb fns C doc pm cdv L g K => (X1.delSub (Ev.var K (i := 2) (b := false) (by kernel_rfl) (hd := by kernel_rfl)) (Ev.un (Ev.int) (Op1.neg))))
noncomputable def ellF_7t_0t_1 : PS → Option (Fl × PS) := by with_reducible refine (?g : {f : PS → Option (Fl × PS)} → {h : ellT1 ellS_7t_0t_1 f} → ellX_7t_0t_1 = .mk f h → PS → Option (Fl × PS)) rfl; exact fun {f} {h} _ => f
theorem ellW_7t_0t_1 : ellT1 ellS_7t_0t_1 ellF_7t_0t_1 := by with_reducible exact WX.spec ellX_7t_0t_1 (by kernel_rfl)
@[reducible] noncomputable def ellX_7t_0t_0 : WX (ellT1 ellS_7t_0t_0) := .mk _ (by with_reducible exact fun w mg mb fns C doc pm cdv L g K => (X1.aug K (i := 4) (b := false) (by kernel_rfl) (Ev.callB (g_len K (VG.f K) (by kernel_rfl)) (Evs.cons (Ev.var K (i := 5) (b := false) (by kernel_rfl) (hd := by kernel_rfl)) (Evs.nil) (by kernel_rfl)) (Cl.len)) (Op2.isub)))
noncomputable def ellF_7t_0t_0 : PS → Option (Fl × PS) := by with_reducible refine (?g : {f : PS → Option (Fl × PS)} → {h : ellT1 ellS_7t_0t_0 f} → ellX_7t_0t_0 = .mk f h → PS → Option (Fl × PS)) rfl; exact fun {f} {h} _ => f
theorem ellW_7t_0t_0 : ellT1 ellS_7t_0t_0 ellF_7t_0t_0 := by with_reducible exact WX.spec ellX_7t_0t_0 (by kernel_rfl)
@[reducible] noncomputable def ellX_7t_0 : WX (ellT1 ellS_7t_0) := .mk _ (by with_reducible exact fun w mg mb fns C doc pm cdv L g K => (X1.ite (Ts.val (Ev.meth PySem.F.plainAttrs_str PySem.F.slot_str_endswith PySem.F.type_str_endswith (Ev.var K (i := 1) (b := false) (by kernel_rfl) (hd := by kernel_rfl)) (Evs.cons (Ev.var K (i := 5) (b := false) (by kernel_rfl) (hd := by kernel_rfl)) (Evs.nil) (by kernel_rfl)) (Cl.ends) (hbase := by kernel_rfl) (hl := by kernel_rfl) (hline := by kernel_rfl)) (hi := by kernel_rfl)) (Xs.cons (ellW_7t_0t_0 w mg mb fns C doc pm cdv L g K) (Xs.cons (ellW_7t_0t_1 w mg mb fns C doc pm cdv L g K) (Xs.nil))) (Xs.cons (ellW_7t_0e_0 w mg mb fns C doc pm cdv L g K) (Xs.nil))))
noncomputable def ellF_7t_0 : PS → Option (Fl × PS) := by with_reducible refine (?g : {f : PS → Option (Fl × PS)} → {h : ellT1 ellS_7t_0 f} → ellX_7t_0 = .mk f h → PS → Option (Fl × PS)) rfl; exact fun {f} {h} _ => f
theorem ellW_7t_0 : ellT1 ellS_7t_0 ellF_7t_0 := by with_reducible exact WX.spec ellX_7t_0 (by kernel_rfl)
@[reducible] noncomputable def ellX_7 : WX (ellT1 ellS_7) := .mk _ (by with_reducible exact fun w mg mb fns C doc pm cdv L g K => (X1.ite (Ts.val (Ev.var K (i := 5) (b := false) (by kernel_rfl) (hd := by kernel_rfl)) (hi := by kernel_rfl)) (Xs.cons (ellW_7t_0 w mg mb fns C doc pm cdv L g K) (Xs.nil)) (Xs.nil)))
noncomputable def ellF_7 : PS → Option (Fl × PS) := by with_reducible refine (?g : {f : PS → Option (Fl × PS)} → {h : ellT1 ellS_7 f} → ellX_7 = .mk f h → PS → Option (Fl × PS)) rfl; exact fun {f} {h} _ => f
theorem ellW_7 : ellT1 ellS_7 ellF_7 := by with_reducible exact WX.spec ellX_7 (by kernel_rfl)
@[reducible] noncomputable def ellX_6 : WX (ellT1 ellS_6) := .mk _ (by with_reducible exact fun w mg mb fns C doc pm cdv L g K => (X1.assign K (i := 5) (b := false) (by kernel_rfl) (Ev.sub K (Ev.var K (i := 2) (b := false) (by kernel_rfl) (hd := by kernel_rfl)) (Ev.un (Ev.int) (Op1.neg)) (hsl := by intros; kernel_rfl)) (hs := by kernel_rfl)))
noncomputable def ellF_6 : PS → Option (Fl × PS) := by with_reducible refine (?g : {f : PS → Option (Fl × PS)} → {h : ellT1 ellS_6 f} → ellX_6 = .mk f h → PS → Option (Fl × PS)) rfl; exact fun {f} {h} _ => f
theorem ellW_6 : ellT1 ellS_6 ellF_6 := by with_reducible exact WX.spec ellX_6 (by kernel_rfl)
@[reducible] noncomputable def ellX_9b_0 : WX (ellT1 ellS_9b_0) := .mk _ (by with_reducible exact fun w mg mb fns C doc pm cdv L g K => (X1.assign K (i := 3) (b := false) (by kernel_rfl) (Ev.meth PySem.F.plainAttrs_str PySem.F.slot_str_find PySem.F.type_str_find (Ev.var K (i := 1) (b := false) (by kernel_rfl) (hd := by kernel_rfl)) (Evs.cons (Ev.var K (i := 5) (b := false) (by kernel_rfl) (hd := by kernel_rfl)) (Evs.cons (Ev.var K (i := 3) (b := false) (by kernel_rfl) (hd := by kernel_rfl)) (Evs.cons (Ev.var K (i := 4) (b := false) (by kernel_rfl) (hd := by kernel_rfl)) (Evs.nil) (by kernel_rfl)) (by kernel_rfl)) (by kernel_rfl)) (Cl.find) (hbase := by kernel_rfl) (hl := by kernel_rfl) (hline := by kernel_rfl)) (hs := by kernel_rfl)))
noncomputable def ellF_9b_0 : PS → Option (Fl × PS) := by with_reducible refine (?g : {f : PS → Option (Fl × PS)} → {h : ellT1 ellS_9b_0 f} → ellX_9b_0 = .mk f h → PS → Option (Fl × PS)) rfl; exact fun {f} {h} _ => f
theorem ellW_9b_0 : ellT1 ellS_9b_0 ellF_9b_0 := by with_reducible exact WX.spec ellX_9b_0 (by kernel_rfl)
@[reducible] noncomputable def ellX_9b_2 : WX (ellT1 ellS_9b_2) := .mk _ (by with_reducible exact fun w mg mb fns C doc pm cdv L g K => (X1.aug K (i := 3) (b := false) (by kernel_rfl) (Ev.callB (g_len K (VG.f K) (by kernel_rfl)) (Evs.cons (Ev.var K (i := 5) (b := false) (by kernel_rfl) (hd := by kernel_rfl)) (Evs.nil) (by kernel_rfl)) (Cl.len)) (Op2.iadd)))
noncomputable def ellF_9b_2 : PS → Option (Fl × PS) := by with_reducible refine (?g : {f : PS → Option (Fl × PS)} → {h : ellT1 ellS_9b_2 f} → ellX_9b_2 = .mk f h → PS → Option (Fl × PS)) rfl; exact fun {f} {h} _ => f
theorem ellW_9b_2 : ellT1 ellS_9b_2 ellF_9b_2 := by with_reducible exact WX.spec ellX_9b_2 (by kernel_rfl)
@[reducible] noncomputable def ellX_9b_1t_0 : WX (ellT1 ellS_9b_1t_0) := .mk _ (by with_reducible exact fun w mg mb fns C doc pm cdv L g K => (X1.ret (Ev.bool (b := false))))
noncomputable def ellF_9b_1t_0 : PS → Option (Fl × PS) := by with_reducible refine (?g : {f : PS → Option (Fl × PS)} → {h : ellT1 ellS_9b_1t_0 f} → ellX_9b_1t_0 = .mk f h → PS → Option (Fl × PS)) rfl; exact fun {f} {h} _ => f
theorem ellW_9b_1t_0 : ellT1 ellS_9b_1t_0 ellF_9b_1t_0 := by with_reducible exact WX.spec ellX_9b_1t_0 (by kernel_rfl)
@[reducible] noncomputable def ellX_9b_1 : WX (ellT1 ellS_9b_1) := .mk _ (by with_reducible exact fun w mg mb fns C doc pm cdv L g K => (X1.ite (Ts.cmp (Ev.var K (i := 3) (b := false) (by kernel_rfl) (hd := by kernel_rfl)) (Ev.int) (Op2.lt) (hm := by kernel_rfl)) (Xs.cons (ellW_9b_1t_0 w mg mb fns C doc pm cdv L g K) (Xs.nil)) (Xs.nil)))
noncomputable def ellF_9b_1 : PS → Option (Fl × PS) := by with_reducible refine (?g : {f : PS → Option (Fl × PS)} → {h : ellT1 ellS_9b_1 f} → ellX_9b_1 = .mk f h → PS → Option (Fl × PS)) rfl; exact fun {f} {h} _ => f
theorem ellW_9b_1 : ellT1 ellS_9b_1 ellF_9b_1 := by with_reducible exact WX.spec ellX_9b_1 (by kernel_rfl)
@[reducible] noncomputable def ellX_9 : WX (ellT1 ellS_9) := .mk _ (by with_reducible exact fun w mg mb fns C doc pm cdv L g K => (X1.for K (200) (Ev.var K (i := 2) (b := false) (by kernel_rfl) (hd := by kernel_rfl)) (Tg.name K (i := 5) (b := false) (by kernel_rfl)) (Xs.cons (ellW_9b_0 w mg mb fns C doc pm cdv L g K) (Xs.cons (ellW_9b_1 w mg mb fns C doc pm cdv L g K) (Xs.cons (ellW_9b_2 w mg mb fns C doc pm cdv L g K) (Xs.nil)))) (hg := by intros; kernel_rfl) (hs := by intros; kernel_rfl)))
noncomputable def ellF_9 : PS → Option (Fl × PS) := by with_reducible refine (?g : {f : PS → Option (Fl × PS)} → {h : ellT1 ellS_9 f} → ellX_9 = .mk f h → PS → Option (Fl × PS)) rfl; exact fun {f} {h} _ => f
theorem ellW_9 : ellT1 ellS_9 ellF_9 := by with_reducible exact WX.spec ellX_9 (by kernel_rfl)
@[reducible] noncomputable def ellX_0t_0 : WX (ellT1 ellS_0t_0) := .mk _ (by with_reducible exact fun w mg mb fns C doc pm cdv L g K => (X1.ret (Ev.cmp (Ev.var K (i := 0) (b := false) (by kernel_rfl) (hd := by kernel_rfl)) (Ev.var K (i := 1) (b := false) (by kernel_rfl) (hd := by kernel_rfl)) (Op2.eqA K) (hm := by kernel_rfl))))
noncomputable def ellF_0t_0 : PS → Option (Fl × PS) := by with_reducible refine (?g : {f : PS → Option (Fl × PS)} → {h : ellT1 ellS_0t_0 f} → ellX_0t_0 = .mk f h → PS → Option (Fl × PS)) rfl; exact fun {f} {h} _ => f
theorem ellW_0t_0 : ellT1 ellS_0t_0 ellF_0t_0 := by with_reducible exact WX.spec ellX_0t_0 (by kernel_rfl)
@[reducible] noncomputable def ellX_0 : WX (ellT1 ellS_0) := .mk _ (by with_reducible exact fun w mg mb fns C doc pm cdv L g K => (X1.ite (Ts.cmp (g_ell K (VG.f K) (by kernel_rfl)) (Ev.var K (i := 0) (b := false) (by kernel_rfl) (hd := by kernel_rfl)) (Op2.notIn) (hm := by kernel_rfl)) (Xs.cons (ellW_0t_0 w mg mb fns C doc pm cdv L g K) (Xs.nil)) (Xs.nil)))
noncomputable def ellF_0 : PS → Option (Fl × PS) := by with_reducible refine (?g : {f : PS → Option (Fl × PS)} → {h : ellT1 ellS_0 f} → ellX_0 = .mk f h → PS → Option (Fl × PS)) rfl; exact fun {f} {h} _ => f
theorem ellW_0 : ellT1 ellS_0 ellF_0 := by with_reducible exact WX.spec ellX_0 (by kernel_rfl)
@[reducible] noncomputable def ellX_2 : WX (ellT1 ellS_2) := .mk _ (by with_reducible exact fun w mg mb fns C doc pm cdv L g K => (X1.asrt (Ts.cmp (Ev.callB (g_len K (VG.f K) (by kernel_rfl)) (Evs.cons (Ev.var K (i := 2) (b := false) (by kernel_rfl) (hd := by kernel_rfl)) (Evs.nil) (by kernel_rfl)) (Cl.len)) (Ev.int) (Op2.ge) (hm := by kernel_rfl))))
noncomputable def ellF_2 : PS → Option (Fl × PS) := by with_reducible refine (?g : {f : PS → Option (Fl × PS)} → {h : ellT1 ellS_2 f} → ellX_2 = .mk f h → PS → Option (Fl × PS)) rfl; exact fun {f} {h} _ => f
theorem ellW_2 : ellT1 ellS_2 ellF_2 := by with_reducible exact WX.spec ellX_2 (by kernel_rfl)
@[reducible] noncomputable def ellX_5t_0t_1 : WX (ellT1 ellS_5t_0t_1) := .mk _ (by with_reducible exact fun w mg mb fns C doc pm cdv L g K => (X1.delSub (Ev.var K (i := 2) (b := false) (by kernel_rfl) (hd := by kernel_rfl)) (Ev.int)))
noncomputable def ellF_5t_0t_1 : PS → Option (Fl × PS) := by with_reducible refine (?g : {f : PS → Option (Fl × PS)} → {h : ellT1 ellS_5t_0t_1 f} → ellX_5t_0t_1 = .mk f h → PS → Option (Fl × PS)) rfl; exact fun {f} {h} _ => f
theorem ellW_5t_0t_1 : ellT1 ellS_5t_0t_1 ellF_5t_0t_1 := by with_reducible exact WX.spec ellX_5t_0t_1 (by kernel_rfl)
@[reducible] noncomputable def ellX_5t_0t_0 : WX (ellT1 ellS_5t_0t_0) := .mk _ (by with_reducible exact fun w mg mb fns C doc pm cdv L g K => (X1.assign K (i := 3) (b := false) (by kernel_rfl) (Ev.callB (g_len K (VG.f K) (by kernel_rfl)) (Evs.cons (Ev.var K (i := 5) (b := false) (by kernel_rfl) (hd := by kernel_rfl)) (Evs.nil) (by kernel_rfl)) (Cl.len)) (hs := by kernel_rfl)))
noncomputable def ellF_5t_0t_0 : PS → Option (Fl × PS) := by with_reducible refine (?g : {f : PS → Option (Fl × PS)} → {h : ellT1 ellS_5t_0t_0 f} → ellX_5t_0t_0 = .mk f h → PS → Option (Fl × PS)) rfl; exact fun {f} {h} _ => f
theorem ellW_5t_0t_0 : ellT1 ellS_5t_0t_0 ellF_5t_0t_0 := by with_reducible exact WX.spec ellX_5t_0t_0 (by kernel_rfl)
@[reducible] noncomputable def ellX_5t_0e_0 : WX (ellT1 ellS_5t_0e_0) := .mk _ (by with_reducible exact fun w mg mb fns C doc pm cdv L g K => (X1.ret (Ev.bool (b := false))))
noncomputable def ellF_5t_0e_0 : PS → Option (Fl × PS) := by with_reducible refine (?g : {f : PS → Option (Fl × PS)} → {h : ellT1 ellS_5t_0e_0 f} → ellX_5t_0e_0 = .mk f h → PS → Option (Fl × PS)) rfl; exact fun {f} {h} _ => f
theorem ellW_5t_0e_0 : ellT1 ellS_5t_0e_0 ellF_5t_0e_0 := by with_reducible exact WX.spec ellX_5t_0e_0 (by kernel_rfl)
@[reducible] noncomputable def ellX_5t_0 : WX (ellT1 ellS_5t_0) := .mk _ (by with_reducible exact fun w mg mb fns C doc pm cdv L g K => (X1.ite (Ts.val (Ev.meth PySem.F.plainAttrs_str PySem.F.slot_str_startswith PySem.F.type_str_startswith (Ev.var K (i := 1) (b := false) (by kernel_rfl) (hd := by kernel_rfl)) (Evs.cons (Ev.var K (i := 5) (b := false) (by kernel_rfl) (hd := by kernel_rfl)) (Evs.nil) (by kernel_rfl)) (Cl.starts) (hbase := by kernel_rfl) (hl := by kernel_rfl) (hline := by kernel_rfl)) (hi := by kernel_rfl)) (Xs.cons (ellW_5t_0t_0 w mg mb fns C doc pm cdv L g K) (Xs.cons (ellW_5t_0t_1 w mg mb fns C doc pm cdv L g K) (Xs.nil))) (Xs.cons (ellW_5t_0e_0 w mg mb fns C doc pm cdv L g K) (Xs.nil))))
noncomputable def ellF_5t_0 : PS → Option (Fl × PS) := by with_reducible refine (?g : {f : PS → Option (Fl × PS)} → {h : ellT1 ellS_5t_0 f} → ellX_5t_0 = .mk f h → PS → Option (Fl × PS)) rfl; exact fun {f} {h} _ => f
theorem ellW_5t_0 : ellT1 ellS_5t_0 ellF_5t_0 := by with_reducible exact WX.spec ellX_5t_0 (by kernel_rfl)
@[reducible] noncomputable def ellX_5 : WX (ellT1 ellS_5) := .mk _ (by with_reducible exact fun w mg mb fns C doc pm cdv L g K => (X1.ite (Ts.val (Ev.var K (i := 5) (b := false) (by kernel_rfl) (hd := by kernel_rfl)) (hi := by kernel_rfl)) (Xs.cons (ellW_5t_0 w mg mb fns C doc pm cdv L g K) (Xs.nil)) (Xs.nil)))
noncomputable def ellF_5 : PS → Option (Fl × PS) := by with_reducible refine (?g : {f : PS → Option (Fl × PS)} → {h : ellT1 ellS_5 f} → ellX_5 = .mk f h → PS → Option (Fl × PS)) rfl; exact fun {f} {h} _ => f
theorem ellW_5 : ellT1 ellS_5 ellF_5 := by with_reducible exact WX.spec ellX_5 (by kernel_rfl)
@[reducible] noncomputable def ellX_10 : WX (ellT1 ellS_10) := .mk _ (by with_reducible exact fun w mg mb fns C doc pm cdv L g K => (X1.ret (Ev.bool (b := true))))
noncomputable def ellF_10 : PS → Option (Fl × PS) := by with_reducible refine (?g : {f : PS → Option (Fl × PS)} → {h : ellT1 ellS_10 f} → ellX_10 = .mk f h → PS → Option (Fl × PS)) rfl; exact fun {f} {h} _ => f
theorem ellW_10 : ellT1 ellS_10 ellF_10 := by with_reducible exact WX.spec ellX_10 (by kernel_rfl)
@[reducible] noncomputable def ellX_3 : WX (ellT1 ellS_3) := .mk _ (by with_reducible exact fun w mg mb fns C doc pm cdv L g K => (X1.tupS K (names := [Str.ofString "startpos", Str.ofString "endpos"]) (Tnb.cons (b := false) (i := 4) (by kernel_rfl) (Tnb.cons (b := false) (i := 3) (by kernel_rfl) (Tnb.nil))) (Ev.tup (Evs.cons (Ev.int) (Evs.cons (Ev.callB (g_len K (VG.f K) (by kernel_rfl)) (Evs.cons (Ev.var K (i := 1) (b := false) (by kernel_rfl) (hd := by kernel_rfl)) (Evs.nil) (by kernel_rfl)) (Cl.len)) (Evs.nil) (by kernel_rfl)) (by kernel_rfl))) (hs := by kernel_rfl) (hw := by kernel_rfl)))
noncomputable def ellF_3 : PS → Option (Fl × PS) := by with_reducible refine (?g : {f : PS → Option (Fl × PS)} → {h : ellT1 ellS_3 f} → ellX_3 = .mk f h → PS → Option (Fl × PS)) rfl; exact fun {f} {h} _ => f
theorem ellW_3 : ellT1 ellS_3 ellF_3 := by with_reducible exact WX.spec ellX_3 (by kernel_rfl)
@[reducible] noncomputable def ellX : WX (ellT [ellS_0, ellS_1, ellS_2, ellS_3, ellS_4, ellS_5, ellS_6, ellS_7, ellS_8, ellS_9, ellS_10]) := .mk _ (by with_reducible exact fun w mg mb fns C doc pm cdv L g K => (Xs.cons (ellW_0 w mg mb fns C doc pm cdv L g K) (Xs.cons (ellW_1 w mg mb fns C doc pm cdv L g K) (Xs.cons (ellW_2 w mg mb fns C doc pm cdv L g K) (Xs.cons (ellW_3 w mg mb fns C doc pm cdv L g K) (Xs.cons (ellW_4 w mg mb fns C doc pm cdv L g K) (Xs.cons (ellW_5 w mg mb fns C doc pm cdv L g K) (Xs.cons (ellW_6 w mg mb fns C doc pm cdv L g K) (Xs.cons (ellW_7 w mg mb fns C doc pm cdv L g K) (Xs.cons (ellW_8 w mg mb fns C doc pm cdv L g K) (Xs.cons (ellW_9 w mg mb fns C doc pm cdv L g K) (Xs.cons (ellW_10 w mg mb fns C doc pm cdv L g K) (Xs.nil)))))))))))))
noncomputable def ellF : PS → Option (Fl × PS) := by with_reducible refine (?g : {f : PS → Option (Fl × PS)} → {h : ellT [ellS_0, ellS_1, ellS_2, ellS_3, ellS_4, ellS_5, ellS_6, ellS_7, ellS_8, ellS_9, ellS_10] f} → ellX = .mk f h → PS → Option (Fl × PS)) rfl; exact fun {f} {h} _ => f
theorem ellBi : dEllB = [ellS_0, ellS_1, ellS_2, ellS_3, ellS_4, ellS_5, ellS_6, ellS_7, ellS_8, ellS_9, ellS_10] := by kernel_rfl
theorem ellW : ellT dEllB ellF := by rw [ellBi]; with_reducible exact WX.spec ellX (by kernel_rfl)
noncomputable def dTypP : Arguments := fnP (stAt 15)
noncomputable def dTypB : List Stmt := fnB (stAt 15)
noncomputable def dTypS : Scope := fnS (stAt 15)
@[reducible] noncomputable def dTyp (doc pm cdv : Value) : FnD := { f := 188, name := "_law_typed", qual := "_law_typed", params := dTypP, body := dTypB, scope := dTypS, dV := .none, kV := .none, doc, pm, cdv, ct := .none, an := none, pn := ["n"], rn := ["kind", "form", "letter", "block", "code"] }
@[reducible] noncomputable def typT1 (s : Stmt) (f : PS → Option (Fl × PS)) : Prop := ∀ (w : World) (mg : Str → Option Value) (mb : Str → Option Value) (fns : List FnD) (C : Cx) (doc : Value) (pm : Value) (cdv : Value) (L : Addr) (g : Heap) (K : COk1 (gd1 w mg mb fns) (cxF C (dTyp doc pm cdv) L g)), X1 (gd1 w mg mb fns) (cxF C (dTyp doc pm cdv) L g) s f
@[reducible] noncomputable def typT (s : List Stmt) (f : PS → Option (Fl × PS)) : Prop := ∀ (w : World) (mg : Str → Option Value) (mb : Str → Option Value) (fns : List FnD) (C : Cx) (doc : Value) (pm : Value) (cdv : Value) (L : Addr) (g : Heap) (K : COk1 (gd1 w mg mb fns) (cxF C (dTyp doc pm cdv) L g)), Xs (gd1 w mg mb fns) (cxF C (dTyp doc pm cdv) L g) s f
noncomputable abbrev typS_0 : Stmt := pick (s := nthS dTypB 0) (t := .Assign _ _ _) rfl
noncomputable abbrev typS_4 : Stmt := pick (s := nthS dTypB 4) (t := .If _ _ _ _) rfl
noncomputable abbrev typS_1 : Stmt := pick (s := nthS dTypB 1) (t := .If _ _ _ _) rfl
noncomputable abbrev typS_5 : Stmt := pick (s := nthS dTypB 5) (t := .Return _ _) rfl
noncomputable abbrev typS_3 : Stmt := pick (s := nthS dTypB 3) (t := .If _ _ _ _) rfl
noncomputable abbrev typS_2 : Stmt := pick (s := nthS dTypB 2) (t := .If _ _ _ _) rfl
noncomputable abbrev typS_4t_0 : Stmt := pick (s := nthS (sBody typS_4) 0) (t := .Return _ _) rfl
noncomputable abbrev typS_1t_1 : Stmt := pick (s := nthS (sBody typS_1) 1) (t := .If _ _ _ _) rfl
noncomputable abbrev typS_1t_0 : Stmt := pick (s := nthS (sBody typS_1) 0) (t := .Assign _ _ _) rfl
noncomputable abbrev typS_1t_2 : Stmt := pick (s := nthS (sBody typS_1) 2) (t := .Assign _ _ _) rfl
noncomputable abbrev typS_1t_3 : Stmt := pick (s := nthS (sBody typS_1) 3) (t := .Return _ _) rfl
noncomputable abbrev typS_3t_0 : Stmt := pick (s := nthS (sBody typS_3) 0) (t := .Return _ _) rfl
noncomputable abbrev typS_2t_0 : Stmt := pick (s := nthS (sBody typS_2) 0) (t := .Assign _ _ _) rfl
noncomputable abbrev typS_2t_1 : Stmt := pick (s := nthS (sBody typS_2) 1) (t := .Return _ _) rfl
noncomputable abbrev typS_1t_1t_0 : Stmt := pick (s := nthS (sBody typS_1t_1) 0) (t := .Return _ _) rfl
@[reducible] noncomputable def typX_0 : WX (typT1 typS_0) := .mk _ (by with_reducible exact fun w mg mb fns C doc pm cdv L g K => (X1.tupS K (names := [Str.ofString "kind", Str.ofString "form"]) (Tnb.cons (b := false) (i := 2) (by kernel_rfl) (Tnb.cons (b := false) (i := 1) (by kernel_rfl) (Tnb.nil))) (Ev.tup (Evs.cons (Ev.bin (Ev.var K (i := 0) (b := false) (by kernel_rfl) (hd := by kernel_rfl)) (Ev.int) (Op2.mod)) (Evs.cons (Ev.bin (Ev.var K (i := 0) (b := false) (by kernel_rfl) (hd := by kernel_rfl)) (Ev.int) (Op2.fdiv)) (Evs.nil) (by kernel_rfl)) (by kernel_rfl))) (hs := by kernel_rfl) (hw := by kernel_rfl)))
noncomputable def typF_0 : PS → Option (Fl × PS) := by with_reducible refine (?g : {f : PS → Option (Fl × PS)} → {h : typT1 typS_0 f} → typX_0 = .mk f h → PS → Option (Fl × PS)) rfl; exact fun {f} {h} _ => f
theorem typW_0 : typT1 typS_0 typF_0 := by with_reducible exact WX.spec typX_0 (by kernel_rfl)
@[reducible] noncomputable def typX_4t_0 : WX (typT1 typS_4t_0) := .mk _ (by with_reducible exact fun w mg mb fns C doc pm cdv L g K => (X1.ret (Ev.tup (Evs.cons (Ev.callB (g_chr K (VG.f K) (by kernel_rfl)) (Evs.cons (Ev.sub K (Ev.tup (Evs.cons (Ev.int) (Evs.cons (Ev.int) (Evs.cons (Ev.int) (Evs.cons (Ev.int) (Evs.cons (Ev.int) (Evs.cons (Ev.int) (Evs.cons (Ev.int) (Evs.cons (Ev.int) (Evs.cons (Ev.int) (Evs.cons (Ev.int) (Evs.cons (Ev.int) (Evs.nil) (by kernel_rfl)) (by kernel_rfl)) (by kernel_rfl)) (by kernel_rfl)) (by kernel_rfl)) (by kernel_rfl)) (by kernel_rfl)) (by kernel_rfl)) (by kernel_rfl)) (by kernel_rfl)) (by kernel_rfl))) (Ev.bin (Ev.var K (i := 2) (b := false) (by kernel_rfl) (hd := by kernel_rfl)) (Ev.int) (Op2.mod)) (hsl := by intros; kernel_rfl)) (Evs.nil) (by kernel_rfl)) (Cl.chr)) (Evs.cons (Ev.str ([]) (hl := by kernel_rfl)) (Evs.nil) (by kernel_rfl)) (by kernel_rfl)))))
noncomputable def typF_4t_0 : PS → Option (Fl × PS) := by with_reducible refine (?g : {f : PS → Option (Fl × PS)} → {h : typT1 typS_4t_0 f} → typX_4t_0 = .mk f h → PS → Option (Fl × PS)) rfl; exact fun {f} {h} _ => f
theorem typW_4t_0 : typT1 typS_4t_0 typF_4t_0 := by with_reducible exact WX.spec typX_4t_0 (by kernel_rfl)
@[reducible] noncomputable def typX_4 : WX (typT1 typS_4) := .mk _ (by with_reducible exact fun w mg mb fns C doc pm cdv L g K => (X1.ite (Ts.cmp (Ev.bin (Ev.var K (i := 2) (b := false) (by kernel_rfl) (hd := by kernel_rfl)) (Ev.int) (Op2.mod)) (Ev.int) (Op2.lt) (hm := by kernel_rfl)) (Xs.cons (typW_4t_0 w mg mb fns C doc pm cdv L g K) (Xs.nil)) (Xs.nil)))
noncomputable def typF_4 : PS → Option (Fl × PS) := by with_reducible refine (?g : {f : PS → Option (Fl × PS)} → {h : typT1 typS_4 f} → typX_4 = .mk f h → PS → Option (Fl × PS)) rfl; exact fun {f} {h} _ => f
theorem typW_4 : typT1 typS_4 typF_4 := by with_reducible exact WX.spec typX_4 (by kernel_rfl)
@[reducible] noncomputable def typX_1t_1t_0 : WX (typT1 typS_1t_1t_0) := .mk _ (by with_reducible exact fun w mg mb fns C doc pm cdv L g K => (X1.ret (Ev.tup (Evs.cons (Ev.callB (g_chr K (VG.f K) (by kernel_rfl)) (Evs.cons (Ev.bin (Ev.callB (g_ord K (VG.f K) (by kernel_rfl)) (Evs.cons (Ev.var K (i := 3) (b := false) (by kernel_rfl) (hd := by kernel_rfl)) (Evs.nil) (by kernel_rfl)) (Cl.ord)) (Ev.bin (Ev.int) (Ev.bin (Ev.var K (i := 2) (b := false) (by kernel_rfl) (hd := by kernel_rfl)) (Ev.int) (Op2.mod)) (Op2.mulL)) (Op2.sub)) (Evs.nil) (by kernel_rfl)) (Cl.chr)) (Evs.cons (Ev.var K (i := 3) (b := false) (by kernel_rfl) (hd := by kernel_rfl)) (Evs.nil) (by kernel_rfl)) (by kernel_rfl)))))
noncomputable def typF_1t_1t_0 : PS → Option (Fl × PS) := by with_reducible refine (?g : {f : PS → Option (Fl × PS)} → {h : typT1 typS_1t_1t_0 f} → typX_1t_1t_0 = .mk f h → PS → Option (Fl × PS)) rfl; exact fun {f} {h} _ => f
theorem typW_1t_1t_0 : typT1 typS_1t_1t_0 typF_1t_1t_0 := by with_reducible exact WX.spec typX_1t_1t_0 (by kernel_rfl)
@[reducible] noncomputable def typX_1t_1 : WX (typT1 typS_1t_1) := .mk _ (by with_reducible exact fun w mg mb fns C doc pm cdv L g K => (X1.ite (Ts.cmp (Ev.bin (Ev.var K (i := 2) (b := false) (by kernel_rfl) (hd := by kernel_rfl)) (Ev.int) (Op2.mod)) (Ev.int) (Op2.lt) (hm := by kernel_rfl)) (Xs.cons (typW_1t_1t_0 w mg mb fns C doc pm cdv L g K) (Xs.nil)) (Xs.nil)))
noncomputable def typF_1t_1 : PS → Option (Fl × PS) := by with_reducible refine (?g : {f : PS → Option (Fl × PS)} → {h : typT1 typS_1t_1 f} → typX_1t_1 = .mk f h → PS → Option (Fl × PS)) rfl; exact fun {f} {h} _ => f
theorem typW_1t_1 : typT1 typS_1t_1 typF_1t_1 := by with_reducible exact WX.spec typX_1t_1 (by kernel_rfl)
@[reducible] noncomputable def typX_1t_0 : WX (typT1 typS_1t_0) := .mk _ (by with_reducible exact fun w mg mb fns C doc pm cdv L g K => (X1.assign K (i := 3) (b := false) (by kernel_rfl) (Ev.sub K (Ev.str ([97, 98, 107, 109]) (hl := by kernel_rfl)) (Ev.var K (i := 1) (b := false) (by kernel_rfl) (hd := by kernel_rfl)) (hsl := by intros; kernel_rfl)) (hs := by kernel_rfl)))
noncomputable def typF_1t_0 : PS → Option (Fl × PS) := by with_reducible refine (?g : {f : PS → Option (Fl × PS)} → {h : typT1 typS_1t_0 f} → typX_1t_0 = .mk f h → PS → Option (Fl × PS)) rfl; exact fun {f} {h} _ => f
theorem typW_1t_0 : typT1 typS_1t_0 typF_1t_0 := by with_reducible exact WX.spec typX_1t_0 (by kernel_rfl)
@[reducible] noncomputable def typX_1t_2 : WX (typT1 typS_1t_2) := .mk _ (by with_reducible exact fun w mg mb fns C doc pm cdv L g K => (X1.assign K (i := 4) (b := false) (by kernel_rfl) (Ev.sub K (Ev.tup (Evs.cons (Ev.int) (Evs.cons (Ev.int) (Evs.cons (Ev.int) (Evs.cons (Ev.int) (Evs.cons (Ev.int) (Evs.cons (Ev.int) (Evs.cons (Ev.int) (Evs.cons (Ev.int) (Evs.cons (Ev.int) (Evs.cons (Ev.int) (Evs.nil) (by kernel_rfl)) (by kernel_rfl)) (by kernel_rfl)) (by kernel_rfl)) (by kernel_rfl)) (by kernel_rfl)) (by kernel_rfl)) (by kernel_rfl)) (by kernel_rfl)) (by kernel_rfl))) (Ev.bin (Ev.bin (Ev.var K (i := 2) (b := false) (by kernel_rfl) (hd := by kernel_rfl)) (Ev.int) (Op2.mod)) (Ev.int) (Op2.sub)) (hsl := by intros; kernel_rfl)) (hs := by kernel_rfl)))
noncomputable def typF_1t_2 : PS → Option (Fl × PS) := by with_reducible refine (?g : {f : PS → Option (Fl × PS)} → {h : typT1 typS_1t_2 f} → typX_1t_2 = .mk f h → PS → Option (Fl × PS)) rfl; exact fun {f} {h} _ => f
theorem typW_1t_2 : typT1 typS_1t_2 typF_1t_2 := by with_reducible exact WX.spec typX_1t_2 (by kernel_rfl)
@[reducible] noncomputable def typX_1t_3 : WX (typT1 typS_1t_3) := .mk _ (by with_reducible exact fun w mg mb fns C doc pm cdv L g K => (X1.ret (Ev.tup (Evs.cons (Ev.callB (g_chr K (VG.f K) (by kernel_rfl)) (Evs.cons (Ev.bin (Ev.bin (Ev.int) (Ev.bin (Ev.int) (Ev.var K (i := 4) (b := false) (by kernel_rfl) (hd := by kernel_rfl)) (Op2.mulL)) (Op2.add)) (Ev.callB (g_ord K (VG.f K) (by kernel_rfl)) (Evs.cons (Ev.var K (i := 3) (b := false) (by kernel_rfl) (hd := by kernel_rfl)) (Evs.nil) (by kernel_rfl)) (Cl.ord)) (Op2.add)) (Evs.nil) (by kernel_rfl)) (Cl.chr)) (Evs.cons (Ev.var K (i := 3) (b := false) (by kernel_rfl) (hd := by kernel_rfl)) (Evs.nil) (by kernel_rfl)) (by kernel_rfl)))))
noncomputable def typF_1t_3 : PS → Option (Fl × PS) := by with_reducible refine (?g : {f : PS → Option (Fl × PS)} → {h : typT1 typS_1t_3 f} → typX_1t_3 = .mk f h → PS → Option (Fl × PS)) rfl; exact fun {f} {h} _ => f
theorem typW_1t_3 : typT1 typS_1t_3 typF_1t_3 := by with_reducible exact WX.spec typX_1t_3 (by kernel_rfl)
@[reducible] noncomputable def typX_1 : WX (typT1 typS_1) := .mk _ (by with_reducible exact fun w mg mb fns C doc pm cdv L g K => (X1.ite (Ts.cmp (Ev.var K (i := 1) (b := false) (by kernel_rfl) (hd := by kernel_rfl)) (Ev.int) (Op2.lt) (hm := by kernel_rfl)) (Xs.cons (typW_1t_0 w mg mb fns C doc pm cdv L g K) (Xs.cons (typW_1t_1 w mg mb fns C doc pm cdv L g K) (Xs.cons (typW_1t_2 w mg mb fns C doc pm cdv L g K) (Xs.cons (typW_1t_3 w mg mb fns C doc pm cdv L g K) (Xs.nil))))) (Xs.nil)))
noncomputable def typF_1 : PS → Option (Fl × PS) := by with_reducible refine (?g : {f : PS → Option (Fl × PS)} → {h : typT1 typS_1 f} → typX_1 = .mk f h → PS → Option (Fl × PS)) rfl; exact fun {f} {h} _ => f
theorem typW_1 : typT1 typS_1 typF_1 := by with_reducible exact WX.spec typX_1 (by kernel_rfl)
@[reducible] noncomputable def typX_5 : WX (typT1 typS_5) := .mk _ (by with_reducible exact fun w mg mb fns C doc pm cdv L g K => (X1.ret (Ev.tup (Evs.cons (Ev.callB (g_chr K (VG.f K) (by kernel_rfl)) (Evs.cons (Ev.bin (Ev.int) (Ev.bin (Ev.var K (i := 2) (b := false) (by kernel_rfl) (hd := by kernel_rfl)) (Ev.int) (Op2.mod)) (Op2.add)) (Evs.nil) (by kernel_rfl)) (Cl.chr)) (Evs.cons (Ev.str ([]) (hl := by kernel_rfl)) (Evs.nil) (by kernel_rfl)) (by kernel_rfl)))))
noncomputable def typF_5 : PS → Option (Fl × PS) := by with_reducible refine (?g : {f : PS → Option (Fl × PS)} → {h : typT1 typS_5 f} → typX_5 = .mk f h → PS → Option (Fl × PS)) rfl; exact fun {f} {h} _ => f
theorem typW_5 : typT1 typS_5 typF_5 := by with_reducible exact WX.spec typX_5 (by kernel_rfl)
@[reducible] noncomputable def typX_3t_0 : WX (typT1 typS_3t_0) := .mk _ (by with_reducible exact fun w mg mb fns C doc pm cdv L g K => (X1.ret (Ev.tup (Evs.cons (Ev.str ([46]) (hl := by kernel_rfl)) (Evs.cons (Ev.str ([46]) (hl := by kernel_rfl)) (Evs.nil) (by kernel_rfl)) (by kernel_rfl)))))
noncomputable def typF_3t_0 : PS → Option (Fl × PS) := by with_reducible refine (?g : {f : PS → Option (Fl × PS)} → {h : typT1 typS_3t_0 f} → typX_3t_0 = .mk f h → PS → Option (Fl × PS)) rfl; exact fun {f} {h} _ => f
theorem typW_3t_0 : typT1 typS_3t_0 typF_3t_0 := by with_reducible exact WX.spec typX_3t_0 (by kernel_rfl)
@[reducible] noncomputable def typX_3 : WX (typT1 typS_3) := .mk _ (by with_reducible exact fun w mg mb fns C doc pm cdv L g K => (X1.ite (Ts.cmp (Ev.var K (i := 1) (b := false) (by kernel_rfl) (hd := by kernel_rfl)) (Ev.int) (Op2.eqA K) (hm := by kernel_rfl)) (Xs.cons (typW_3t_0 w mg mb fns C doc pm cdv L g K) (Xs.nil)) (Xs.nil)))
noncomputable def typF_3 : PS → Option (Fl × PS) := by with_reducible refine (?g : {f : PS → Option (Fl × PS)} → {h : typT1 typS_3 f} → typX_3 = .mk f h → PS → Option (Fl × PS)) rfl; exact fun {f} {h} _ => f
theorem typW_3 : typT1 typS_3 typF_3 := by with_reducible exact WX.spec typX_3 (by kernel_rfl)
@[reducible] noncomputable def typX_2t_0 : WX (typT1 typS_2t_0) := .mk _ (by with_reducible exact fun w mg mb fns C doc pm cdv L g K => (X1.assign K (i := 5) (b := false) (by kernel_rfl) (Ev.sub K (Ev.tup (Evs.cons (Ev.int) (Evs.cons (Ev.int) (Evs.cons (Ev.int) (Evs.cons (Ev.int) (Evs.cons (Ev.int) (Evs.cons (Ev.int) (Evs.nil) (by kernel_rfl)) (by kernel_rfl)) (by kernel_rfl)) (by kernel_rfl)) (by kernel_rfl)) (by kernel_rfl))) (Ev.bin (Ev.var K (i := 1) (b := false) (by kernel_rfl) (hd := by kernel_rfl)) (Ev.int) (Op2.sub)) (hsl := by intros; kernel_rfl)) (hs := by kernel_rfl)))
noncomputable def typF_2t_0 : PS → Option (Fl × PS) := by with_reducible refine (?g : {f : PS → Option (Fl × PS)} → {h : typT1 typS_2t_0 f} → typX_2t_0 = .mk f h → PS → Option (Fl × PS)) rfl; exact fun {f} {h} _ => f
theorem typW_2t_0 : typT1 typS_2t_0 typF_2t_0 := by with_reducible exact WX.spec typX_2t_0 (by kernel_rfl)
@[reducible] noncomputable def typX_2t_1 : WX (typT1 typS_2t_1) := .mk _ (by with_reducible exact fun w mg mb fns C doc pm cdv L g K => (X1.ret (Ev.tup (Evs.cons (Ev.callB (g_chr K (VG.f K) (by kernel_rfl)) (Evs.cons (Ev.var K (i := 5) (b := false) (by kernel_rfl) (hd := by kernel_rfl)) (Evs.nil) (by kernel_rfl)) (Cl.chr)) (Evs.cons (Ev.sub K (Ev.tup (Evs.cons (Ev.str ([109, 97]) (hl := by kernel_rfl)) (Evs.cons (Ev.str ([107, 97]) (hl := by kernel_rfl)) (Evs.cons (Ev.str ([107, 98]) (hl := by kernel_rfl)) (Evs.cons (Ev.str ([109, 98]) (hl := by kernel_rfl)) (Evs.cons (Ev.str ([107, 109]) (hl := by kernel_rfl)) (Evs.cons (Ev.str ([107, 107]) (hl := by kernel_rfl)) (Evs.nil) (by kernel_rfl)) (by kernel_rfl)) (by kernel_rfl)) (by kernel_rfl)) (by kernel_rfl)) (by kernel_rfl))) (Ev.bin (Ev.var K (i := 1) (b := false) (by kernel_rfl) (hd := by kernel_rfl)) (Ev.int) (Op2.sub)) (hsl := by intros; kernel_rfl)) (Evs.nil) (by kernel_rfl)) (by kernel_rfl)))))
noncomputable def typF_2t_1 : PS → Option (Fl × PS) := by with_reducible refine (?g : {f : PS → Option (Fl × PS)} → {h : typT1 typS_2t_1 f} → typX_2t_1 = .mk f h → PS → Option (Fl × PS)) rfl; exact fun {f} {h} _ => f
theorem typW_2t_1 : typT1 typS_2t_1 typF_2t_1 := by with_reducible exact WX.spec typX_2t_1 (by kernel_rfl)
@[reducible] noncomputable def typX_2 : WX (typT1 typS_2) := .mk _ (by with_reducible exact fun w mg mb fns C doc pm cdv L g K => (X1.ite (Ts.cmp (Ev.var K (i := 1) (b := false) (by kernel_rfl) (hd := by kernel_rfl)) (Ev.int) (Op2.lt) (hm := by kernel_rfl)) (Xs.cons (typW_2t_0 w mg mb fns C doc pm cdv L g K) (Xs.cons (typW_2t_1 w mg mb fns C doc pm cdv L g K) (Xs.nil))) (Xs.nil)))
noncomputable def typF_2 : PS → Option (Fl × PS) := by with_reducible refine (?g : {f : PS → Option (Fl × PS)} → {h : typT1 typS_2 f} → typX_2 = .mk f h → PS → Option (Fl × PS)) rfl; exact fun {f} {h} _ => f
theorem typW_2 : typT1 typS_2 typF_2 := by with_reducible exact WX.spec typX_2 (by kernel_rfl)
@[reducible] noncomputable def typX : WX (typT [typS_0, typS_1, typS_2, typS_3, typS_4, typS_5]) := .mk _ (by with_reducible exact fun w mg mb fns C doc pm cdv L g K => (Xs.cons (typW_0 w mg mb fns C doc pm cdv L g K) (Xs.cons (typW_1 w mg mb fns C doc pm cdv L g K) (Xs.cons (typW_2 w mg mb fns C doc pm cdv L g K) (Xs.cons (typW_3 w mg mb fns C doc pm cdv L g K) (Xs.cons (typW_4 w mg mb fns C doc pm cdv L g K) (Xs.cons (typW_5 w mg mb fns C doc pm cdv L g K) (Xs.nil))))))))
noncomputable def typF : PS → Option (Fl × PS) := by with_reducible refine (?g : {f : PS → Option (Fl × PS)} → {h : typT [typS_0, typS_1, typS_2, typS_3, typS_4, typS_5] f} → typX = .mk f h → PS → Option (Fl × PS)) rfl; exact fun {f} {h} _ => f
theorem typBi : dTypB = [typS_0, typS_1, typS_2, typS_3, typS_4, typS_5] := by kernel_rfl
theorem typW : typT dTypB typF := by rw [typBi]; with_reducible exact WX.spec typX (by kernel_rfl)
theorem ack1 {w : World} {mg mb : Str → Option Value} {fns : List FnD} : AccK (gd1 w mg mb fns) where
  ga := by kernel_rfl
  can := by decide +kernel
  gt := by kernel_rfl
  app := by kernel_rfl
  list := by kernel_rfl
theorem sp_append {w : World} {mg mb : Str → Option Value} {fns : List FnD} {C : Cx} {V : Vw} (K : COk1 (gd1 w mg mb fns) C) (_VV : VG V) {o : Expr} {es : List Expr} {ap pos : Pos} {fo : PS → Option (PV × PS)} {f : PS → Option (List PV × PS)} (ho : Ev (gd1 w mg mb fns) C V o fo) (H : Evs (gd1 w mg mb fns) C V es f)
    (hbase : attributeBase o (Str.ofString "append") V.env (eval o V.env) = eval o V.env := by rfl) (hl : decide (es.length < 30) = true := by rfl) (hline : (ap.endLine == pos.line) = true := by rfl) :
    Ev (gd1 w mg mb fns) C V (.Call (.Attribute o (Str.ofString "append") ap) es [] pos) (fun σ => fbf fo σ fun v σ => if isAcc v σ = true then fbf f σ fun us σ => Mine.accApp (v :: us) σ else none) := Ev.accApp K ack1 ho H hbase hl hline
@[reducible] noncomputable def pushT1 (s : Stmt) (f : PS → Option (Fl × PS)) : Prop := ∀ (w : World) (mg : Str → Option Value) (mb : Str → Option Value) (fns : List FnD) (C : Cx) (L : Addr) (g : Heap) (K : COk1 (gd1 w mg mb fns) (cxF C dPush L g)), X1 (gd1 w mg mb fns) (cxF C dPush L g) s f
@[reducible] noncomputable def pushT (s : List Stmt) (f : PS → Option (Fl × PS)) : Prop := ∀ (w : World) (mg : Str → Option Value) (mb : Str → Option Value) (fns : List FnD) (C : Cx) (L : Addr) (g : Heap) (K : COk1 (gd1 w mg mb fns) (cxF C dPush L g)), Xs (gd1 w mg mb fns) (cxF C dPush L g) s f
noncomputable abbrev pushS_0 : Stmt := pick (s := nthS dPushB 0) (t := .Expr _ _) rfl
@[reducible] noncomputable def pushX_0 : WX (pushT1 pushS_0) := .mk _ (by with_reducible exact fun w mg mb fns C L g K => (X1.expr (sp_append K (VG.f K) (Ev.var K (i := 0) (b := false) (by kernel_rfl) (hd := by kernel_rfl)) (Evs.cons (Ev.tup (Evs.cons (Ev.var K (i := 1) (b := false) (by kernel_rfl) (hd := by kernel_rfl)) (Evs.cons (Ev.var K (i := 2) (b := false) (by kernel_rfl) (hd := by kernel_rfl)) (Evs.nil) (by kernel_rfl)) (by kernel_rfl))) (Evs.nil) (by kernel_rfl)) (hbase := by kernel_rfl) (hl := by kernel_rfl) (hline := by kernel_rfl)) (hi := by kernel_rfl) (hs := by kernel_rfl)))
noncomputable def pushF_0 : PS → Option (Fl × PS) := by with_reducible refine (?g : {f : PS → Option (Fl × PS)} → {h : pushT1 pushS_0 f} → pushX_0 = .mk f h → PS → Option (Fl × PS)) rfl; exact fun {f} {h} _ => f
theorem pushW_0 : pushT1 pushS_0 pushF_0 := by with_reducible exact WX.spec pushX_0 (by kernel_rfl)
@[reducible] noncomputable def pushX : WX (pushT [pushS_0]) := .mk _ (by with_reducible exact fun w mg mb fns C L g K => (Xs.cons (pushW_0 w mg mb fns C L g K) (Xs.nil)))
noncomputable def pushF : PS → Option (Fl × PS) := by with_reducible refine (?g : {f : PS → Option (Fl × PS)} → {h : pushT [pushS_0] f} → pushX = .mk f h → PS → Option (Fl × PS)) rfl; exact fun {f} {h} _ => f
theorem pushBi : dPushB = [pushS_0] := by kernel_rfl
theorem pushW : pushT dPushB pushF := by rw [pushBi]; with_reducible exact WX.spec pushX (by kernel_rfl)
theorem push_fn {w : World} {mg mb : Str → Option Value} {fns : List FnD} : FnOk (gd1 w mg mb fns) dPush where
  obj := .head _
  kinds := fnChk_kinds (by kernel_rfl)
  nodup := fnChk_nodup (by kernel_rfl)
  nocell := fnChk_nocell (by kernel_rfl)
  co := rfl
  gen := rfl
  kind := rfl
  bind := fun s xs _ h => by
    obtain ⟨a, b, c, rfl⟩ := ls3 h
    exact BindsTo.of_eq rfl
theorem sp_push {w : World} {mg mb : Str → Option Value} {fns : List FnD} {C : Cx} {V : Vw} (K : COk1 (gd1 w mg mb fns) C) (hlv : 0 < C.lv) {o : Expr} {es : List Expr} {ap pos : Pos} {fo : PS → Option (PV × PS)} {f : PS → Option (List PV × PS)} (ho : Ev (gd1 w mg mb fns) C V o fo) (H : Evs (gd1 w mg mb fns) C V es f)
    (hbase : attributeBase o (Str.ofString "push") V.env (eval o V.env) = eval o V.env) (hl : decide (es.length < 30) = true) (hline : (ap.endLine == pos.line) = true) :
    Ev (gd1 w mg mb fns) C V (.Call (.Attribute o (Str.ofString "push") ap) es [] pos) (fun σ => fbf fo σ fun v σ => if isAcc v σ = true then fbf f σ fun us σ => fcall dPush pushF (v :: us) σ else none) := by
  obtain ⟨fo', h1, h2, _⟩ := K.gd.fn dPush (.head _)
  exact Ev.accM K ack1 (by kernel_rfl) (by kernel_rfl) h1 h2 (by decide) (by decide) ho H (Cl.fn K push_fn hlv fun L g K' => pushW w mg mb fns C L g K') hbase hl hline
theorem ack2 {w : World} {mg mb : Str → Option Value} {fns : List FnD} : AccK2 (gd1 w mg mb fns) where
  toAccK := ack1
  seq := by kernel_rfl
  get := by kernel_rfl
  set := by kernel_rfl
@[reducible] noncomputable def popFT1 (s : Stmt) (f : PS → Option (Fl × PS)) : Prop := ∀ (w : World) (mg : Str → Option Value) (mb : Str → Option Value) (fns : List FnD) (C : Cx) (L : Addr) (g : Heap) (K : COk1 (gd1 w mg mb fns) (cxF C dPopF L g)), X1 (gd1 w mg mb fns) (cxF C dPopF L g) s f
@[reducible] noncomputable def popFT (s : List Stmt) (f : PS → Option (Fl × PS)) : Prop := ∀ (w : World) (mg : Str → Option Value) (mb : Str → Option Value) (fns : List FnD) (C : Cx) (L : Addr) (g : Heap) (K : COk1 (gd1 w mg mb fns) (cxF C dPopF L g)), Xs (gd1 w mg mb fns) (cxF C dPopF L g) s f
noncomputable abbrev popFS_0 : Stmt := pick (s := nthS dPopFB 0) (t := .Assign _ _ _) rfl
noncomputable abbrev popFS_1 : Stmt := pick (s := nthS dPopFB 1) (t := .Assign _ _ _) rfl
noncomputable abbrev popFS_2 : Stmt := pick (s := nthS dPopFB 2) (t := .Return _ _) rfl
@[reducible] noncomputable def popFX_0 : WX (popFT1 popFS_0) := .mk _ (by with_reducible exact fun w mg mb fns C L g K => (X1.assign K (i := 2) (b := false) (by kernel_rfl) (Ev.accSl K (ack2) (Ev.var K (i := 0) (b := false) (by kernel_rfl) (hd := by kernel_rfl)) (Prt.some (Ev.var K (i := 1) (b := false) (by kernel_rfl) (hd := by kernel_rfl))) (Prt.none)) (hs := by kernel_rfl)))
noncomputable def popFF_0 : PS → Option (Fl × PS) := by with_reducible refine (?g : {f : PS → Option (Fl × PS)} → {h : popFT1 popFS_0 f} → popFX_0 = .mk f h → PS → Option (Fl × PS)) rfl; exact fun {f} {h} _ => f
theorem popFW_0 : popFT1 popFS_0 popFF_0 := by with_reducible exact WX.spec popFX_0 (by kernel_rfl)
@[reducible] noncomputable def popFX_1 : WX (popFT1 popFS_1) := .mk _ (by with_reducible exact fun w mg mb fns C L g K => (X1.accSet K (ack2) (Ev.lst (Evs.nil)) (Ev.var K (i := 0) (b := false) (by kernel_rfl) (hd := by kernel_rfl)) (Prt.some (Ev.var K (i := 1) (b := false) (by kernel_rfl) (hd := by kernel_rfl))) (Prt.none) (hs := by kernel_rfl)))
noncomputable def popFF_1 : PS → Option (Fl × PS) := by with_reducible refine (?g : {f : PS → Option (Fl × PS)} → {h : popFT1 popFS_1 f} → popFX_1 = .mk f h → PS → Option (Fl × PS)) rfl; exact fun {f} {h} _ => f
theorem popFW_1 : popFT1 popFS_1 popFF_1 := by with_reducible exact WX.spec popFX_1 (by kernel_rfl)
@[reducible] noncomputable def popFX_2 : WX (popFT1 popFS_2) := .mk _ (by with_reducible exact fun w mg mb fns C L g K => (X1.ret (Ev.var K (i := 2) (b := false) (by kernel_rfl) (hd := by kernel_rfl))))
noncomputable def popFF_2 : PS → Option (Fl × PS) := by with_reducible refine (?g : {f : PS → Option (Fl × PS)} → {h : popFT1 popFS_2 f} → popFX_2 = .mk f h → PS → Option (Fl × PS)) rfl; exact fun {f} {h} _ => f
theorem popFW_2 : popFT1 popFS_2 popFF_2 := by with_reducible exact WX.spec popFX_2 (by kernel_rfl)
@[reducible] noncomputable def popFX : WX (popFT [popFS_0, popFS_1, popFS_2]) := .mk _ (by with_reducible exact fun w mg mb fns C L g K => (Xs.cons (popFW_0 w mg mb fns C L g K) (Xs.cons (popFW_1 w mg mb fns C L g K) (Xs.cons (popFW_2 w mg mb fns C L g K) (Xs.nil)))))
noncomputable def popFF : PS → Option (Fl × PS) := by with_reducible refine (?g : {f : PS → Option (Fl × PS)} → {h : popFT [popFS_0, popFS_1, popFS_2] f} → popFX = .mk f h → PS → Option (Fl × PS)) rfl; exact fun {f} {h} _ => f
theorem popFBi : dPopFB = [popFS_0, popFS_1, popFS_2] := by kernel_rfl
theorem popFW : popFT dPopFB popFF := by rw [popFBi]; with_reducible exact WX.spec popFX (by kernel_rfl)
theorem popF_fn {w : World} {mg mb : Str → Option Value} {fns : List FnD} : FnOk (gd1 w mg mb fns) dPopF where
  obj := .tail _ (.head _)
  kinds := fnChk_kinds (by kernel_rfl)
  nodup := fnChk_nodup (by kernel_rfl)
  nocell := fnChk_nocell (by kernel_rfl)
  co := rfl
  gen := rfl
  kind := rfl
  bind := fun s xs X h => by
    obtain ⟨a, b, rfl⟩ := ls2 h
    exact BindsTo.of_defaults (T := 53) (o := ⟨.type "tuple", none, .seq #[.int 0 245] 0, #[]⟩) rfl (X _ _ (by kernel_rfl)) rfl rfl rfl
theorem aL_fn {w : World} {mg mb : Str → Option Value} {fns : List FnD} : FnOk (gd1 w mg mb fns) dAL where
  obj := .tail _ (.tail _ (.tail _ (.head _)))
  kinds := fnChk_kinds (by kernel_rfl)
  nodup := fnChk_nodup (by kernel_rfl)
  nocell := fnChk_nocell (by kernel_rfl)
  co := rfl
  gen := rfl
  kind := rfl
  bind := fun s xs _ h => by
    obtain ⟨a, rfl⟩ := ls1 h
    exact BindsTo.of_eq rfl
theorem aS_fn {w : World} {mg mb : Str → Option Value} {fns : List FnD} : FnOk (gd1 w mg mb fns) dAS where
  obj := .tail _ (.tail _ (.tail _ (.tail _ (.head _))))
  kinds := fnChk_kinds (by kernel_rfl)
  nodup := fnChk_nodup (by kernel_rfl)
  nocell := fnChk_nocell (by kernel_rfl)
  co := rfl
  gen := rfl
  kind := rfl
  bind := fun s xs _ h => by
    obtain ⟨a, rfl⟩ := ls1 h
    exact BindsTo.of_eq rfl
theorem aI_fn {w : World} {mg mb : Str → Option Value} {fns : List FnD} : FnOk (gd1 w mg mb fns) dAI where
  obj := .tail _ (.tail _ (.head _))
  kinds := fnChk_kinds (by kernel_rfl)
  nodup := fnChk_nodup (by kernel_rfl)
  nocell := fnChk_nocell (by kernel_rfl)
  co := rfl
  gen := rfl
  kind := rfl
  inj := by
    intro x y c h1 h2
    have key : ∀ z, List.lookup z [(("__class__" : Str), (32 : Addr))] = some c → z = "__class__" := by
      intro z h
      rw [List.lookup_cons] at h
      split at h
      · rename_i q; simpa using q
      · cases h
    rw [key x h1, key y h2]
  bind := fun s xs X h => by
    obtain ⟨a, b, rfl⟩ := ls2 h
    exact BindsTo.of_defaults (T := 37) (o := ⟨.type "tuple", none, .seq #[.int 0 226] 0, #[]⟩) rfl (X _ _ (by kernel_rfl)) rfl rfl rfl
theorem codeL {w : World} {mg mb : Str → Option Value} {fns : List FnD} : CodeK (gd1 w mg mb fns) 73 69 where
  obj := ⟨_, _, _, _, _, _, _, _, _, rfl, rfl, rfl, rfl, rfl, rfl, rfl, rfl, rfl⟩
  ne := by decide
theorem codeS {w : World} {mg mb : Str → Option Value} {fns : List FnD} : CodeK (gd1 w mg mb fns) 80 76 where
  obj := ⟨_, _, _, _, _, _, _, _, _, rfl, rfl, rfl, rfl, rfl, rfl, rfl, rfl, rfl⟩
  ne := by decide
theorem ack3 {w : World} {mg mb : Str → Option Value} {fns : List FnD} : AccK3 (gd1 w mg mb fns) where
  toAccK2 := ack2
  iter := by kernel_rfl
  bm := ⟨4, ⟨.type "module", some 0, .plain, #[]⟩, by kernel_rfl, by decide, by kernel_rfl, rfl, rfl, rfl⟩
theorem ack4 {w : World} {mg mb : Str → Option Value} {fns : List FnD} : AccK4 (gd1 w mg mb fns) where
  toAccK3 := ack3
  own := fun P n t u => by kernel_rfl
end Mine
end
section
open PySem PySem.W PyProof.Rows PySem.Calls
set_option maxHeartbeats 0
namespace Mine
section
variable {w : World} {mg mb : Str → Option Value} {fns : List FnD}
theorem newk : NewK (gd1 w mg mb fns) dAI 32 44 where
  ok := aI_fn
  body := ⟨_, _, _, _, _, _, _, _, _, rfl, _, fun _ => rfl⟩
  pn := rfl
  rn := rfl
  cl := rfl
  cell := ⟨_, _, _, rfl⟩
  cdv := rfl
  code := ⟨_, _, _, _, rfl, rfl, rfl, by kernel_rfl⟩
  par := ⟨_, rfl, rfl⟩
  n1 := by kernel_rfl
  n2 := by kernel_rfl
  top := by kernel_rfl
  sup := by kernel_rfl
  cls := ⟨_, rfl, rfl, rfl⟩
  seta := by kernel_rfl
  own := by kernel_rfl
  along := by kernel_rfl
  opq := by kernel_rfl
  makes := by kernel_rfl
  init := by kernel_rfl
  fty := by kernel_rfl
  keep := by kernel_rfl
noncomputable def fSumAcc (σ : PS) : Option (PV × PS) := fb (fvar 0 σ) fun v σ => match accParts 69 v σ with | some (n, ps) => some (.int (n + (totLen ps : Nat)), σ) | none => none
noncomputable def fJoinAcc (σ : PS) : Option (PV × PS) := fb (fvar 0 σ) fun v σ => match accParts 76 v σ with | some (_, ps) => some (.str (totCat ps), σ) | none => none
noncomputable def alF : PS → Option (Fl × PS) := fseq (fun σ => fb (fSumAcc σ) fun v σ => some (.ret v, σ)) (fun σ => some (.next, σ))
noncomputable def asF : PS → Option (Fl × PS) := fseq (fun σ => fb (fJoinAcc σ) fun v σ => some (.ret v, σ)) (fun σ => some (.next, σ))
theorem alW {C : Cx} {L : Addr} {g : Heap} (K : COk1 (gd1 w mg mb fns) (cxF C dAL L g)) : Xs (gd1 w mg mb fns) (cxF C dAL L g) dALB alF :=
  Xs.cons (X1.ret (Ev.sumAcc K ack4 codeL rfl rfl (by decide) (g_sum K (VG.f K) (by kernel_rfl)) rfl rfl (by decide) (by decide) (by decide) (by decide) (by decide) rfl (by decide) (by kernel_rfl) (by decide) (by decide))) Xs.nil
theorem asW {C : Cx} {L : Addr} {g : Heap} (K : COk1 (gd1 w mg mb fns) (cxF C dAS L g)) : Xs (gd1 w mg mb fns) (cxF C dAS L g) dASB asF :=
  Xs.cons (X1.ret (Ev.joinAcc (te := 212) K ack4 codeS rfl rfl (by decide) (by kernel_rfl) (by kernel_rfl) (by decide) rfl rfl (by decide) (by decide) (by decide) (by decide) (by decide) rfl (by decide) (by decide) (by decide) rfl rfl)) Xs.nil
end
end Mine
end
section
open PySem PySem.W PyProof.Rows PySem.Calls
set_option maxHeartbeats 0
namespace Mine
noncomputable def b1es (P : Params) : Array (Int × Value) := match (K1 P).lookup 125 with
  | some ⟨_, _, .set es _ _, _⟩ => es
  | _ => #[]
noncomputable def b1t (P : Params) : SetTable := match (K1 P).lookup 125 with
  | some ⟨_, _, .set _ _ t, _⟩ => t
  | _ => ⟨0, #[], #[], 0, false, 0, false⟩
noncomputable def b1L : List Int := [173, 847, 6150, 6155, 6156, 6157, 8203, 8204, 8205, 8288, 65279, 65024, 65025, 65026, 65027, 65028, 65029, 65030, 65031, 65032, 65033, 65034, 65035, 65036, 65037, 65038, 65039]
noncomputable def b1keys (P : Params) : List Int := (b1es P).toList.map fun e => match e.2 with | .int k _ => k | _ => 0
noncomputable def b1chk (P : Params) : Bool := (b1es P).toList.all fun e => match e.2 with | .int k _ => e.1 == hashInt k | _ => false
section
variable (P : Params)
theorem b1chk_is : b1chk P = true := by kernel_rfl
theorem b1all : ((b1keys P).all fun k => b1L.contains k) = true := by kernel_rfl
theorem b1all' : (b1L.all fun k => (b1keys P).contains k) = true := by kernel_rfl
theorem b1size : (b1es P).size = 27 := by kernel_rfl
theorem b1fits : (b1t P).fits 27 = true := by kernel_rfl
theorem b1_obj : (K1 P).lookup 125 = some ⟨.type "set", none, .set (b1es P) 29 (b1t P), #[]⟩ := by kernel_rfl
end
theorem b1_set {w : World} {h : Heap} (X : (K1 w.params).In h) : h.SetOf (intKind pg w) 125 (fun k => b1L.contains k) 27 := by
  have chk := b1chk_is w.params
  unfold b1chk at chk
  rw [List.all_eq_true] at chk
  have shape : ∀ e ∈ (b1es w.params).toList, ∃ k t, e.2 = .int k t ∧ e.1 = hashInt k := fun e he => by
    have := chk e he
    split at this
    · rename_i k t q; exact ⟨k, t, q, by simpa using this⟩
    · cases this
  refine ⟨_, b1es w.params, 29, b1t w.params, X _ _ (b1_obj w.params), ⟨rfl, rfl, rfl⟩, rfl, fun e he => ?_, fun k => ?_, by rw [b1size]; decide, by rw [b1size]; exact b1fits _, b1size _⟩
  · obtain ⟨k, t, h1, h2⟩ := shape e he
    exact ⟨⟨k, by rw [h1]; simp [intKind, Value.isInt], h2⟩, by rw [h1]; rfl⟩
  · have a1 := b1all w.params
    have a2 := b1all' w.params
    rw [List.all_eq_true] at a1 a2
    constructor
    · intro hk
      have := a2 k (by simpa using hk)
      have : k ∈ b1keys w.params := by simpa using this
      obtain ⟨e, he, hek⟩ := List.mem_map.mp this
      obtain ⟨k', t, h1, h2⟩ := shape e he
      rw [h1] at hek
      exact ⟨e, he, by rw [h1]; simp [intKind, Value.isInt]; exact hek⟩
    · rintro ⟨e, he, hk⟩
      obtain ⟨k', t, h1, h2⟩ := shape e he
      rw [h1] at hk
      have hkk : k' = k := by simpa [intKind, Value.isInt] using hk
      have := a1 k' (List.mem_map.mpr ⟨e, he, by rw [h1]⟩)
      rw [← hkk]; exact this
noncomputable def oInB1 : PV → PV → PS → Option (PV × PS)
  | .int k, .raw (.ref a), σ => if a = 125 then some (.bool (b1L.contains k), σ) else none
  | _, _, _ => none
section
variable {w : World} {mg mb : Str → Option Value} {fns : List FnD} {C : Cx} {V : Vw} {p : Pos}
theorem Op2.inB1 (K : COk1 (gd1 w mg mb fns) C) : Op2 (gd1 w mg mb fns) C (compareOp .In) oInB1 := by
  intro W σ X s a b x y r σ' Q E e R ra rb h
  unfold oInB1 at e
  split at e
  · split at e
    · rename_i ha
      subst ha
      cases e
      cases ra with
      | int k t => cases rb with
        | raw v => exact wpAny_inSet_of (knd := intKind pg w) (k := _) (by simp [intKind, Value.isInt]) rfl (b1_set (K.gd.frag.keeps fun _ _ => R.keep)) (h W _ _ (Wd.le_refl _) (R.toks _) (.bool _))
    · cases e
  · cases e
theorem g_b1 (K : COk1 (gd1 w mg mb fns) C) (VV : VG V) (hx : V.env.kindOf (Str.ofString "b1_set") = some .globalImplicit) : Ev (gd1 w mg mb fns) C V (.Name (Str.ofString "b1_set") p) (fun σ => some (.raw (.ref 125), σ)) :=
  Ev.glo K VV hx (v := .ref 125) (by kernel_rfl) (fun _ => .raw _) (by decide)
end
noncomputable def dB1P : Arguments := fnP (stAt 11)
noncomputable def dB1B : List Stmt := fnB (stAt 11)
noncomputable def dB1S : Scope := fnS (stAt 11)
@[reducible] noncomputable def dB1 (doc pm cdv : Value) : FnD := { f := 135, name := "in_table_b1", qual := "in_table_b1", params := dB1P, body := dB1B, scope := dB1S, dV := .none, kV := .none, doc, pm, cdv, ct := .none, an := none, pn := ["code"], rn := [] }
@[reducible] noncomputable def b1T1 (s : Stmt) (f : PS → Option (Fl × PS)) : Prop := ∀ (w : World) (mg : Str → Option Value) (mb : Str → Option Value) (fns : List FnD) (C : Cx) (doc : Value) (pm : Value) (cdv : Value) (L : Addr) (g : Heap) (K : COk1 (gd1 w mg mb fns) (cxF C (dB1 doc pm cdv) L g)), X1 (gd1 w mg mb fns) (cxF C (dB1 doc pm cdv) L g) s f
@[reducible] noncomputable def b1T (s : List Stmt) (f : PS → Option (Fl × PS)) : Prop := ∀ (w : World) (mg : Str → Option Value) (mb : Str → Option Value) (fns : List FnD) (C : Cx) (doc : Value) (pm : Value) (cdv : Value) (L : Addr) (g : Heap) (K : COk1 (gd1 w mg mb fns) (cxF C (dB1 doc pm cdv) L g)), Xs (gd1 w mg mb fns) (cxF C (dB1 doc pm cdv) L g) s f
noncomputable abbrev b1S_0 : Stmt := pick (s := nthS dB1B 0) (t := .Return _ _) rfl
@[reducible] noncomputable def b1X_0 : WX (b1T1 b1S_0) := .mk _ (by with_reducible exact fun w mg mb fns C doc pm cdv L g K => (X1.ret (Ev.cmp (Ev.callB (g_ord K (VG.f K) (by kernel_rfl)) (Evs.cons (Ev.var K (i := 0) (b := false) (by kernel_rfl) (hd := by kernel_rfl)) (Evs.nil) (by kernel_rfl)) (Cl.ord)) (g_b1 K (VG.f K) (by kernel_rfl)) (Op2.inB1 K) (hm := by kernel_rfl))))
noncomputable def b1F_0 : PS → Option (Fl × PS) := by with_reducible refine (?g : {f : PS → Option (Fl × PS)} → {h : b1T1 b1S_0 f} → b1X_0 = .mk f h → PS → Option (Fl × PS)) rfl; exact fun {f} {h} _ => f
theorem b1W_0 : b1T1 b1S_0 b1F_0 := by with_reducible exact WX.spec b1X_0 (by kernel_rfl)
@[reducible] noncomputable def b1X : WX (b1T [b1S_0]) := .mk _ (by with_reducible exact fun w mg mb fns C doc pm cdv L g K => (Xs.cons (b1W_0 w mg mb fns C doc pm cdv L g K) (Xs.nil)))
noncomputable def b1F : PS → Option (Fl × PS) := by with_reducible refine (?g : {f : PS → Option (Fl × PS)} → {h : b1T [b1S_0] f} → b1X = .mk f h → PS → Option (Fl × PS)) rfl; exact fun {f} {h} _ => f
theorem b1Bi : dB1B = [b1S_0] := by kernel_rfl
theorem b1W : b1T dB1B b1F := by rw [b1Bi]; with_reducible exact WX.spec b1X (by kernel_rfl)
end Mine
end
section
open PySem PySem.W PyProof.Rows PySem.Calls
set_option maxHeartbeats 0
namespace Mine
noncomputable def b3es : List DictEntry := (dispOf 387 b3L 37).ms
noncomputable def b3chk : Bool := b3es.all fun e => match e.key with | .int k _ => e.hash == hashInt k | _ => false
noncomputable def b3keys : List (Int × Str) := b3es.map fun e => match e.key, e.val with | .int k _, .str v _ => (k, v) | _, _ => (0, Str.empty)
noncomputable def b3vals : Bool := b3es.all fun e => match e.val with | .str _ _ => true | _ => false
theorem b3chk_is : b3chk = true := by kernel_rfl
theorem b3vals_is : b3vals = true := by kernel_rfl
theorem b3keys_is : b3keys = b3L := by kernel_rfl
theorem b3_obj (P : Params) : (K1 P).lookup 136 = some b3Obj := by kernel_rfl
theorem find_pairs (k : Int) : ∀ (l : List DictEntry), (∀ e ∈ l, (∃ i t, e.key = .int i t ∧ e.hash = hashInt i) ∧ ∃ v u, e.val = .str v u) →
    (∃ v u, (l.find? fun e => Value.isInt k e.key).map (·.val) = some (.str v u) ∧ (l.map fun e => match e.key, e.val with | .int k _, .str v _ => (k, v) | _, _ => ((0 : Int), Str.empty)).lookup k = some v) ∨
    ((l.find? fun e => Value.isInt k e.key) = none ∧ (l.map fun e => match e.key, e.val with | .int k _, .str v _ => (k, v) | _, _ => ((0 : Int), Str.empty)).lookup k = none)
  | [], _ => .inr ⟨rfl, rfl⟩
  | e :: l, h => by
    obtain ⟨⟨i, t, h1, _⟩, v, u, h2⟩ := h e (.head _)
    rw [List.map_cons, h1, h2]
    by_cases hk : i = k
    · subst hk
      refine .inl ⟨v, u, ?_, by simp⟩
      rw [List.find?_cons_of_pos (by rw [h1]; simp [Value.isInt])]
      rw [Option.map_some, h2]
    · have hne : ¬ (k = i) := fun q => hk q.symm
      rw [List.find?_cons_of_neg (by rw [h1]; simpa [Value.isInt] using hk)]
      rw [List.lookup_cons, show (k == i) = false by simpa using hne]
      exact find_pairs k l fun e he => h e (.tail _ he)
theorem b3_shape : ∀ e ∈ b3es, (∃ i t, e.key = .int i t ∧ e.hash = hashInt i) ∧ ∃ v u, e.val = .str v u := by
  have c1 := b3chk_is
  have c2 := b3vals_is
  unfold b3chk at c1
  unfold b3vals at c2
  rw [List.all_eq_true] at c1 c2
  intro e he
  have a1 := c1 e he
  have a2 := c2 e he
  split at a1
  · rename_i i t q
    split at a2
    · rename_i v u q'
      exact ⟨⟨i, t, q, by simpa using a1⟩, v, u, q'⟩
    · cases a2
  · cases a1
theorem b3_map {w : World} {h : Heap} (X : (K1 w.params).In h) : h.MapOf (intKind pg w) 136 (fun k => findBy (intKind pg w).is b3es.toArray k) := by
  refine ⟨b3Obj, b3es.toArray, 650, X _ _ (b3_obj w.params), ⟨rfl, rfl, rfl⟩, rfl, fun e he => ?_, fun k => rfl⟩
  obtain ⟨⟨i, t, h1, h2⟩, _⟩ := b3_shape e (by simpa using he)
  exact ⟨i, by rw [h1]; simp [intKind, Value.isInt], h2⟩
noncomputable def b3get : List PV → PS → Option (PV × PS)
  | [.int k], σ => match b3L.lookup k with
    | some s => some (.str s.cps.toList, σ)
    | none => some (.none, σ)
  | _, _ => none
noncomputable def isB3 : PV → Bool
  | .raw (.ref a) => a == 136
  | _ => false
section
variable {w : World} {mg mb : Str → Option Value} {fns : List FnD} {C : Cx} {V : Vw} {p : Pos}
theorem g_b3 (K : COk1 (gd1 w mg mb fns) C) (VV : VG V) (hx : V.env.kindOf (Str.ofString "b3_exceptions") = some .globalImplicit) : Ev (gd1 w mg mb fns) C V (.Name (Str.ofString "b3_exceptions") p) (fun σ => some (.raw (.ref 136), σ)) :=
  Ev.glo K VV hx (v := .ref 136) (by kernel_rfl) (fun _ => .raw _) (by decide)
theorem b3_find (k : Int) : findBy (intKind pg w).is b3es.toArray k = (b3es.find? fun e => Value.isInt k e.key).map (·.val) := by
  unfold findBy
  rw [List.find?_toArray]
  rfl
theorem sp_get (K : COk1 (gd1 w mg mb fns) C) (_VV : VG V) {o e : Expr} {ap pos : Pos} {fo f : PS → Option (PV × PS)} (ho : Ev (gd1 w mg mb fns) C V o fo) (he : Ev (gd1 w mg mb fns) C V e f) (hst : starEach [e] V.env = [(false, eval e V.env)])
    (hbase : attributeBase o (Str.ofString "get") V.env (eval o V.env) = eval o V.env := by rfl) (hline : (ap.endLine == pos.line) = true := by rfl) :
    Ev (gd1 w mg mb fns) C V (.Call (.Attribute o (Str.ofString "get") ap) [e] [] pos) (fun σ => fbf fo σ fun v σ => if isB3 v = true then fbf f σ fun u σ => b3get [u] σ else none) := by
  intro W σ X s r σ' Q E q R ok h
  refine fbE q fun v σ₁ e₁ q => ?_
  have H : Evs (gd1 w mg mb fns) C V [e] _ := .cons he .nil hst
  split at q
  · rename_i hb
    refine fbE q fun us σ₂ e₂ e₃ => ?_
    refine call_meth hbase (H.alln _) rfl hline (ho W σ X s v σ₁ _ E e₁ R ok fun W₁ z s₁ l₁ R₁ rz pl => ?_)
    unfold isB3 at hb
    split at hb
    · rename_i a
      have : a = 136 := by simpa using hb
      subst this
      induction rz using VRel.rawC with
      | raw =>
        have hobj : s₁.heap.get? 136 = some b3Obj := R₁.keep (K.gd.frag _ _ (b3_obj w.params))
        refine getMethod_builtin (T := "dict") ⟨_, hobj, rfl⟩ F.plainAttrs_dict F.slot_dict_get F.type_dict_get (fun a e => by cases e; exact ⟨_, hobj, rfl⟩) ?_
        rw [hst]
        unfold b3get at e₃
        split at e₃
        · rename_i k heq
          obtain rfl : us = .int k := List.cons.inj heq |>.1
          refine wpAny_dict_get1 (knd := intKind pg w) (by decide) (he W₁ σ₁ X s₁ (.int k) _ _ E e₂ R₁ (V.mono l₁ ok) fun W₂ y s₂ l₂ R₂ ry => ?_)
          induction ry using VRel.intC with
          | int t =>
            refine ⟨k, _, by simp [intKind, Value.isInt], b3_map (K.gd.frag.keeps fun _ _ => R₂.keep), ?_⟩
            rw [b3_find k]
            have hf := find_pairs k b3es b3_shape
            rcases hf with ⟨v, u, h1, h2⟩ | ⟨h1, h2⟩
            · have h2 : b3L.lookup k = some v := by rw [← b3keys_is]; exact h2
              rw [h2] at e₃
              induction e₃ using someC
              rw [h1]
              have rv : VRel W₂ (.str v.cps.toList) (.str v u) := by have := VRel.str (W := W₂) v.cps.toList u; rw [mk_of] at this; exact this
              exact h W₂ _ _ (Wd.le_trans l₁ l₂) (R₂.toks _) rv
            · have h2 : b3L.lookup k = none := by rw [← b3keys_is]; exact h2
              rw [h2] at e₃
              induction e₃ using someC
              rw [h1]
              exact h W₂ _ _ (Wd.le_trans l₁ l₂) (R₂.toks _) .none
        · exact noneE e₃
    · cases hb
  · exact noneE q
end
noncomputable def dB3P : Arguments := fnP (stAt 13)
noncomputable def dB3B : List Stmt := fnB (stAt 13)
noncomputable def dB3S : Scope := fnS (stAt 13)
@[reducible] noncomputable def dB3 (doc pm cdv : Value) : FnD := { f := 181, name := "map_table_b3", qual := "map_table_b3", params := dB3P, body := dB3B, scope := dB3S, dV := .none, kV := .none, doc, pm, cdv, ct := .none, an := none, pn := ["code"], rn := ["r"] }
@[reducible] noncomputable def b3T1 (s : Stmt) (f : PS → Option (Fl × PS)) : Prop := ∀ (w : World) (mg : Str → Option Value) (mb : Str → Option Value) (fns : List FnD) (C : Cx) (doc : Value) (pm : Value) (cdv : Value) (L : Addr) (g : Heap) (K : COk1 (gd1 w mg mb fns) (cxF C (dB3 doc pm cdv) L g)), X1 (gd1 w mg mb fns) (cxF C (dB3 doc pm cdv) L g) s f
@[reducible] noncomputable def b3T (s : List Stmt) (f : PS → Option (Fl × PS)) : Prop := ∀ (w : World) (mg : Str → Option Value) (mb : Str → Option Value) (fns : List FnD) (C : Cx) (doc : Value) (pm : Value) (cdv : Value) (L : Addr) (g : Heap) (K : COk1 (gd1 w mg mb fns) (cxF C (dB3 doc pm cdv) L g)), Xs (gd1 w mg mb fns) (cxF C (dB3 doc pm cdv) L g) s f
noncomputable abbrev b3S_2 : Stmt := pick (s := nthS dB3B 2) (t := .Return _ _) rfl
noncomputable abbrev b3S_0 : Stmt := pick (s := nthS dB3B 0) (t := .Assign _ _ _) rfl
noncomputable abbrev b3S_1 : Stmt := pick (s := nthS dB3B 1) (t := .If _ _ _ _) rfl
noncomputable abbrev b3S_1t_0 : Stmt := pick (s := nthS (sBody b3S_1) 0) (t := .Return _ _) rfl
@[reducible] noncomputable def b3X_2 : WX (b3T1 b3S_2) := .mk _ (by with_reducible exact fun w mg mb fns C doc pm cdv L g K => (X1.ret (Ev.meth PySem.F.plainAttrs_str PySem.F.slot_str_lower PySem.F.type_str_lower (Ev.var K (i := 0) (b := false) (by kernel_rfl) (hd := by kernel_rfl)) (Evs.nil) (Cl.lower) (hbase := by kernel_rfl) (hl := by kernel_rfl) (hline := by kernel_rfl))))
noncomputable def b3F_2 : PS → Option (Fl × PS) := by with_reducible refine (?g : {f : PS → Option (Fl × PS)} → {h : b3T1 b3S_2 f} → b3X_2 = .mk f h → PS → Option (Fl × PS)) rfl; exact fun {f} {h} _ => f
theorem b3W_2 : b3T1 b3S_2 b3F_2 := by with_reducible exact WX.spec b3X_2 (by kernel_rfl)
@[reducible] noncomputable def b3X_0 : WX (b3T1 b3S_0) := .mk _ (by with_reducible exact fun w mg mb fns C doc pm cdv L g K => (X1.assign K (i := 1) (b := false) (by kernel_rfl) (sp_get K (VG.f K) (g_b3 K (VG.f K) (by kernel_rfl)) (Ev.callB (g_ord K (VG.f K) (by kernel_rfl)) (Evs.cons (Ev.var K (i := 0) (b := false) (by kernel_rfl) (hd := by kernel_rfl)) (Evs.nil) (by kernel_rfl)) (Cl.ord)) (by kernel_rfl) (hbase := by kernel_rfl) (hline := by kernel_rfl)) (hs := by kernel_rfl)))
noncomputable def b3F_0 : PS → Option (Fl × PS) := by with_reducible refine (?g : {f : PS → Option (Fl × PS)} → {h : b3T1 b3S_0 f} → b3X_0 = .mk f h → PS → Option (Fl × PS)) rfl; exact fun {f} {h} _ => f
theorem b3W_0 : b3T1 b3S_0 b3F_0 := by with_reducible exact WX.spec b3X_0 (by kernel_rfl)
@[reducible] noncomputable def b3X_1t_0 : WX (b3T1 b3S_1t_0) := .mk _ (by with_reducible exact fun w mg mb fns C doc pm cdv L g K => (X1.ret (Ev.var K (i := 1) (b := false) (by kernel_rfl) (hd := by kernel_rfl))))
noncomputable def b3F_1t_0 : PS → Option (Fl × PS) := by with_reducible refine (?g : {f : PS → Option (Fl × PS)} → {h : b3T1 b3S_1t_0 f} → b3X_1t_0 = .mk f h → PS → Option (Fl × PS)) rfl; exact fun {f} {h} _ => f
theorem b3W_1t_0 : b3T1 b3S_1t_0 b3F_1t_0 := by with_reducible exact WX.spec b3X_1t_0 (by kernel_rfl)
@[reducible] noncomputable def b3X_1 : WX (b3T1 b3S_1) := .mk _ (by with_reducible exact fun w mg mb fns C doc pm cdv L g K => (X1.ite (Ts.cmp (Ev.var K (i := 1) (b := false) (by kernel_rfl) (hd := by kernel_rfl)) (Ev.cnone) (Op2.isNot) (hm := by kernel_rfl)) (Xs.cons (b3W_1t_0 w mg mb fns C doc pm cdv L g K) (Xs.nil)) (Xs.nil)))
noncomputable def b3F_1 : PS → Option (Fl × PS) := by with_reducible refine (?g : {f : PS → Option (Fl × PS)} → {h : b3T1 b3S_1 f} → b3X_1 = .mk f h → PS → Option (Fl × PS)) rfl; exact fun {f} {h} _ => f
theorem b3W_1 : b3T1 b3S_1 b3F_1 := by with_reducible exact WX.spec b3X_1 (by kernel_rfl)
@[reducible] noncomputable def b3X : WX (b3T [b3S_0, b3S_1, b3S_2]) := .mk _ (by with_reducible exact fun w mg mb fns C doc pm cdv L g K => (Xs.cons (b3W_0 w mg mb fns C doc pm cdv L g K) (Xs.cons (b3W_1 w mg mb fns C doc pm cdv L g K) (Xs.cons (b3W_2 w mg mb fns C doc pm cdv L g K) (Xs.nil)))))
noncomputable def b3F : PS → Option (Fl × PS) := by with_reducible refine (?g : {f : PS → Option (Fl × PS)} → {h : b3T [b3S_0, b3S_1, b3S_2] f} → b3X = .mk f h → PS → Option (Fl × PS)) rfl; exact fun {f} {h} _ => f
theorem b3Bi : dB3B = [b3S_0, b3S_1, b3S_2] := by kernel_rfl
theorem b3W : b3T dB3B b3F := by rw [b3Bi]; with_reducible exact WX.spec b3X (by kernel_rfl)
end Mine
end
section
open PySem PySem.W PyProof.Rows PySem.Calls
set_option maxHeartbeats 0
namespace Mine
@[reducible] noncomputable def fl1 (v : Nat → Value) : List FnD := [dStr (v 0) (v 1) (v 2), dEll (v 3) (v 4) (v 5), dTyp (v 6) (v 7) (v 8), dB1 (v 9) (v 10) (v 11), dB3 (v 12) (v 13) (v 14)]
@[reducible] noncomputable def gL (w : World) (mg mb : Str → Option Value) (v : Nat → Value) : Gd := gd1 w mg mb (fl1 v)
section
variable {w : World} {mg mb : Str → Option Value} {v : Nat → Value} {C : Cx} {V : Vw} {p pos : Pos}
theorem sp_acc (K : COk1 (gL w mg mb v) C) (VV : VG V) {es : List Expr} {f : PS → Option (List PV × PS)} (hx : V.env.kindOf (Str.ofString "_Accumulator") = some .globalImplicit) (H : Evs (gL w mg mb v) C V es f) (hlv : decide (3 ≤ C.lv) = true := by rfl) :
    Ev (gL w mg mb v) C V (.Call (.Name (Str.ofString "_Accumulator") p) es [] pos) (fun σ => fbf f σ fun vs σ => cNew vs σ) :=
  Ev.newAcc K VV ack1 newk (of_decide_eq_true hlv) hx (by kernel_rfl) (by decide) H
noncomputable abbrev fLenA := cLenA (fcall dAL alF)
noncomputable abbrev fStrA := cStrA (fcall dAS asF)
theorem sp_len (K : COk1 (gL w mg mb v) C) (VV : VG V) {es : List Expr} {f : PS → Option (List PV × PS)} (hx : V.env.kindOf (Str.ofString "len") = some .globalImplicit) (H : Evs (gL w mg mb v) C V es f) (hlv : decide (4 ≤ C.lv) = true := by rfl) :
    Ev (gL w mg mb v) C V (.Call (.Name (Str.ofString "len") p) es [] pos) (fun σ => fbf f σ fun vs σ => fLenA vs σ) :=
  Ev.callB (g_len K VV hx) H (Cl.lenA (f := 74) K (by kernel_rfl) (by kernel_rfl) (Cl.fn (K.sub (A' := C.A.in1) (by have := of_decide_eq_true hlv; omega) (Nat.le_add_right _ _) rfl rfl (by show C.A.units + 1 ≤ _; omega)) aL_fn (by show 0 < C.lv - 2; have := of_decide_eq_true hlv; omega) fun L g K' => alW K'))
theorem sp_str (K : COk1 (gL w mg mb v) C) (VV : VG V) {es : List Expr} {f : PS → Option (List PV × PS)} (hx : V.env.kindOf (Str.ofString "str") = some .globalImplicit) (H : Evs (gL w mg mb v) C V es f) (hlv : decide (4 ≤ C.lv) = true := by rfl) :
    Ev (gL w mg mb v) C V (.Call (.Name (Str.ofString "str") p) es [] pos) (fun σ => fbf f σ fun vs σ => fStrA vs σ) :=
  Ev.callT (g_str K VV hx) H (Cl.strA (f := 81) K (by kernel_rfl) (by kernel_rfl) (Cl.fn (K.sub (A' := C.A.in1.in1) (by have := of_decide_eq_true hlv; omega) (Nat.le_add_right _ _) rfl rfl (by show C.A.units + 1 + 1 ≤ _; omega)) aS_fn (by show 0 < C.lv - 2; have := of_decide_eq_true hlv; omega) fun L g K' => asW K'))
theorem sp_psh (K : COk1 (gL w mg mb v) C) (_VV : VG V) {o : Expr} {es : List Expr} {ap : Pos} {fo : PS → Option (PV × PS)} {f : PS → Option (List PV × PS)} (ho : Ev (gL w mg mb v) C V o fo) (H : Evs (gL w mg mb v) C V es f)
    (hbase : attributeBase o (Str.ofString "push") V.env (eval o V.env) = eval o V.env := by rfl) (hl : decide (es.length < 30) = true := by rfl) (hline : (ap.endLine == pos.line) = true := by rfl) (hlv : decide (0 < C.lv) = true := by rfl) :
    Ev (gL w mg mb v) C V (.Call (.Attribute o (Str.ofString "push") ap) es [] pos) (fun σ => fbf fo σ fun v σ => if isAcc v σ = true then fbf f σ fun us σ => fcall dPush pushF (v :: us) σ else none) :=
  sp_push K (of_decide_eq_true hlv) ho H hbase hl hline
theorem sp_pop (K : COk1 (gL w mg mb v) C) (_VV : VG V) {o : Expr} {es : List Expr} {ap : Pos} {fo : PS → Option (PV × PS)} {f : PS → Option (List PV × PS)} (ho : Ev (gL w mg mb v) C V o fo) (H : Evs (gL w mg mb v) C V es f)
    (hbase : attributeBase o (Str.ofString "pop_from") V.env (eval o V.env) = eval o V.env := by rfl) (hl : decide (es.length < 30) = true := by rfl) (hline : (ap.endLine == pos.line) = true := by rfl) (hlv : decide (0 < C.lv) = true := by rfl) :
    Ev (gL w mg mb v) C V (.Call (.Attribute o (Str.ofString "pop_from") ap) es [] pos) (fun σ => fbf fo σ fun v σ => if isAcc v σ = true then fbf f σ fun us σ => fcall dPopF popFF (v :: us) σ else none) := by
  obtain ⟨fo', h1, h2, _⟩ := K.gd.fn dPopF (.tail _ (.head _))
  exact Ev.accM K ack1 (by kernel_rfl) (by kernel_rfl) h1 h2 (by decide) (by decide) ho H (Cl.fn K popF_fn (of_decide_eq_true hlv) fun L g K' => popFW w mg mb (fl1 v) C L g K') hbase hl hline
theorem sp_repl (K : COk1 (gL w mg mb v) C) (_VV : VG V) {o : Expr} {y z : Str} {k k' : Nat} {p' ap : Pos} {fo : PS → Option (PV × PS)} {f : PS → Option (List PV × PS)} (ho : Ev (gL w mg mb v) C V o fo) (H : Evs (gL w mg mb v) C V [.Constant (.str y) k p, .Constant (.str z) k' p'] f)
    (hbase : attributeBase o (Str.ofString "replace") V.env (eval o V.env) = eval o V.env := by rfl) (hline : (ap.endLine == pos.line) = true := by rfl) :
    Ev (gL w mg mb v) C V (.Call (.Attribute o (Str.ofString "replace") ap) [.Constant (.str y) k p, .Constant (.str z) k' p'] [] pos) (fun σ => fbf fo σ fun v σ => mReplS v y z σ) :=
  Ev.repl ho H hbase hline
theorem ofStr : FnOk (gL w mg mb v) (dStr (v 0) (v 1) (v 2)) where
  obj := .tail _ (.tail _ (.tail _ (.tail _ (.tail _ (.head _)))))
  kinds := fnChk_kinds (by kernel_rfl)
  nodup := fnChk_nodup (by kernel_rfl)
  nocell := fnChk_nocell (by kernel_rfl)
  co := rfl
  gen := rfl
  kind := rfl
  bind := fun s xs _ h => by
    obtain ⟨a, b, rfl⟩ := ls2 h
    exact BindsTo.of_eq rfl
theorem ofEll : FnOk (gL w mg mb v) (dEll (v 3) (v 4) (v 5)) where
  obj := .tail _ (.tail _ (.tail _ (.tail _ (.tail _ (.tail _ (.head _))))))
  kinds := fnChk_kinds (by kernel_rfl)
  nodup := fnChk_nodup (by kernel_rfl)
  nocell := fnChk_nocell (by kernel_rfl)
  co := rfl
  gen := rfl
  kind := rfl
  bind := fun s xs _ h => by
    obtain ⟨a, b, rfl⟩ := ls2 h
    exact BindsTo.of_eq rfl
theorem ofTyp : FnOk (gL w mg mb v) (dTyp (v 6) (v 7) (v 8)) where
  obj := .tail _ (.tail _ (.tail _ (.tail _ (.tail _ (.tail _ (.tail _ (.head _)))))))
  kinds := fnChk_kinds (by kernel_rfl)
  nodup := fnChk_nodup (by kernel_rfl)
  nocell := fnChk_nocell (by kernel_rfl)
  co := rfl
  gen := rfl
  kind := rfl
  bind := fun s xs _ h => by
    obtain ⟨a, rfl⟩ := ls1 h
    exact BindsTo.of_eq rfl
theorem ofB1 : FnOk (gL w mg mb v) (dB1 (v 9) (v 10) (v 11)) where
  obj := .tail _ (.tail _ (.tail _ (.tail _ (.tail _ (.tail _ (.tail _ (.tail _ (.head _))))))))
  kinds := fnChk_kinds (by kernel_rfl)
  nodup := fnChk_nodup (by kernel_rfl)
  nocell := fnChk_nocell (by kernel_rfl)
  co := rfl
  gen := rfl
  kind := rfl
  bind := fun s xs _ h => by
    obtain ⟨a, rfl⟩ := ls1 h
    exact BindsTo.of_eq rfl
theorem ofB3 : FnOk (gL w mg mb v) (dB3 (v 12) (v 13) (v 14)) where
  obj := .tail _ (.tail _ (.tail _ (.tail _ (.tail _ (.tail _ (.tail _ (.tail _ (.tail _ (.head _)))))))))
  kinds := fnChk_kinds (by kernel_rfl)
  nodup := fnChk_nodup (by kernel_rfl)
  nocell := fnChk_nocell (by kernel_rfl)
  co := rfl
  gen := rfl
  kind := rfl
  bind := fun s xs _ h => by
    obtain ⟨a, rfl⟩ := ls1 h
    exact BindsTo.of_eq rfl
end
noncomputable abbrev cStrcoll := fcall (dStr .none .none .none) strF
noncomputable abbrev cEll := fcall (dEll .none .none .none) ellF
noncomputable abbrev cTyp := fcall (dTyp .none .none .none) typF
noncomputable abbrev cB1 := fcall (dB1 .none .none .none) b1F
noncomputable abbrev cB3 := fcall (dB3 .none .none .none) b3F
section
variable {w : World} {mg mb : Str → Option Value} {v : Nat → Value} {C : Cx} (K : COk1 (gL w mg mb v) C) (hlv : 0 < C.lv)
include K hlv
theorem clStr : Cl (gL w mg mb v) C (.ref 117) cStrcoll := Cl.fn K ofStr hlv fun L g K' => strW _ C (v 0) (v 1) (v 2) L g K'
theorem clEll : Cl (gL w mg mb v) C (.ref 28) cEll := Cl.fn K ofEll hlv fun L g K' => ellW w mg mb (fl1 v) C (v 3) (v 4) (v 5) L g K'
theorem clTyp : Cl (gL w mg mb v) C (.ref 188) cTyp := Cl.fn K ofTyp hlv fun L g K' => typW w mg mb (fl1 v) C (v 6) (v 7) (v 8) L g K'
theorem clB1 : Cl (gL w mg mb v) C (.ref 135) cB1 := Cl.fn K ofB1 hlv fun L g K' => b1W w mg mb (fl1 v) C (v 9) (v 10) (v 11) L g K'
theorem clB3 : Cl (gL w mg mb v) C (.ref 181) cB3 := Cl.fn K ofB3 hlv fun L g K' => b3W w mg mb (fl1 v) C (v 12) (v 13) (v 14) L g K'
end
noncomputable def dLawP : Arguments := fnP (stAt 16)
noncomputable def dLawB : List Stmt := fnB (stAt 16)
noncomputable def dLawS : Scope := fnS (stAt 16)
noncomputable def lawV : List (String × Bool) := [("script", false), ("numbers", true), ("k", false), ("x", false), ("typed", false), ("line", false), ("n", false), ("sign", false), ("meant", false), ("ahead", false), ("between", false), ("behind", false), ("pairs", false), ("i", false), ("j", false), ("steps", true), ("y", false), ("first", false), ("lead", true), ("pile", false), ("letter", false), ("orders", true), ("weights", true), ("before", false), ("turn", false), ("text", false), ("row", true), ("told", false), ("a", false), ("b", false), ("rings", false), ("weight", false), ("ring", true), ("along", false), ("cut", false), ("rising", false), ("spot", false), ("m", true), ("due", false), ("ways", true)]
@[reducible] noncomputable def cxL (C : Cx) (a : Addr) (cd : Value) (L : Addr) (g : Heap) : Cx := { C with h₀ := g, L := L, fenv := envX (Str.ofString "law") dLawS L a cd (cellsFrom (L + 1) dLawS.names []), nm := lawV.map fun p => (Str.ofString p.1, p.2), lv := 8 }
section
variable {w : World} {mg mb : Str → Option Value} {v : Nat → Value}
theorem inStr : dStr (v 0) (v 1) (v 2) ∈ (gL w mg mb v).fns := .tail _ (.tail _ (.tail _ (.tail _ (.tail _ (.head _)))))
theorem inEll : dEll (v 3) (v 4) (v 5) ∈ (gL w mg mb v).fns := .tail _ (.tail _ (.tail _ (.tail _ (.tail _ (.tail _ (.head _))))))
theorem inTyp : dTyp (v 6) (v 7) (v 8) ∈ (gL w mg mb v).fns := .tail _ (.tail _ (.tail _ (.tail _ (.tail _ (.tail _ (.tail _ (.head _)))))))
theorem inB1 : dB1 (v 9) (v 10) (v 11) ∈ (gL w mg mb v).fns := .tail _ (.tail _ (.tail _ (.tail _ (.tail _ (.tail _ (.tail _ (.tail _ (.head _))))))))
theorem inB3 : dB3 (v 12) (v 13) (v 14) ∈ (gL w mg mb v).fns := .tail _ (.tail _ (.tail _ (.tail _ (.tail _ (.tail _ (.tail _ (.tail _ (.tail _ (.head _)))))))))
end
@[reducible] noncomputable def lawT1 (s : Stmt) (f : PS → Option (Fl × PS)) : Prop := ∀ (w : World) (mg : Str → Option Value) (mb : Str → Option Value) (v : Nat → Value) (C : Cx) (a : Addr) (cd : Value) (L : Addr) (g : Heap) (K : COk1 (gL w mg mb v) (cxL C a cd L g)), X1 (gL w mg mb v) (cxL C a cd L g) s f
@[reducible] noncomputable def lawT (s : List Stmt) (f : PS → Option (Fl × PS)) : Prop := ∀ (w : World) (mg : Str → Option Value) (mb : Str → Option Value) (v : Nat → Value) (C : Cx) (a : Addr) (cd : Value) (L : Addr) (g : Heap) (K : COk1 (gL w mg mb v) (cxL C a cd L g)), Xs (gL w mg mb v) (cxL C a cd L g) s f
noncomputable abbrev lawS_6 : Stmt := pick (s := nthS dLawB 6) (t := .Assign _ _ _) rfl
noncomputable abbrev lawS_10 : Stmt := pick (s := nthS dLawB 10) (t := .Assign _ _ _) rfl
noncomputable abbrev lawS_8 : Stmt := pick (s := nthS dLawB 8) (t := .Assign _ _ _) rfl
noncomputable abbrev lawS_11 : Stmt := pick (s := nthS dLawB 11) (t := .Assign _ _ _) rfl
noncomputable abbrev lawS_0 : Stmt := pick (s := nthS dLawB 0) (t := .Assign _ _ _) rfl
noncomputable abbrev lawS_2 : Stmt := pick (s := nthS dLawB 2) (t := .Assign _ _ _) rfl
noncomputable abbrev lawS_1 : Stmt := pick (s := nthS dLawB 1) (t := .For _ _ _ _ _) rfl
noncomputable abbrev lawS_7 : Stmt := pick (s := nthS dLawB 7) (t := .For _ _ _ _ _) rfl
noncomputable abbrev lawS_13 : Stmt := pick (s := nthS dLawB 13) (t := .Assign _ _ _) rfl
noncomputable abbrev lawS_5 : Stmt := pick (s := nthS dLawB 5) (t := .Assign _ _ _) rfl
noncomputable abbrev lawS_15 : Stmt := pick (s := nthS dLawB 15) (t := .For _ _ _ _ _) rfl
noncomputable abbrev lawS_9 : Stmt := pick (s := nthS dLawB 9) (t := .For _ _ _ _ _) rfl
noncomputable abbrev lawS_12 : Stmt := pick (s := nthS dLawB 12) (t := .For _ _ _ _ _) rfl
noncomputable abbrev lawS_4 : Stmt := pick (s := nthS dLawB 4) (t := .If _ _ _ _) rfl
noncomputable abbrev lawS_16 : Stmt := pick (s := nthS dLawB 16) (t := .Return _ _) rfl
noncomputable abbrev lawS_3 : Stmt := pick (s := nthS dLawB 3) (t := .For _ _ _ _ _) rfl
noncomputable abbrev lawS_14 : Stmt := pick (s := nthS dLawB 14) (t := .For _ _ _ _ _) rfl
noncomputable abbrev lawS_1b_0 : Stmt := pick (s := nthS (sBody lawS_1) 0) (t := .AugAssign _ _ _ _) rfl
noncomputable abbrev lawS_7b_0 : Stmt := pick (s := nthS (sBody lawS_7) 0) (t := .For _ _ _ _ _) rfl
noncomputable abbrev lawS_15b_0 : Stmt := pick (s := nthS (sBody lawS_15) 0) (t := .Assign _ _ _) rfl
noncomputable abbrev lawS_15b_2 : Stmt := pick (s := nthS (sBody lawS_15) 2) (t := .If _ _ _ _) rfl
noncomputable abbrev lawS_15b_1 : Stmt := pick (s := nthS (sBody lawS_15) 1) (t := .Assign _ _ _) rfl
noncomputable abbrev lawS_9b_0 : Stmt := pick (s := nthS (sBody lawS_9) 0) (t := .For _ _ _ _ _) rfl
noncomputable abbrev lawS_12b_0 : Stmt := pick (s := nthS (sBody lawS_12) 0) (t := .Expr _ _) rfl
noncomputable abbrev lawS_4t_0 : Stmt := pick (s := nthS (sBody lawS_4) 0) (t := .Return _ _) rfl
noncomputable abbrev lawS_3b_2 : Stmt := pick (s := nthS (sBody lawS_3) 2) (t := .AugAssign _ _ _ _) rfl
noncomputable abbrev lawS_3b_1 : Stmt := pick (s := nthS (sBody lawS_3) 1) (t := .If _ _ _ _) rfl
noncomputable abbrev lawS_3b_3 : Stmt := pick (s := nthS (sBody lawS_3) 3) (t := .AugAssign _ _ _ _) rfl
noncomputable abbrev lawS_3b_0 : Stmt := pick (s := nthS (sBody lawS_3) 0) (t := .Assign _ _ _) rfl
noncomputable abbrev lawS_14b_10 : Stmt := pick (s := nthS (sBody lawS_14) 10) (t := .Assign _ _ _) rfl
noncomputable abbrev lawS_14b_7 : Stmt := pick (s := nthS (sBody lawS_14) 7) (t := .AugAssign _ _ _ _) rfl
noncomputable abbrev lawS_14b_9 : Stmt := pick (s := nthS (sBody lawS_14) 9) (t := .For _ _ _ _ _) rfl
noncomputable abbrev lawS_14b_3 : Stmt := pick (s := nthS (sBody lawS_14) 3) (t := .Assign _ _ _) rfl
noncomputable abbrev lawS_14b_15 : Stmt := pick (s := nthS (sBody lawS_14) 15) (t := .If _ _ _ _) rfl
noncomputable abbrev lawS_14b_5 : Stmt := pick (s := nthS (sBody lawS_14) 5) (t := .Assign _ _ _) rfl
noncomputable abbrev lawS_14b_0 : Stmt := pick (s := nthS (sBody lawS_14) 0) (t := .Assign _ _ _) rfl
noncomputable abbrev lawS_14b_2 : Stmt := pick (s := nthS (sBody lawS_14) 2) (t := .If _ _ _ _) rfl
noncomputable abbrev lawS_14b_12 : Stmt := pick (s := nthS (sBody lawS_14) 12) (t := .AugAssign _ _ _ _) rfl
noncomputable abbrev lawS_14b_4 : Stmt := pick (s := nthS (sBody lawS_14) 4) (t := .If _ _ _ _) rfl
noncomputable abbrev lawS_14b_1 : Stmt := pick (s := nthS (sBody lawS_14) 1) (t := .Assign _ _ _) rfl
noncomputable abbrev lawS_14b_6 : Stmt := pick (s := nthS (sBody lawS_14) 6) (t := .If _ _ _ _) rfl
noncomputable abbrev lawS_14b_14 : Stmt := pick (s := nthS (sBody lawS_14) 14) (t := .While _ _ _ _) rfl
noncomputable abbrev lawS_14b_11 : Stmt := pick (s := nthS (sBody lawS_14) 11) (t := .For _ _ _ _ _) rfl
noncomputable abbrev lawS_14b_13 : Stmt := pick (s := nthS (sBody lawS_14) 13) (t := .Assign _ _ _) rfl
noncomputable abbrev lawS_14b_8 : Stmt := pick (s := nthS (sBody lawS_14) 8) (t := .Assign _ _ _) rfl
noncomputable abbrev lawS_7b_0b_0 : Stmt := pick (s := nthS (sBody lawS_7b_0) 0) (t := .If _ _ _ _) rfl
noncomputable abbrev lawS_15b_2t_0 : Stmt := pick (s := nthS (sBody lawS_15b_2) 0) (t := .Return _ _) rfl
noncomputable abbrev lawS_9b_0b_0 : Stmt := pick (s := nthS (sBody lawS_9b_0) 0) (t := .If _ _ _ _) rfl
noncomputable abbrev lawS_3b_1t_0 : Stmt := pick (s := nthS (sBody lawS_3b_1) 0) (t := .Return _ _) rfl
noncomputable abbrev lawS_14b_9b_0 : Stmt := pick (s := nthS (sBody lawS_14b_9) 0) (t := .If _ _ _ _) rfl
noncomputable abbrev lawS_14b_15t_6 : Stmt := pick (s := nthS (sBody lawS_14b_15) 6) (t := .For _ _ _ _ _) rfl
noncomputable abbrev lawS_14b_15t_1 : Stmt := pick (s := nthS (sBody lawS_14b_15) 1) (t := .Assign _ _ _) rfl
noncomputable abbrev lawS_14b_15t_5 : Stmt := pick (s := nthS (sBody lawS_14b_15) 5) (t := .Assign _ _ _) rfl
noncomputable abbrev lawS_14b_15t_2 : Stmt := pick (s := nthS (sBody lawS_14b_15) 2) (t := .Assign _ _ _) rfl
noncomputable abbrev lawS_14b_15t_4 : Stmt := pick (s := nthS (sBody lawS_14b_15) 4) (t := .Expr _ _) rfl
noncomputable abbrev lawS_14b_15t_0 : Stmt := pick (s := nthS (sBody lawS_14b_15) 0) (t := .If _ _ _ _) rfl
noncomputable abbrev lawS_14b_15t_3 : Stmt := pick (s := nthS (sBody lawS_14b_15) 3) (t := .While _ _ _ _) rfl
noncomputable abbrev lawS_14b_2t_0 : Stmt := pick (s := nthS (sBody lawS_14b_2) 0) (t := .Return _ _) rfl
noncomputable abbrev lawS_14b_4t_0 : Stmt := pick (s := nthS (sBody lawS_14b_4) 0) (t := .Return _ _) rfl
noncomputable abbrev lawS_14b_6t_0 : Stmt := pick (s := nthS (sBody lawS_14b_6) 0) (t := .Return _ _) rfl
noncomputable abbrev lawS_14b_14b_0 : Stmt := pick (s := nthS (sBody lawS_14b_14) 0) (t := .AugAssign _ _ _ _) rfl
noncomputable abbrev lawS_14b_11b_1 : Stmt := pick (s := nthS (sBody lawS_14b_11) 1) (t := .If _ _ _ _) rfl
noncomputable abbrev lawS_14b_11b_0 : Stmt := pick (s := nthS (sBody lawS_14b_11) 0) (t := .Assign _ _ _) rfl
noncomputable abbrev lawS_7b_0b_0t_0 : Stmt := pick (s := nthS (sBody lawS_7b_0b_0) 0) (t := .Expr _ _) rfl
noncomputable abbrev lawS_9b_0b_0t_0 : Stmt := pick (s := nthS (sBody lawS_9b_0b_0) 0) (t := .Assign _ _ _) rfl
noncomputable abbrev lawS_9b_0b_0t_1 : Stmt := pick (s := nthS (sBody lawS_9b_0b_0) 1) (t := .If _ _ _ _) rfl
noncomputable abbrev lawS_14b_9b_0t_0 : Stmt := pick (s := nthS (sBody lawS_14b_9b_0) 0) (t := .Expr _ _) rfl
noncomputable abbrev lawS_14b_9b_0e_0 : Stmt := pick (s := nthS (sElse lawS_14b_9b_0) 0) (t := .AugAssign _ _ _ _) rfl
noncomputable abbrev lawS_14b_15t_6b_0 : Stmt := pick (s := nthS (sBody lawS_14b_15t_6) 0) (t := .Expr _ _) rfl
noncomputable abbrev lawS_14b_15t_0t_0 : Stmt := pick (s := nthS (sBody lawS_14b_15t_0) 0) (t := .Return _ _) rfl
noncomputable abbrev lawS_14b_15t_3b_0 : Stmt := pick (s := nthS (sBody lawS_14b_15t_3) 0) (t := .AugAssign _ _ _ _) rfl
noncomputable abbrev lawS_14b_11b_1t_0 : Stmt := pick (s := nthS (sBody lawS_14b_11b_1) 0) (t := .AugAssign _ _ _ _) rfl
noncomputable abbrev lawS_9b_0b_0t_1t_0 : Stmt := pick (s := nthS (sBody lawS_9b_0b_0t_1) 0) (t := .Return _ _) rfl
@[reducible] noncomputable def lawX_6 : WX (lawT1 lawS_6) := .mk _ (by with_reducible exact fun w mg mb v C a cd L g K => (X1.assign K (i := 12) (b := false) (by kernel_rfl) (Ev.lst (Evs.nil)) (hs := by kernel_rfl)))
noncomputable def lawF_6 : PS → Option (Fl × PS) := by with_reducible refine (?g : {f : PS → Option (Fl × PS)} → {h : lawT1 lawS_6 f} → lawX_6 = .mk f h → PS → Option (Fl × PS)) rfl; exact fun {f} {h} _ => f
theorem lawW_6 : lawT1 lawS_6 lawF_6 := by with_reducible exact WX.spec lawX_6 (by kernel_rfl)
@[reducible] noncomputable def lawX_10 : WX (lawT1 lawS_10) := .mk _ (by with_reducible exact fun w mg mb v C a cd L g K => (X1.tup K (Tns.cons (b := false) (i := 17) (by kernel_rfl) (Tns.cons (b := true) (i := 18) (by kernel_rfl) (Tns.nil))) (Ev.tup (Evs.cons (Ev.bin (Ev.bin (Ev.sub K (Ev.var K (i := 1) (b := true) (by kernel_rfl) (hd := by kernel_rfl)) (Ev.int) (hsl := by intros; kernel_rfl)) (Ev.int) (Op2.fdiv)) (Ev.int) (Op2.mod)) (Evs.cons (Ev.bin (Ev.str ([32]) (hl := by kernel_rfl)) (Ev.bin (Ev.bin (Ev.sub K (Ev.var K (i := 1) (b := true) (by kernel_rfl) (hd := by kernel_rfl)) (Ev.int) (hsl := by intros; kernel_rfl)) (Ev.int) (Op2.fdiv)) (Ev.int) (Op2.mod)) (Op2.mulL)) (Evs.nil) (by kernel_rfl)) (by kernel_rfl))) (hs := by kernel_rfl) (hw := by kernel_rfl)))
noncomputable def lawF_10 : PS → Option (Fl × PS) := by with_reducible refine (?g : {f : PS → Option (Fl × PS)} → {h : lawT1 lawS_10 f} → lawX_10 = .mk f h → PS → Option (Fl × PS)) rfl; exact fun {f} {h} _ => f
theorem lawW_10 : lawT1 lawS_10 lawF_10 := by with_reducible exact WX.spec lawX_10 (by kernel_rfl)
@[reducible] noncomputable def lawX_8 : WX (lawT1 lawS_8) := .mk _ (by with_reducible exact fun w mg mb v C a cd L g K => (X1.assign K (i := 15) (b := true) (by kernel_rfl) (Ev.dict K) (hs := by kernel_rfl)))
noncomputable def lawF_8 : PS → Option (Fl × PS) := by with_reducible refine (?g : {f : PS → Option (Fl × PS)} → {h : lawT1 lawS_8 f} → lawX_8 = .mk f h → PS → Option (Fl × PS)) rfl; exact fun {f} {h} _ => f
theorem lawW_8 : lawT1 lawS_8 lawF_8 := by with_reducible exact WX.spec lawX_8 (by kernel_rfl)
@[reducible] noncomputable def lawX_11 : WX (lawT1 lawS_11) := .mk _ (by with_reducible exact fun w mg mb v C a cd L g K => (X1.assign K (i := 19) (b := false) (by kernel_rfl) (sp_acc K (VG.f K) (by kernel_rfl) (Evs.cons (Ev.var K (i := 17) (b := false) (by kernel_rfl) (hd := by kernel_rfl)) (Evs.nil) (by kernel_rfl)) (hlv := by kernel_rfl)) (hs := by kernel_rfl)))
noncomputable def lawF_11 : PS → Option (Fl × PS) := by with_reducible refine (?g : {f : PS → Option (Fl × PS)} → {h : lawT1 lawS_11 f} → lawX_11 = .mk f h → PS → Option (Fl × PS)) rfl; exact fun {f} {h} _ => f
theorem lawW_11 : lawT1 lawS_11 lawF_11 := by with_reducible exact WX.spec lawX_11 (by kernel_rfl)
@[reducible] noncomputable def lawX_0 : WX (lawT1 lawS_0) := .mk _ (by with_reducible exact fun w mg mb v C a cd L g K => (X1.assign K (i := 1) (b := true) (by kernel_rfl) (Ev.lst (Evs.cons (Ev.int) (Evs.cons (Ev.int) (Evs.cons (Ev.int) (Evs.cons (Ev.int) (Evs.cons (Ev.int) (Evs.cons (Ev.int) (Evs.cons (Ev.int) (Evs.cons (Ev.int) (Evs.cons (Ev.int) (Evs.cons (Ev.int) (Evs.nil) (by kernel_rfl)) (by kernel_rfl)) (by kernel_rfl)) (by kernel_rfl)) (by kernel_rfl)) (by kernel_rfl)) (by kernel_rfl)) (by kernel_rfl)) (by kernel_rfl)) (by kernel_rfl))) (hs := by kernel_rfl)))
noncomputable def lawF_0 : PS → Option (Fl × PS) := by with_reducible refine (?g : {f : PS → Option (Fl × PS)} → {h : lawT1 lawS_0 f} → lawX_0 = .mk f h → PS → Option (Fl × PS)) rfl; exact fun {f} {h} _ => f
theorem lawW_0 : lawT1 lawS_0 lawF_0 := by with_reducible exact WX.spec lawX_0 (by kernel_rfl)
@[reducible] noncomputable def lawX_2 : WX (lawT1 lawS_2) := .mk _ (by with_reducible exact fun w mg mb v C a cd L g K => (X1.tup K (Tns.cons (b := false) (i := 4) (by kernel_rfl) (Tns.cons (b := false) (i := 5) (by kernel_rfl) (Tns.nil))) (Ev.tup (Evs.cons (Ev.str ([]) (hl := by kernel_rfl)) (Evs.cons (Ev.str ([]) (hl := by kernel_rfl)) (Evs.nil) (by kernel_rfl)) (by kernel_rfl))) (hs := by kernel_rfl) (hw := by kernel_rfl)))
noncomputable def lawF_2 : PS → Option (Fl × PS) := by with_reducible refine (?g : {f : PS → Option (Fl × PS)} → {h : lawT1 lawS_2 f} → lawX_2 = .mk f h → PS → Option (Fl × PS)) rfl; exact fun {f} {h} _ => f
theorem lawW_2 : lawT1 lawS_2 lawF_2 := by with_reducible exact WX.spec lawX_2 (by kernel_rfl)
@[reducible] noncomputable def lawX_1b_0 : WX (lawT1 lawS_1b_0) := .mk _ (by with_reducible exact fun w mg mb v C a cd L g K => (X1.fin ([]) (X1.augSub K (Ev.var K (i := 1) (b := true) (by kernel_rfl) (hd := by kernel_rfl)) (Ev.bin (Ev.var K (i := 2) (b := false) (by kernel_rfl) (hd := by kernel_rfl)) (Ev.int) (Op2.mod)) (Ev.bin (Ev.var K (i := 3) (b := false) (by kernel_rfl) (hd := by kernel_rfl)) (Ev.bin (Ev.int) (Ev.int) (Op2.pow)) (Op2.mod)) (Op2.iadd) (hst := by intros; kernel_rfl))))
noncomputable def lawF_1b_0 : PS → Option (Fl × PS) := by with_reducible refine (?g : {f : PS → Option (Fl × PS)} → {h : lawT1 lawS_1b_0 f} → lawX_1b_0 = .mk f h → PS → Option (Fl × PS)) rfl; exact fun {f} {h} _ => f
theorem lawW_1b_0 : lawT1 lawS_1b_0 lawF_1b_0 := by with_reducible exact WX.spec lawX_1b_0 (by kernel_rfl)
@[reducible] noncomputable def lawX_1 : WX (lawT1 lawS_1) := .mk _ (by with_reducible exact fun w mg mb v C a cd L g K => (X1.fin ([0, 2, 3]) (X1.enum K (bi := false) (bv := false) (ii := 2) (iv := 3) (200) (by kernel_rfl) (by kernel_rfl) (g_enum K (VG.f K) (by kernel_rfl)) (Ev.slice K (Ev.var K (i := 0) (b := false) (by kernel_rfl) (hd := by kernel_rfl)) (Prt.none) (Prt.some (Ev.int)) (Prt.none)) (by kernel_rfl) (Xs.cons (lawW_1b_0 w mg mb v C a cd L g K) (Xs.nil)) (hs := by intros; kernel_rfl))))
noncomputable def lawF_1 : PS → Option (Fl × PS) := by with_reducible refine (?g : {f : PS → Option (Fl × PS)} → {h : lawT1 lawS_1 f} → lawX_1 = .mk f h → PS → Option (Fl × PS)) rfl; exact fun {f} {h} _ => f
theorem lawW_1 : lawT1 lawS_1 lawF_1 := by with_reducible exact WX.spec lawX_1 (by kernel_rfl)
@[reducible] noncomputable def lawX_7b_0b_0t_0 : WX (lawT1 lawS_7b_0b_0t_0) := .mk _ (by with_reducible exact fun w mg mb v C a cd L g K => (X1.fin ([]) (X1.expr (Ev.meth PySem.F.plainAttrs_list PySem.F.slot_list_append PySem.F.type_list_append (Ev.var K (i := 12) (b := false) (by kernel_rfl) (hd := by kernel_rfl)) (Evs.cons (Ev.bin (Ev.sub K (Ev.var K (i := 5) (b := false) (by kernel_rfl) (hd := by kernel_rfl)) (Ev.var K (i := 13) (b := false) (by kernel_rfl) (hd := by kernel_rfl)) (hsl := by intros; kernel_rfl)) (Ev.sub K (Ev.var K (i := 5) (b := false) (by kernel_rfl) (hd := by kernel_rfl)) (Ev.var K (i := 14) (b := false) (by kernel_rfl) (hd := by kernel_rfl)) (hsl := by intros; kernel_rfl)) (Op2.add)) (Evs.nil) (by kernel_rfl)) (Cl.append) (hbase := by kernel_rfl) (hl := by kernel_rfl) (hline := by kernel_rfl)) (hi := by kernel_rfl) (hs := by kernel_rfl))))
noncomputable def lawF_7b_0b_0t_0 : PS → Option (Fl × PS) := by with_reducible refine (?g : {f : PS → Option (Fl × PS)} → {h : lawT1 lawS_7b_0b_0t_0 f} → lawX_7b_0b_0t_0 = .mk f h → PS → Option (Fl × PS)) rfl; exact fun {f} {h} _ => f
theorem lawW_7b_0b_0t_0 : lawT1 lawS_7b_0b_0t_0 lawF_7b_0b_0t_0 := by with_reducible exact WX.spec lawX_7b_0b_0t_0 (by kernel_rfl)
@[reducible] noncomputable def lawX_7b_0b_0 : WX (lawT1 lawS_7b_0b_0) := .mk _ (by with_reducible exact fun w mg mb v C a cd L g K => (X1.fin ([]) (X1.ite (Ts.and (Tss.cons (Ts.or (Tss.cons (Ts.val (Ev.var K (i := 9) (b := false) (by kernel_rfl) (hd := by kernel_rfl)) (hi := by kernel_rfl)) (Tss.cons (Ts.cmp (Ev.var K (i := 13) (b := false) (by kernel_rfl) (hd := by kernel_rfl)) (Ev.int) (Op2.eqA K) (hm := by kernel_rfl)) (Tss.nil)))) (Tss.cons (Ts.or (Tss.cons (Ts.val (Ev.var K (i := 10) (b := false) (by kernel_rfl) (hd := by kernel_rfl)) (hi := by kernel_rfl)) (Tss.cons (Ts.cmp (Ev.var K (i := 14) (b := false) (by kernel_rfl) (hd := by kernel_rfl)) (Ev.bin (Ev.var K (i := 13) (b := false) (by kernel_rfl) (hd := by kernel_rfl)) (Ev.int) (Op2.add)) (Op2.eqA K) (hm := by kernel_rfl)) (Tss.nil)))) (Tss.cons (Ts.or (Tss.cons (Ts.val (Ev.var K (i := 11) (b := false) (by kernel_rfl) (hd := by kernel_rfl)) (hi := by kernel_rfl)) (Tss.cons (Ts.cmp (Ev.var K (i := 14) (b := false) (by kernel_rfl) (hd := by kernel_rfl)) (Ev.bin (sp_len K (VG.f K) (by kernel_rfl) (Evs.cons (Ev.var K (i := 5) (b := false) (by kernel_rfl) (hd := by kernel_rfl)) (Evs.nil) (by kernel_rfl)) (hlv := by kernel_rfl)) (Ev.int) (Op2.sub)) (Op2.eqA K) (hm := by kernel_rfl)) (Tss.nil)))) (Tss.nil))))) (Xs.cons (lawW_7b_0b_0t_0 w mg mb v C a cd L g K) (Xs.nil)) (Xs.nil))))
noncomputable def lawF_7b_0b_0 : PS → Option (Fl × PS) := by with_reducible refine (?g : {f : PS → Option (Fl × PS)} → {h : lawT1 lawS_7b_0b_0 f} → lawX_7b_0b_0 = .mk f h → PS → Option (Fl × PS)) rfl; exact fun {f} {h} _ => f
theorem lawW_7b_0b_0 : lawT1 lawS_7b_0b_0 lawF_7b_0b_0 := by with_reducible exact WX.spec lawX_7b_0b_0 (by kernel_rfl)
@[reducible] noncomputable def lawX_7b_0 : WX (lawT1 lawS_7b_0) := .mk _ (by with_reducible exact fun w mg mb v C a cd L g K => (X1.fin ([14]) (X1.forC K ([]) (200) (Ev.callT (g_range K (VG.f K) (by kernel_rfl)) (Evs.cons (Ev.bin (Ev.var K (i := 13) (b := false) (by kernel_rfl) (hd := by kernel_rfl)) (Ev.int) (Op2.add)) (Evs.cons (sp_len K (VG.f K) (by kernel_rfl) (Evs.cons (Ev.var K (i := 5) (b := false) (by kernel_rfl) (hd := by kernel_rfl)) (Evs.nil) (by kernel_rfl)) (hlv := by kernel_rfl)) (Evs.nil) (by kernel_rfl)) (by kernel_rfl)) (Cl.range)) (Tg.name K (i := 14) (b := false) (by kernel_rfl)) (Xs.cons (lawW_7b_0b_0 w mg mb v C a cd L g K) (Xs.nil)) (hg := by intros; kernel_rfl) (hs := by intros; kernel_rfl))))
noncomputable def lawF_7b_0 : PS → Option (Fl × PS) := by with_reducible refine (?g : {f : PS → Option (Fl × PS)} → {h : lawT1 lawS_7b_0 f} → lawX_7b_0 = .mk f h → PS → Option (Fl × PS)) rfl; exact fun {f} {h} _ => f
theorem lawW_7b_0 : lawT1 lawS_7b_0 lawF_7b_0 := by with_reducible exact WX.spec lawX_7b_0 (by kernel_rfl)
@[reducible] noncomputable def lawX_7 : WX (lawT1 lawS_7) := .mk _ (by with_reducible exact fun w mg mb v C a cd L g K => (X1.fin ([13, 14]) (X1.forC K ([]) (200) (Ev.callT (g_range K (VG.f K) (by kernel_rfl)) (Evs.cons (sp_len K (VG.f K) (by kernel_rfl) (Evs.cons (Ev.var K (i := 5) (b := false) (by kernel_rfl) (hd := by kernel_rfl)) (Evs.nil) (by kernel_rfl)) (hlv := by kernel_rfl)) (Evs.nil) (by kernel_rfl)) (Cl.range)) (Tg.name K (i := 13) (b := false) (by kernel_rfl)) (Xs.cons (lawW_7b_0 w mg mb v C a cd L g K) (Xs.nil)) (hg := by intros; kernel_rfl) (hs := by intros; kernel_rfl))))
noncomputable def lawF_7 : PS → Option (Fl × PS) := by with_reducible refine (?g : {f : PS → Option (Fl × PS)} → {h : lawT1 lawS_7 f} → lawX_7 = .mk f h → PS → Option (Fl × PS)) rfl; exact fun {f} {h} _ => f
theorem lawW_7 : lawT1 lawS_7 lawF_7 := by with_reducible exact WX.spec lawX_7 (by kernel_rfl)
@[reducible] noncomputable def lawX_13 : WX (lawT1 lawS_13) := .mk _ (by with_reducible exact fun w mg mb v C a cd L g K => (X1.tup K (Tns.cons (b := true) (i := 21) (by kernel_rfl) (Tns.cons (b := true) (i := 22) (by kernel_rfl) (Tns.cons (b := false) (i := 23) (by kernel_rfl) (Tns.nil)))) (Ev.tup (Evs.cons (Ev.bin (Ev.lst (Evs.cons (Ev.int) (Evs.nil) (by kernel_rfl))) (Ev.int) (Op2.mulL)) (Evs.cons (Ev.bin (Ev.lst (Evs.cons (Ev.int) (Evs.nil) (by kernel_rfl))) (Ev.int) (Op2.mulL)) (Evs.cons (Ev.str ([]) (hl := by kernel_rfl)) (Evs.nil) (by kernel_rfl)) (by kernel_rfl)) (by kernel_rfl))) (hs := by kernel_rfl) (hw := by kernel_rfl)))
noncomputable def lawF_13 : PS → Option (Fl × PS) := by with_reducible refine (?g : {f : PS → Option (Fl × PS)} → {h : lawT1 lawS_13 f} → lawX_13 = .mk f h → PS → Option (Fl × PS)) rfl; exact fun {f} {h} _ => f
theorem lawW_13 : lawT1 lawS_13 lawF_13 := by with_reducible exact WX.spec lawX_13 (by kernel_rfl)
@[reducible] noncomputable def lawX_5 : WX (lawT1 lawS_5) := .mk _ (by with_reducible exact fun w mg mb v C a cd L g K => (X1.tup K (Tns.cons (b := false) (i := 9) (by kernel_rfl) (Tns.cons (b := false) (i := 10) (by kernel_rfl) (Tns.cons (b := false) (i := 11) (by kernel_rfl) (Tns.nil)))) (Ev.compT K 200 (Ev.callT (g_range K (VG.f K) (by kernel_rfl)) (Evs.cons (Ev.int) (Evs.nil) (by kernel_rfl)) (Cl.range)) (fun Cn v => (Cts.nil)) (fun Cn v => (Ev.bin (Ev.str ([46, 46, 46]) (hl := by kernel_rfl)) (Ev.bin (Ev.bin (Ev.sub K (Ev.cel K (i := 1) (by kernel_rfl) (by kernel_rfl) (by kernel_rfl) (by intros; with_unfolding_all assumption) (hd := by kernel_rfl)) (Ev.int) (hsl := by intros; kernel_rfl)) (Ev.bin (Ev.int) (Ev.cv (by kernel_rfl) (by kernel_rfl) (hd := by kernel_rfl)) (Op2.pow)) (Op2.fdiv)) (Ev.int) (Op2.mod)) (Op2.mulL))) (by kernel_rfl) (by kernel_rfl) (by intros; kernel_rfl)) (hs := by kernel_rfl) (hw := by kernel_rfl)))
noncomputable def lawF_5 : PS → Option (Fl × PS) := by with_reducible refine (?g : {f : PS → Option (Fl × PS)} → {h : lawT1 lawS_5 f} → lawX_5 = .mk f h → PS → Option (Fl × PS)) rfl; exact fun {f} {h} _ => f
theorem lawW_5 : lawT1 lawS_5 lawF_5 := by with_reducible exact WX.spec lawX_5 (by kernel_rfl)
@[reducible] noncomputable def lawX_15b_0 : WX (lawT1 lawS_15b_0) := .mk _ (by with_reducible exact fun w mg mb v C a cd L g K => (X1.assign K (i := 38) (b := false) (by kernel_rfl) (Ev.callB (g_sum K (VG.f K) (by kernel_rfl)) (Evs.cons (Ev.compT K 200 (Ev.callT (g_range K (VG.f K) (by kernel_rfl)) (Evs.cons (Ev.int) (Evs.nil) (by kernel_rfl)) (Cl.range)) (fun Cn v => (Cts.nil)) (fun Cn v => (Ev.bin (Ev.sub K (Ev.cel K (i := 22) (by kernel_rfl) (by kernel_rfl) (by kernel_rfl) (by intros; with_unfolding_all assumption) (hd := by kernel_rfl)) (Ev.cv (by kernel_rfl) (by kernel_rfl) (hd := by kernel_rfl)) (hsl := by intros; kernel_rfl)) (Ev.bin (Ev.cel K (i := 37) (by kernel_rfl) (by kernel_rfl) (by kernel_rfl) (by intros; with_unfolding_all assumption) (hd := by kernel_rfl)) (Ev.cv (by kernel_rfl) (by kernel_rfl) (hd := by kernel_rfl)) (Op2.pow)) (Op2.mulL))) (by kernel_rfl) (by kernel_rfl) (by intros; kernel_rfl)) (Evs.nil) (by kernel_rfl)) (Cl.sum K)) (hs := by kernel_rfl)))
noncomputable def lawF_15b_0 : PS → Option (Fl × PS) := by with_reducible refine (?g : {f : PS → Option (Fl × PS)} → {h : lawT1 lawS_15b_0 f} → lawX_15b_0 = .mk f h → PS → Option (Fl × PS)) rfl; exact fun {f} {h} _ => f
theorem lawW_15b_0 : lawT1 lawS_15b_0 lawF_15b_0 := by with_reducible exact WX.spec lawX_15b_0 (by kernel_rfl)
@[reducible] noncomputable def lawX_15b_2t_0 : WX (lawT1 lawS_15b_2t_0) := .mk _ (by with_reducible exact fun w mg mb v C a cd L g K => (X1.ret (Ev.bool (b := false))))
noncomputable def lawF_15b_2t_0 : PS → Option (Fl × PS) := by with_reducible refine (?g : {f : PS → Option (Fl × PS)} → {h : lawT1 lawS_15b_2t_0 f} → lawX_15b_2t_0 = .mk f h → PS → Option (Fl × PS)) rfl; exact fun {f} {h} _ => f
theorem lawW_15b_2t_0 : lawT1 lawS_15b_2t_0 lawF_15b_2t_0 := by with_reducible exact WX.spec lawX_15b_2t_0 (by kernel_rfl)
@[reducible] noncomputable def lawX_15b_2 : WX (lawT1 lawS_15b_2) := .mk _ (by with_reducible exact fun w mg mb v C a cd L g K => (X1.fin ([]) (X1.ite (Ts.cmp (Ev.callB (g_sum K (VG.f K) (by kernel_rfl)) (Evs.cons (Ev.compT K 200 (Ev.callT (g_range K (VG.f K) (by kernel_rfl)) (Evs.cons (Ev.int) (Evs.nil) (by kernel_rfl)) (Cl.range)) (fun Cn v => (Cts.nil)) (fun Cn v => (Ev.bin (Ev.sub K (Ev.cel K (i := 21) (by kernel_rfl) (by kernel_rfl) (by kernel_rfl) (by intros; with_unfolding_all assumption) (hd := by kernel_rfl)) (Ev.cv (by kernel_rfl) (by kernel_rfl) (hd := by kernel_rfl)) (hsl := by intros; kernel_rfl)) (Ev.sub K (Ev.cel K (i := 39) (by kernel_rfl) (by kernel_rfl) (by kernel_rfl) (by intros; with_unfolding_all assumption) (hd := by kernel_rfl)) (Ev.cv (by kernel_rfl) (by kernel_rfl) (hd := by kernel_rfl)) (hsl := by intros; kernel_rfl)) (Op2.mulL))) (by kernel_rfl) (by kernel_rfl) (by intros; kernel_rfl)) (Evs.nil) (by kernel_rfl)) (Cl.sum K)) (Ev.var K (i := 38) (b := false) (by kernel_rfl) (hd := by kernel_rfl)) (Op2.neA K) (hm := by kernel_rfl)) (Xs.cons (lawW_15b_2t_0 w mg mb v C a cd L g K) (Xs.nil)) (Xs.nil))))
noncomputable def lawF_15b_2 : PS → Option (Fl × PS) := by with_reducible refine (?g : {f : PS → Option (Fl × PS)} → {h : lawT1 lawS_15b_2 f} → lawX_15b_2 = .mk f h → PS → Option (Fl × PS)) rfl; exact fun {f} {h} _ => f
theorem lawW_15b_2 : lawT1 lawS_15b_2 lawF_15b_2 := by with_reducible exact WX.spec lawX_15b_2 (by kernel_rfl)
@[reducible] noncomputable def lawX_15b_1 : WX (lawT1 lawS_15b_1) := .mk _ (by with_reducible exact fun w mg mb v C a cd L g K => (X1.assign K (i := 39) (b := true) (by kernel_rfl) (Ev.compT K 200 (Ev.callT (g_range K (VG.f K) (by kernel_rfl)) (Evs.cons (Ev.int) (Evs.nil) (by kernel_rfl)) (Cl.range)) (fun Cn v => (Cts.nil)) (fun Cn v => (Ev.bin (Ev.bin (Ev.bin (Ev.bin (Ev.bin (Ev.bin (Ev.cel K (i := 37) (by kernel_rfl) (by kernel_rfl) (by kernel_rfl) (by intros; with_unfolding_all assumption) (hd := by kernel_rfl)) (Ev.int) (Op2.add)) (Ev.cv (by kernel_rfl) (by kernel_rfl) (hd := by kernel_rfl)) (Op2.sub)) (Ev.bin (Ev.bin (Ev.cel K (i := 37) (by kernel_rfl) (by kernel_rfl) (by kernel_rfl) (by intros; with_unfolding_all assumption) (hd := by kernel_rfl)) (Ev.int) (Op2.add)) (Ev.cv (by kernel_rfl) (by kernel_rfl) (hd := by kernel_rfl)) (Op2.sub)) (Op2.mulL)) (Ev.bin (Ev.bin (Ev.cel K (i := 37) (by kernel_rfl) (by kernel_rfl) (by kernel_rfl) (by intros; with_unfolding_all assumption) (hd := by kernel_rfl)) (Ev.int) (Op2.add)) (Ev.cv (by kernel_rfl) (by kernel_rfl) (hd := by kernel_rfl)) (Op2.sub)) (Op2.mulL)) (Ev.bin (Ev.cel K (i := 37) (by kernel_rfl) (by kernel_rfl) (by kernel_rfl) (by intros; with_unfolding_all assumption) (hd := by kernel_rfl)) (Ev.cv (by kernel_rfl) (by kernel_rfl) (hd := by kernel_rfl)) (Op2.sub)) (Op2.mulL)) (Ev.int) (Op2.fdiv))) (by kernel_rfl) (by kernel_rfl) (by intros; kernel_rfl)) (hs := by kernel_rfl)))
noncomputable def lawF_15b_1 : PS → Option (Fl × PS) := by with_reducible refine (?g : {f : PS → Option (Fl × PS)} → {h : lawT1 lawS_15b_1 f} → lawX_15b_1 = .mk f h → PS → Option (Fl × PS)) rfl; exact fun {f} {h} _ => f
theorem lawW_15b_1 : lawT1 lawS_15b_1 lawF_15b_1 := by with_reducible exact WX.spec lawX_15b_1 (by kernel_rfl)
@[reducible] noncomputable def lawX_15 : WX (lawT1 lawS_15) := .mk _ (by with_reducible exact fun w mg mb v C a cd L g K => (X1.fin ([37, 38, 39]) (X1.forC K ([]) (200) (Ev.callT (g_range K (VG.f K) (by kernel_rfl)) (Evs.cons (Ev.int) (Evs.cons (Ev.int) (Evs.nil) (by kernel_rfl)) (by kernel_rfl)) (Cl.range)) (Tg.name K (i := 37) (b := true) (by kernel_rfl)) (Xs.cons (lawW_15b_0 w mg mb v C a cd L g K) (Xs.cons (lawW_15b_1 w mg mb v C a cd L g K) (Xs.cons (lawW_15b_2 w mg mb v C a cd L g K) (Xs.nil)))) (hg := by intros; kernel_rfl) (hs := by intros; kernel_rfl))))
noncomputable def lawF_15 : PS → Option (Fl × PS) := by with_reducible refine (?g : {f : PS → Option (Fl × PS)} → {h : lawT1 lawS_15 f} → lawX_15 = .mk f h → PS → Option (Fl × PS)) rfl; exact fun {f} {h} _ => f
theorem lawW_15 : lawT1 lawS_15 lawF_15 := by with_reducible exact WX.spec lawX_15 (by kernel_rfl)
@[reducible] noncomputable def lawX_9b_0b_0t_0 : WX (lawT1 lawS_9b_0b_0t_0) := .mk _ (by with_reducible exact fun w mg mb v C a cd L g K => (X1.fin ([]) (X1.setSub K (Ev.var K (i := 15) (b := true) (by kernel_rfl) (hd := by kernel_rfl)) (Ev.bin (Ev.var K (i := 3) (b := false) (by kernel_rfl) (hd := by kernel_rfl)) (Ev.var K (i := 16) (b := false) (by kernel_rfl) (hd := by kernel_rfl)) (Op2.add)) (Ev.callU K (VG.f K) (inEll) (by kernel_rfl) (by kernel_rfl) (by kernel_rfl) (Evs.cons (Ev.bin (Ev.bin (Ev.bin (Ev.bin (Ev.var K (i := 9) (b := false) (by kernel_rfl) (hd := by kernel_rfl)) (Ev.var K (i := 3) (b := false) (by kernel_rfl) (hd := by kernel_rfl)) (Op2.add)) (Ev.var K (i := 10) (b := false) (by kernel_rfl) (hd := by kernel_rfl)) (Op2.add)) (Ev.var K (i := 16) (b := false) (by kernel_rfl) (hd := by kernel_rfl)) (Op2.add)) (Ev.var K (i := 11) (b := false) (by kernel_rfl) (hd := by kernel_rfl)) (Op2.add)) (Evs.cons (Ev.var K (i := 5) (b := false) (by kernel_rfl) (hd := by kernel_rfl)) (Evs.nil) (by kernel_rfl)) (by kernel_rfl)) (clEll K (Nat.succ_pos (7)))) (hs := by kernel_rfl))))
noncomputable def lawF_9b_0b_0t_0 : PS → Option (Fl × PS) := by with_reducible refine (?g : {f : PS → Option (Fl × PS)} → {h : lawT1 lawS_9b_0b_0t_0 f} → lawX_9b_0b_0t_0 = .mk f h → PS → Option (Fl × PS)) rfl; exact fun {f} {h} _ => f
theorem lawW_9b_0b_0t_0 : lawT1 lawS_9b_0b_0t_0 lawF_9b_0b_0t_0 := by with_reducible exact WX.spec lawX_9b_0b_0t_0 (by kernel_rfl)
@[reducible] noncomputable def lawX_9b_0b_0t_1t_0 : WX (lawT1 lawS_9b_0b_0t_1t_0) := .mk _ (by with_reducible exact fun w mg mb v C a cd L g K => (X1.ret (Ev.bool (b := false))))
noncomputable def lawF_9b_0b_0t_1t_0 : PS → Option (Fl × PS) := by with_reducible refine (?g : {f : PS → Option (Fl × PS)} → {h : lawT1 lawS_9b_0b_0t_1t_0 f} → lawX_9b_0b_0t_1t_0 = .mk f h → PS → Option (Fl × PS)) rfl; exact fun {f} {h} _ => f
theorem lawW_9b_0b_0t_1t_0 : lawT1 lawS_9b_0b_0t_1t_0 lawF_9b_0b_0t_1t_0 := by with_reducible exact WX.spec lawX_9b_0b_0t_1t_0 (by kernel_rfl)
@[reducible] noncomputable def lawX_9b_0b_0t_1 : WX (lawT1 lawS_9b_0b_0t_1) := .mk _ (by with_reducible exact fun w mg mb v C a cd L g K => (X1.fin ([]) (X1.ite (Ts.cmp (Ev.sub K (Ev.var K (i := 15) (b := true) (by kernel_rfl) (hd := by kernel_rfl)) (Ev.bin (Ev.var K (i := 3) (b := false) (by kernel_rfl) (hd := by kernel_rfl)) (Ev.var K (i := 16) (b := false) (by kernel_rfl) (hd := by kernel_rfl)) (Op2.add)) (hsl := by intros; kernel_rfl)) (Ev.cmp (Ev.bin (Ev.var K (i := 3) (b := false) (by kernel_rfl) (hd := by kernel_rfl)) (Ev.var K (i := 16) (b := false) (by kernel_rfl) (hd := by kernel_rfl)) (Op2.add)) (Ev.var K (i := 12) (b := false) (by kernel_rfl) (hd := by kernel_rfl)) (Op2.in) (hm := by kernel_rfl)) (Op2.isNot) (hm := by kernel_rfl)) (Xs.cons (lawW_9b_0b_0t_1t_0 w mg mb v C a cd L g K) (Xs.nil)) (Xs.nil))))
noncomputable def lawF_9b_0b_0t_1 : PS → Option (Fl × PS) := by with_reducible refine (?g : {f : PS → Option (Fl × PS)} → {h : lawT1 lawS_9b_0b_0t_1 f} → lawX_9b_0b_0t_1 = .mk f h → PS → Option (Fl × PS)) rfl; exact fun {f} {h} _ => f
theorem lawW_9b_0b_0t_1 : lawT1 lawS_9b_0b_0t_1 lawF_9b_0b_0t_1 := by with_reducible exact WX.spec lawX_9b_0b_0t_1 (by kernel_rfl)
@[reducible] noncomputable def lawX_9b_0b_0 : WX (lawT1 lawS_9b_0b_0) := .mk _ (by with_reducible exact fun w mg mb v C a cd L g K => (X1.fin ([]) (X1.ite (Ts.cmp (Ev.var K (i := 3) (b := false) (by kernel_rfl) (hd := by kernel_rfl)) (Ev.var K (i := 16) (b := false) (by kernel_rfl) (hd := by kernel_rfl)) (Op2.neA K) (hm := by kernel_rfl)) (Xs.cons (lawW_9b_0b_0t_0 w mg mb v C a cd L g K) (Xs.cons (lawW_9b_0b_0t_1 w mg mb v C a cd L g K) (Xs.nil))) (Xs.nil))))
noncomputable def lawF_9b_0b_0 : PS → Option (Fl × PS) := by with_reducible refine (?g : {f : PS → Option (Fl × PS)} → {h : lawT1 lawS_9b_0b_0 f} → lawX_9b_0b_0 = .mk f h → PS → Option (Fl × PS)) rfl; exact fun {f} {h} _ => f
theorem lawW_9b_0b_0 : lawT1 lawS_9b_0b_0 lawF_9b_0b_0 := by with_reducible exact WX.spec lawX_9b_0b_0 (by kernel_rfl)
@[reducible] noncomputable def lawX_9b_0 : WX (lawT1 lawS_9b_0) := .mk _ (by with_reducible exact fun w mg mb v C a cd L g K => (X1.fin ([16]) (X1.forC K ([]) (200) (Ev.str ([97, 98, 107, 109]) (hl := by kernel_rfl)) (Tg.name K (i := 16) (b := false) (by kernel_rfl)) (Xs.cons (lawW_9b_0b_0 w mg mb v C a cd L g K) (Xs.nil)) (hg := by intros; kernel_rfl) (hs := by intros; kernel_rfl))))
noncomputable def lawF_9b_0 : PS → Option (Fl × PS) := by with_reducible refine (?g : {f : PS → Option (Fl × PS)} → {h : lawT1 lawS_9b_0 f} → lawX_9b_0 = .mk f h → PS → Option (Fl × PS)) rfl; exact fun {f} {h} _ => f
theorem lawW_9b_0 : lawT1 lawS_9b_0 lawF_9b_0 := by with_reducible exact WX.spec lawX_9b_0 (by kernel_rfl)
@[reducible] noncomputable def lawX_9 : WX (lawT1 lawS_9) := .mk _ (by with_reducible exact fun w mg mb v C a cd L g K => (X1.fin ([3, 16, 12, 1003, 1004]) (X1.forC K ([]) (200) (Ev.str ([97, 98, 107, 109]) (hl := by kernel_rfl)) (Tg.name K (i := 3) (b := false) (by kernel_rfl)) (Xs.cons (lawW_9b_0 w mg mb v C a cd L g K) (Xs.nil)) (hg := by intros; kernel_rfl) (hs := by intros; kernel_rfl))))
noncomputable def lawF_9 : PS → Option (Fl × PS) := by with_reducible refine (?g : {f : PS → Option (Fl × PS)} → {h : lawT1 lawS_9 f} → lawX_9 = .mk f h → PS → Option (Fl × PS)) rfl; exact fun {f} {h} _ => f
theorem lawW_9 : lawT1 lawS_9 lawF_9 := by with_reducible exact WX.spec lawX_9 (by kernel_rfl)
@[reducible] noncomputable def lawX_12b_0 : WX (lawT1 lawS_12b_0) := .mk _ (by with_reducible exact fun w mg mb v C a cd L g K => (X1.fin ([]) (X1.expr (sp_psh K (VG.f K) (Ev.var K (i := 19) (b := false) (by kernel_rfl) (hd := by kernel_rfl)) (Evs.cons (Ev.var K (i := 18) (b := true) (by kernel_rfl) (hd := by kernel_rfl)) (Evs.cons (Ev.var K (i := 20) (b := false) (by kernel_rfl) (hd := by kernel_rfl)) (Evs.nil) (by kernel_rfl)) (by kernel_rfl)) (hbase := by kernel_rfl) (hl := by kernel_rfl) (hline := by kernel_rfl) (hlv := by kernel_rfl)) (hi := by kernel_rfl) (hs := by kernel_rfl))))
noncomputable def lawF_12b_0 : PS → Option (Fl × PS) := by with_reducible refine (?g : {f : PS → Option (Fl × PS)} → {h : lawT1 lawS_12b_0 f} → lawX_12b_0 = .mk f h → PS → Option (Fl × PS)) rfl; exact fun {f} {h} _ => f
theorem lawW_12b_0 : lawT1 lawS_12b_0 lawF_12b_0 := by with_reducible exact WX.spec lawX_12b_0 (by kernel_rfl)
@[reducible] noncomputable def lawX_12 : WX (lawT1 lawS_12) := .mk _ (by with_reducible exact fun w mg mb v C a cd L g K => (X1.fin ([20, 1, 1002]) (X1.forC K ([]) (200) (Ev.str ([97, 98, 107, 109]) (hl := by kernel_rfl)) (Tg.name K (i := 20) (b := false) (by kernel_rfl)) (Xs.cons (lawW_12b_0 w mg mb v C a cd L g K) (Xs.nil)) (hg := by intros; kernel_rfl) (hs := by intros; kernel_rfl))))
noncomputable def lawF_12 : PS → Option (Fl × PS) := by with_reducible refine (?g : {f : PS → Option (Fl × PS)} → {h : lawT1 lawS_12 f} → lawX_12 = .mk f h → PS → Option (Fl × PS)) rfl; exact fun {f} {h} _ => f
theorem lawW_12 : lawT1 lawS_12 lawF_12 := by with_reducible exact WX.spec lawX_12 (by kernel_rfl)
@[reducible] noncomputable def lawX_4t_0 : WX (lawT1 lawS_4t_0) := .mk _ (by with_reducible exact fun w mg mb v C a cd L g K => (X1.ret (Ev.bool (b := false))))
noncomputable def lawF_4t_0 : PS → Option (Fl × PS) := by with_reducible refine (?g : {f : PS → Option (Fl × PS)} → {h : lawT1 lawS_4t_0 f} → lawX_4t_0 = .mk f h → PS → Option (Fl × PS)) rfl; exact fun {f} {h} _ => f
theorem lawW_4t_0 : lawT1 lawS_4t_0 lawF_4t_0 := by with_reducible exact WX.spec lawX_4t_0 (by kernel_rfl)
@[reducible] noncomputable def lawX_4 : WX (lawT1 lawS_4) := .mk _ (by with_reducible exact fun w mg mb v C a cd L g K => (X1.fin ([]) (X1.ite (Ts.cmp (Ev.meth PySem.F.plainAttrs_str PySem.F.slot_str_join PySem.F.type_str_join (Ev.str ([]) (hl := by kernel_rfl)) (Evs.cons (Ev.compT K 200 (Ev.var K (i := 4) (b := false) (by kernel_rfl) (hd := by kernel_rfl)) (fun Cn v => (Cts.one (Ts.not (Ts.val (Ev.callU K (VG.c K (by kernel_rfl)) (inB1) (by kernel_rfl) (by kernel_rfl) (by kernel_rfl) (Evs.cons (Ev.cv (by kernel_rfl) (by kernel_rfl) (hd := by kernel_rfl)) (Evs.nil) (by kernel_rfl)) (clB1 K (Nat.succ_pos (7)))) (hi := by kernel_rfl))))) (fun Cn v => (Ev.callU K (VG.c K (by kernel_rfl)) (inB3) (by kernel_rfl) (by kernel_rfl) (by kernel_rfl) (Evs.cons (Ev.cv (by kernel_rfl) (by kernel_rfl) (hd := by kernel_rfl)) (Evs.nil) (by kernel_rfl)) (clB3 K (Nat.succ_pos (7))))) (by kernel_rfl) (by kernel_rfl) (by intros; kernel_rfl)) (Evs.nil) (by kernel_rfl)) (Cl.join) (hbase := by kernel_rfl) (hl := by kernel_rfl) (hline := by kernel_rfl)) (Ev.var K (i := 5) (b := false) (by kernel_rfl) (hd := by kernel_rfl)) (Op2.neA K) (hm := by kernel_rfl)) (Xs.cons (lawW_4t_0 w mg mb v C a cd L g K) (Xs.nil)) (Xs.nil))))
noncomputable def lawF_4 : PS → Option (Fl × PS) := by with_reducible refine (?g : {f : PS → Option (Fl × PS)} → {h : lawT1 lawS_4 f} → lawX_4 = .mk f h → PS → Option (Fl × PS)) rfl; exact fun {f} {h} _ => f
theorem lawW_4 : lawT1 lawS_4 lawF_4 := by with_reducible exact WX.spec lawX_4 (by kernel_rfl)
@[reducible] noncomputable def lawX_16 : WX (lawT1 lawS_16) := .mk _ (by with_reducible exact fun w mg mb v C a cd L g K => (X1.ret (Ev.bool (b := true))))
noncomputable def lawF_16 : PS → Option (Fl × PS) := by with_reducible refine (?g : {f : PS → Option (Fl × PS)} → {h : lawT1 lawS_16 f} → lawX_16 = .mk f h → PS → Option (Fl × PS)) rfl; exact fun {f} {h} _ => f
theorem lawW_16 : lawT1 lawS_16 lawF_16 := by with_reducible exact WX.spec lawX_16 (by kernel_rfl)
@[reducible] noncomputable def lawX_3b_2 : WX (lawT1 lawS_3b_2) := .mk _ (by with_reducible exact fun w mg mb v C a cd L g K => (X1.fin ([]) (X1.aug K (i := 4) (b := false) (by kernel_rfl) (Ev.var K (i := 7) (b := false) (by kernel_rfl) (hd := by kernel_rfl)) (Op2.iadd))))
noncomputable def lawF_3b_2 : PS → Option (Fl × PS) := by with_reducible refine (?g : {f : PS → Option (Fl × PS)} → {h : lawT1 lawS_3b_2 f} → lawX_3b_2 = .mk f h → PS → Option (Fl × PS)) rfl; exact fun {f} {h} _ => f
theorem lawW_3b_2 : lawT1 lawS_3b_2 lawF_3b_2 := by with_reducible exact WX.spec lawX_3b_2 (by kernel_rfl)
@[reducible] noncomputable def lawX_3b_1t_0 : WX (lawT1 lawS_3b_1t_0) := .mk _ (by with_reducible exact fun w mg mb v C a cd L g K => (X1.ret (Ev.bool (b := false))))
noncomputable def lawF_3b_1t_0 : PS → Option (Fl × PS) := by with_reducible refine (?g : {f : PS → Option (Fl × PS)} → {h : lawT1 lawS_3b_1t_0 f} → lawX_3b_1t_0 = .mk f h → PS → Option (Fl × PS)) rfl; exact fun {f} {h} _ => f
theorem lawW_3b_1t_0 : lawT1 lawS_3b_1t_0 lawF_3b_1t_0 := by with_reducible exact WX.spec lawX_3b_1t_0 (by kernel_rfl)
@[reducible] noncomputable def lawX_3b_1 : WX (lawT1 lawS_3b_1) := .mk _ (by with_reducible exact fun w mg mb v C a cd L g K => (X1.fin ([]) (X1.ite (Ts.cmp (Ev.callU K (VG.f K) (inB1) (by kernel_rfl) (by kernel_rfl) (by kernel_rfl) (Evs.cons (Ev.var K (i := 7) (b := false) (by kernel_rfl) (hd := by kernel_rfl)) (Evs.nil) (by kernel_rfl)) (clB1 K (Nat.succ_pos (7)))) (Ev.cmp (Ev.var K (i := 8) (b := false) (by kernel_rfl) (hd := by kernel_rfl)) (Ev.str ([]) (hl := by kernel_rfl)) (Op2.eqA K) (hm := by kernel_rfl)) (Op2.isNot) (hm := by kernel_rfl)) (Xs.cons (lawW_3b_1t_0 w mg mb v C a cd L g K) (Xs.nil)) (Xs.nil))))
noncomputable def lawF_3b_1 : PS → Option (Fl × PS) := by with_reducible refine (?g : {f : PS → Option (Fl × PS)} → {h : lawT1 lawS_3b_1 f} → lawX_3b_1 = .mk f h → PS → Option (Fl × PS)) rfl; exact fun {f} {h} _ => f
theorem lawW_3b_1 : lawT1 lawS_3b_1 lawF_3b_1 := by with_reducible exact WX.spec lawX_3b_1 (by kernel_rfl)
@[reducible] noncomputable def lawX_3b_3 : WX (lawT1 lawS_3b_3) := .mk _ (by with_reducible exact fun w mg mb v C a cd L g K => (X1.fin ([]) (X1.aug K (i := 5) (b := false) (by kernel_rfl) (Ev.var K (i := 8) (b := false) (by kernel_rfl) (hd := by kernel_rfl)) (Op2.iadd))))
noncomputable def lawF_3b_3 : PS → Option (Fl × PS) := by with_reducible refine (?g : {f : PS → Option (Fl × PS)} → {h : lawT1 lawS_3b_3 f} → lawX_3b_3 = .mk f h → PS → Option (Fl × PS)) rfl; exact fun {f} {h} _ => f
theorem lawW_3b_3 : lawT1 lawS_3b_3 lawF_3b_3 := by with_reducible exact WX.spec lawX_3b_3 (by kernel_rfl)
@[reducible] noncomputable def lawX_3b_0 : WX (lawT1 lawS_3b_0) := .mk _ (by with_reducible exact fun w mg mb v C a cd L g K => (X1.tup K (Tns.cons (b := false) (i := 7) (by kernel_rfl) (Tns.cons (b := false) (i := 8) (by kernel_rfl) (Tns.nil))) (Ev.callU K (VG.f K) (inTyp) (by kernel_rfl) (by kernel_rfl) (by kernel_rfl) (Evs.cons (Ev.var K (i := 6) (b := false) (by kernel_rfl) (hd := by kernel_rfl)) (Evs.nil) (by kernel_rfl)) (clTyp K (Nat.succ_pos (7)))) (hs := by kernel_rfl) (hw := by kernel_rfl)))
noncomputable def lawF_3b_0 : PS → Option (Fl × PS) := by with_reducible refine (?g : {f : PS → Option (Fl × PS)} → {h : lawT1 lawS_3b_0 f} → lawX_3b_0 = .mk f h → PS → Option (Fl × PS)) rfl; exact fun {f} {h} _ => f
theorem lawW_3b_0 : lawT1 lawS_3b_0 lawF_3b_0 := by with_reducible exact WX.spec lawX_3b_0 (by kernel_rfl)
@[reducible] noncomputable def lawX_3 : WX (lawT1 lawS_3) := .mk _ (by with_reducible exact fun w mg mb v C a cd L g K => (X1.fin ([6, 7, 8]) (X1.forC K ([]) (200) (Ev.slice K (Ev.var K (i := 1) (b := true) (by kernel_rfl) (hd := by kernel_rfl)) (Prt.none) (Prt.some (Ev.int)) (Prt.none)) (Tg.name K (i := 6) (b := false) (by kernel_rfl)) (Xs.cons (lawW_3b_0 w mg mb v C a cd L g K) (Xs.cons (lawW_3b_1 w mg mb v C a cd L g K) (Xs.cons (lawW_3b_2 w mg mb v C a cd L g K) (Xs.cons (lawW_3b_3 w mg mb v C a cd L g K) (Xs.nil))))) (hg := by intros; kernel_rfl) (hs := by intros; kernel_rfl))))
noncomputable def lawF_3 : PS → Option (Fl × PS) := by with_reducible refine (?g : {f : PS → Option (Fl × PS)} → {h : lawT1 lawS_3 f} → lawX_3 = .mk f h → PS → Option (Fl × PS)) rfl; exact fun {f} {h} _ => f
theorem lawW_3 : lawT1 lawS_3 lawF_3 := by with_reducible exact WX.spec lawX_3 (by kernel_rfl)
@[reducible] noncomputable def lawX_14b_10 : WX (lawT1 lawS_14b_10) := .mk _ (by with_reducible exact fun w mg mb v C a cd L g K => (X1.assign K (i := 31) (b := false) (by kernel_rfl) (Ev.int) (hs := by kernel_rfl)))
noncomputable def lawF_14b_10 : PS → Option (Fl × PS) := by with_reducible refine (?g : {f : PS → Option (Fl × PS)} → {h : lawT1 lawS_14b_10 f} → lawX_14b_10 = .mk f h → PS → Option (Fl × PS)) rfl; exact fun {f} {h} _ => f
theorem lawW_14b_10 : lawT1 lawS_14b_10 lawF_14b_10 := by with_reducible exact WX.spec lawX_14b_10 (by kernel_rfl)
@[reducible] noncomputable def lawX_14b_7 : WX (lawT1 lawS_14b_7) := .mk _ (by with_reducible exact fun w mg mb v C a cd L g K => (X1.fin ([]) (X1.augSub K (Ev.var K (i := 21) (b := true) (by kernel_rfl) (hd := by kernel_rfl)) (sp_len K (VG.f K) (by kernel_rfl) (Evs.cons (Ev.compT K 200 (Ev.callT (g_range K (VG.f K) (by kernel_rfl)) (Evs.cons (Ev.int) (Evs.nil) (by kernel_rfl)) (Cl.range)) (fun Cn v => (Cts.one (Ts.val (Ev.sub K (Ev.cel K (i := 15) (by kernel_rfl) (by kernel_rfl) (by kernel_rfl) (by intros; with_unfolding_all assumption) (hd := by kernel_rfl)) (Ev.slice K (Ev.cel K (i := 26) (by kernel_rfl) (by kernel_rfl) (by kernel_rfl) (by intros; with_unfolding_all assumption) (hd := by kernel_rfl)) (Prt.some (Ev.cv (by kernel_rfl) (by kernel_rfl) (hd := by kernel_rfl))) (Prt.some (Ev.bin (Ev.cv (by kernel_rfl) (by kernel_rfl) (hd := by kernel_rfl)) (Ev.int) (Op2.add))) (Prt.none)) (hsl := by intros; kernel_rfl)) (hi := by kernel_rfl)))) (fun Cn v => (Ev.cv (by kernel_rfl) (by kernel_rfl) (hd := by kernel_rfl))) (by kernel_rfl) (by kernel_rfl) (by intros; kernel_rfl)) (Evs.nil) (by kernel_rfl)) (hlv := by kernel_rfl)) (Ev.int) (Op2.iadd) (hst := by intros; kernel_rfl))))
noncomputable def lawF_14b_7 : PS → Option (Fl × PS) := by with_reducible refine (?g : {f : PS → Option (Fl × PS)} → {h : lawT1 lawS_14b_7 f} → lawX_14b_7 = .mk f h → PS → Option (Fl × PS)) rfl; exact fun {f} {h} _ => f
theorem lawW_14b_7 : lawT1 lawS_14b_7 lawF_14b_7 := by with_reducible exact WX.spec lawX_14b_7 (by kernel_rfl)
@[reducible] noncomputable def lawX_14b_9b_0t_0 : WX (lawT1 lawS_14b_9b_0t_0) := .mk _ (by with_reducible exact fun w mg mb v C a cd L g K => (X1.fin ([]) (X1.expr (Ev.meth PySem.F.plainAttrs_list PySem.F.slot_list_append PySem.F.type_list_append (Ev.var K (i := 30) (b := false) (by kernel_rfl) (hd := by kernel_rfl)) (Evs.cons (Ev.var K (i := 20) (b := false) (by kernel_rfl) (hd := by kernel_rfl)) (Evs.nil) (by kernel_rfl)) (Cl.append) (hbase := by kernel_rfl) (hl := by kernel_rfl) (hline := by kernel_rfl)) (hi := by kernel_rfl) (hs := by kernel_rfl))))
noncomputable def lawF_14b_9b_0t_0 : PS → Option (Fl × PS) := by with_reducible refine (?g : {f : PS → Option (Fl × PS)} → {h : lawT1 lawS_14b_9b_0t_0 f} → lawX_14b_9b_0t_0 = .mk f h → PS → Option (Fl × PS)) rfl; exact fun {f} {h} _ => f
theorem lawW_14b_9b_0t_0 : lawT1 lawS_14b_9b_0t_0 lawF_14b_9b_0t_0 := by with_reducible exact WX.spec lawX_14b_9b_0t_0 (by kernel_rfl)
@[reducible] noncomputable def lawX_14b_9b_0e_0 : WX (lawT1 lawS_14b_9b_0e_0) := .mk _ (by with_reducible exact fun w mg mb v C a cd L g K => (X1.fin ([]) (X1.augSub K (Ev.var K (i := 30) (b := false) (by kernel_rfl) (hd := by kernel_rfl)) (Ev.un (Ev.int) (Op1.neg)) (Ev.var K (i := 20) (b := false) (by kernel_rfl) (hd := by kernel_rfl)) (Op2.iadd) (hst := by intros; kernel_rfl))))
noncomputable def lawF_14b_9b_0e_0 : PS → Option (Fl × PS) := by with_reducible refine (?g : {f : PS → Option (Fl × PS)} → {h : lawT1 lawS_14b_9b_0e_0 f} → lawX_14b_9b_0e_0 = .mk f h → PS → Option (Fl × PS)) rfl; exact fun {f} {h} _ => f
theorem lawW_14b_9b_0e_0 : lawT1 lawS_14b_9b_0e_0 lawF_14b_9b_0e_0 := by with_reducible exact WX.spec lawX_14b_9b_0e_0 (by kernel_rfl)
@[reducible] noncomputable def lawX_14b_9b_0 : WX (lawT1 lawS_14b_9b_0) := .mk _ (by with_reducible exact fun w mg mb v C a cd L g K => (X1.fin ([]) (X1.ite (Ts.or (Tss.cons (Ts.cmp (Ev.var K (i := 30) (b := false) (by kernel_rfl) (hd := by kernel_rfl)) (Ev.lst (Evs.nil)) (Op2.eqA K) (hm := by kernel_rfl)) (Tss.cons (Ts.cmp (Ev.callU K (VG.f K) (inStr) (by kernel_rfl) (by kernel_rfl) (by kernel_rfl) (Evs.cons (Ev.var K (i := 20) (b := false) (by kernel_rfl) (hd := by kernel_rfl)) (Evs.cons (Ev.sub K (Ev.sub K (Ev.var K (i := 30) (b := false) (by kernel_rfl) (hd := by kernel_rfl)) (Ev.un (Ev.int) (Op1.neg)) (hsl := by intros; kernel_rfl)) (Ev.int) (hsl := by intros; kernel_rfl)) (Evs.nil) (by kernel_rfl)) (by kernel_rfl)) (clStr K (Nat.succ_pos (7)))) (Ev.int) (Op2.eqA K) (hm := by kernel_rfl)) (Tss.nil)))) (Xs.cons (lawW_14b_9b_0t_0 w mg mb v C a cd L g K) (Xs.nil)) (Xs.cons (lawW_14b_9b_0e_0 w mg mb v C a cd L g K) (Xs.nil)))))
noncomputable def lawF_14b_9b_0 : PS → Option (Fl × PS) := by with_reducible refine (?g : {f : PS → Option (Fl × PS)} → {h : lawT1 lawS_14b_9b_0 f} → lawX_14b_9b_0 = .mk f h → PS → Option (Fl × PS)) rfl; exact fun {f} {h} _ => f
theorem lawW_14b_9b_0 : lawT1 lawS_14b_9b_0 lawF_14b_9b_0 := by with_reducible exact WX.spec lawX_14b_9b_0 (by kernel_rfl)
@[reducible] noncomputable def lawX_14b_9 : WX (lawT1 lawS_14b_9) := .mk _ (by with_reducible exact fun w mg mb v C a cd L g K => (X1.fin ([20]) (X1.forC K ([]) (200) (Ev.var K (i := 26) (b := true) (by kernel_rfl) (hd := by kernel_rfl)) (Tg.name K (i := 20) (b := false) (by kernel_rfl)) (Xs.cons (lawW_14b_9b_0 w mg mb v C a cd L g K) (Xs.nil)) (hg := by intros; kernel_rfl) (hs := by intros; kernel_rfl))))
noncomputable def lawF_14b_9 : PS → Option (Fl × PS) := by with_reducible refine (?g : {f : PS → Option (Fl × PS)} → {h : lawT1 lawS_14b_9 f} → lawX_14b_9 = .mk f h → PS → Option (Fl × PS)) rfl; exact fun {f} {h} _ => f
theorem lawW_14b_9 : lawT1 lawS_14b_9 lawF_14b_9 := by with_reducible exact WX.spec lawX_14b_9 (by kernel_rfl)
@[reducible] noncomputable def lawX_14b_3 : WX (lawT1 lawS_14b_3) := .mk _ (by with_reducible exact fun w mg mb v C a cd L g K => (X1.assign K (i := 27) (b := false) (by kernel_rfl) (Ev.lst (Evs.cons (Ev.callU K (VG.f K) (inStr) (by kernel_rfl) (by kernel_rfl) (by kernel_rfl) (Evs.cons (Ev.var K (i := 23) (b := false) (by kernel_rfl) (hd := by kernel_rfl)) (Evs.cons (Ev.var K (i := 25) (b := false) (by kernel_rfl) (hd := by kernel_rfl)) (Evs.nil) (by kernel_rfl)) (by kernel_rfl)) (clStr K (Nat.succ_pos (7)))) (Evs.cons (Ev.callU K (VG.f K) (inStr) (by kernel_rfl) (by kernel_rfl) (by kernel_rfl) (Evs.cons (Ev.var K (i := 25) (b := false) (by kernel_rfl) (hd := by kernel_rfl)) (Evs.cons (Ev.var K (i := 23) (b := false) (by kernel_rfl) (hd := by kernel_rfl)) (Evs.nil) (by kernel_rfl)) (by kernel_rfl)) (clStr K (Nat.succ_pos (7)))) (Evs.cons (Ev.callU K (VG.f K) (inStr) (by kernel_rfl) (by kernel_rfl) (by kernel_rfl) (Evs.cons (Ev.var K (i := 25) (b := false) (by kernel_rfl) (hd := by kernel_rfl)) (Evs.cons (Ev.var K (i := 25) (b := false) (by kernel_rfl) (hd := by kernel_rfl)) (Evs.nil) (by kernel_rfl)) (by kernel_rfl)) (clStr K (Nat.succ_pos (7)))) (Evs.nil) (by kernel_rfl)) (by kernel_rfl)) (by kernel_rfl))) (hs := by kernel_rfl)))
noncomputable def lawF_14b_3 : PS → Option (Fl × PS) := by with_reducible refine (?g : {f : PS → Option (Fl × PS)} → {h : lawT1 lawS_14b_3 f} → lawX_14b_3 = .mk f h → PS → Option (Fl × PS)) rfl; exact fun {f} {h} _ => f
theorem lawW_14b_3 : lawT1 lawS_14b_3 lawF_14b_3 := by with_reducible exact WX.spec lawX_14b_3 (by kernel_rfl)
@[reducible] noncomputable def lawX_14b_15t_6b_0 : WX (lawT1 lawS_14b_15t_6b_0) := .mk _ (by with_reducible exact fun w mg mb v C a cd L g K => (X1.fin ([]) (X1.expr (sp_psh K (VG.f K) (Ev.var K (i := 19) (b := false) (by kernel_rfl) (hd := by kernel_rfl)) (Evs.cons (Ev.var K (i := 18) (b := true) (by kernel_rfl) (hd := by kernel_rfl)) (Evs.cons (Ev.var K (i := 20) (b := false) (by kernel_rfl) (hd := by kernel_rfl)) (Evs.nil) (by kernel_rfl)) (by kernel_rfl)) (hbase := by kernel_rfl) (hl := by kernel_rfl) (hline := by kernel_rfl) (hlv := by kernel_rfl)) (hi := by kernel_rfl) (hs := by kernel_rfl))))
noncomputable def lawF_14b_15t_6b_0 : PS → Option (Fl × PS) := by with_reducible refine (?g : {f : PS → Option (Fl × PS)} → {h : lawT1 lawS_14b_15t_6b_0 f} → lawX_14b_15t_6b_0 = .mk f h → PS → Option (Fl × PS)) rfl; exact fun {f} {h} _ => f
theorem lawW_14b_15t_6b_0 : lawT1 lawS_14b_15t_6b_0 lawF_14b_15t_6b_0 := by with_reducible exact WX.spec lawX_14b_15t_6b_0 (by kernel_rfl)
@[reducible] noncomputable def lawX_14b_15t_6 : WX (lawT1 lawS_14b_15t_6) := .mk _ (by with_reducible exact fun w mg mb v C a cd L g K => (X1.fin ([20]) (X1.forC K ([]) (200) (Ev.var K (i := 35) (b := false) (by kernel_rfl) (hd := by kernel_rfl)) (Tg.name K (i := 20) (b := false) (by kernel_rfl)) (Xs.cons (lawW_14b_15t_6b_0 w mg mb v C a cd L g K) (Xs.nil)) (hg := by intros; kernel_rfl) (hs := by intros; kernel_rfl))))
noncomputable def lawF_14b_15t_6 : PS → Option (Fl × PS) := by with_reducible refine (?g : {f : PS → Option (Fl × PS)} → {h : lawT1 lawS_14b_15t_6 f} → lawX_14b_15t_6 = .mk f h → PS → Option (Fl × PS)) rfl; exact fun {f} {h} _ => f
theorem lawW_14b_15t_6 : lawT1 lawS_14b_15t_6 lawF_14b_15t_6 := by with_reducible exact WX.spec lawX_14b_15t_6 (by kernel_rfl)
@[reducible] noncomputable def lawX_14b_15t_1 : WX (lawT1 lawS_14b_15t_1) := .mk _ (by with_reducible exact fun w mg mb v C a cd L g K => (X1.assign K (i := 35) (b := false) (by kernel_rfl) (Ev.callT (g_list K (VG.f K) (by kernel_rfl)) (Evs.cons (Ev.slice K (Ev.var K (i := 26) (b := true) (by kernel_rfl) (hd := by kernel_rfl)) (Prt.none) (Prt.some (Ev.bin (Ev.var K (i := 34) (b := false) (by kernel_rfl) (hd := by kernel_rfl)) (Ev.int) (Op2.sub))) (Prt.some (Ev.un (Ev.int) (Op1.neg)))) (Evs.nil) (by kernel_rfl)) (Cl.list K)) (hs := by kernel_rfl)))
noncomputable def lawF_14b_15t_1 : PS → Option (Fl × PS) := by with_reducible refine (?g : {f : PS → Option (Fl × PS)} → {h : lawT1 lawS_14b_15t_1 f} → lawX_14b_15t_1 = .mk f h → PS → Option (Fl × PS)) rfl; exact fun {f} {h} _ => f
theorem lawW_14b_15t_1 : lawT1 lawS_14b_15t_1 lawF_14b_15t_1 := by with_reducible exact WX.spec lawX_14b_15t_1 (by kernel_rfl)
@[reducible] noncomputable def lawX_14b_15t_5 : WX (lawT1 lawS_14b_15t_5) := .mk _ (by with_reducible exact fun w mg mb v C a cd L g K => (X1.fin ([]) (X1.setSub K (Ev.var K (i := 35) (b := false) (by kernel_rfl) (hd := by kernel_rfl)) (Ev.var K (i := 36) (b := false) (by kernel_rfl) (hd := by kernel_rfl)) (Ev.sub K (Ev.var K (i := 26) (b := true) (by kernel_rfl) (hd := by kernel_rfl)) (Ev.bin (Ev.var K (i := 34) (b := false) (by kernel_rfl) (hd := by kernel_rfl)) (Ev.int) (Op2.sub)) (hsl := by intros; kernel_rfl)) (hs := by kernel_rfl))))
noncomputable def lawF_14b_15t_5 : PS → Option (Fl × PS) := by with_reducible refine (?g : {f : PS → Option (Fl × PS)} → {h : lawT1 lawS_14b_15t_5 f} → lawX_14b_15t_5 = .mk f h → PS → Option (Fl × PS)) rfl; exact fun {f} {h} _ => f
theorem lawW_14b_15t_5 : lawT1 lawS_14b_15t_5 lawF_14b_15t_5 := by with_reducible exact WX.spec lawX_14b_15t_5 (by kernel_rfl)
@[reducible] noncomputable def lawX_14b_15t_2 : WX (lawT1 lawS_14b_15t_2) := .mk _ (by with_reducible exact fun w mg mb v C a cd L g K => (X1.assign K (i := 36) (b := false) (by kernel_rfl) (Ev.int) (hs := by kernel_rfl)))
noncomputable def lawF_14b_15t_2 : PS → Option (Fl × PS) := by with_reducible refine (?g : {f : PS → Option (Fl × PS)} → {h : lawT1 lawS_14b_15t_2 f} → lawX_14b_15t_2 = .mk f h → PS → Option (Fl × PS)) rfl; exact fun {f} {h} _ => f
theorem lawW_14b_15t_2 : lawT1 lawS_14b_15t_2 lawF_14b_15t_2 := by with_reducible exact WX.spec lawX_14b_15t_2 (by kernel_rfl)
@[reducible] noncomputable def lawX_14b_15t_4 : WX (lawT1 lawS_14b_15t_4) := .mk _ (by with_reducible exact fun w mg mb v C a cd L g K => (X1.fin ([]) (X1.expr (sp_psh K (VG.f K) (Ev.var K (i := 19) (b := false) (by kernel_rfl) (hd := by kernel_rfl)) (Evs.cons (Ev.var K (i := 18) (b := true) (by kernel_rfl) (hd := by kernel_rfl)) (Evs.cons (Ev.sub K (Ev.var K (i := 35) (b := false) (by kernel_rfl) (hd := by kernel_rfl)) (Ev.var K (i := 36) (b := false) (by kernel_rfl) (hd := by kernel_rfl)) (hsl := by intros; kernel_rfl)) (Evs.nil) (by kernel_rfl)) (by kernel_rfl)) (hbase := by kernel_rfl) (hl := by kernel_rfl) (hline := by kernel_rfl) (hlv := by kernel_rfl)) (hi := by kernel_rfl) (hs := by kernel_rfl))))
noncomputable def lawF_14b_15t_4 : PS → Option (Fl × PS) := by with_reducible refine (?g : {f : PS → Option (Fl × PS)} → {h : lawT1 lawS_14b_15t_4 f} → lawX_14b_15t_4 = .mk f h → PS → Option (Fl × PS)) rfl; exact fun {f} {h} _ => f
theorem lawW_14b_15t_4 : lawT1 lawS_14b_15t_4 lawF_14b_15t_4 := by with_reducible exact WX.spec lawX_14b_15t_4 (by kernel_rfl)
@[reducible] noncomputable def lawX_14b_15t_0t_0 : WX (lawT1 lawS_14b_15t_0t_0) := .mk _ (by with_reducible exact fun w mg mb v C a cd L g K => (X1.ret (Ev.bool (b := false))))
noncomputable def lawF_14b_15t_0t_0 : PS → Option (Fl × PS) := by with_reducible refine (?g : {f : PS → Option (Fl × PS)} → {h : lawT1 lawS_14b_15t_0t_0 f} → lawX_14b_15t_0t_0 = .mk f h → PS → Option (Fl × PS)) rfl; exact fun {f} {h} _ => f
theorem lawW_14b_15t_0t_0 : lawT1 lawS_14b_15t_0t_0 lawF_14b_15t_0t_0 := by with_reducible exact WX.spec lawX_14b_15t_0t_0 (by kernel_rfl)
@[reducible] noncomputable def lawX_14b_15t_0 : WX (lawT1 lawS_14b_15t_0) := .mk _ (by with_reducible exact fun w mg mb v C a cd L g K => (X1.fin ([]) (X1.ite (Ts.cmp (sp_pop K (VG.f K) (Ev.var K (i := 19) (b := false) (by kernel_rfl) (hd := by kernel_rfl)) (Evs.cons (Ev.bin (Ev.var K (i := 34) (b := false) (by kernel_rfl) (hd := by kernel_rfl)) (Ev.int) (Op2.sub)) (Evs.nil) (by kernel_rfl)) (hbase := by kernel_rfl) (hl := by kernel_rfl) (hline := by kernel_rfl) (hlv := by kernel_rfl)) (Ev.compT K 200 (Ev.slice K (Ev.var K (i := 26) (b := true) (by kernel_rfl) (hd := by kernel_rfl)) (Prt.some (Ev.bin (Ev.var K (i := 34) (b := false) (by kernel_rfl) (hd := by kernel_rfl)) (Ev.int) (Op2.sub))) (Prt.none) (Prt.none)) (fun Cn v => (Cts.nil)) (fun Cn v => (Ev.tup (Evs.cons (Ev.cel K (i := 18) (by kernel_rfl) (by kernel_rfl) (by kernel_rfl) (by intros; with_unfolding_all assumption) (hd := by kernel_rfl)) (Evs.cons (Ev.cv (by kernel_rfl) (by kernel_rfl) (hd := by kernel_rfl)) (Evs.nil) (by kernel_rfl)) (by kernel_rfl)))) (by kernel_rfl) (by kernel_rfl) (by intros; kernel_rfl)) (Op2.neA K) (hm := by kernel_rfl)) (Xs.cons (lawW_14b_15t_0t_0 w mg mb v C a cd L g K) (Xs.nil)) (Xs.nil))))
noncomputable def lawF_14b_15t_0 : PS → Option (Fl × PS) := by with_reducible refine (?g : {f : PS → Option (Fl × PS)} → {h : lawT1 lawS_14b_15t_0 f} → lawX_14b_15t_0 = .mk f h → PS → Option (Fl × PS)) rfl; exact fun {f} {h} _ => f
theorem lawW_14b_15t_0 : lawT1 lawS_14b_15t_0 lawF_14b_15t_0 := by with_reducible exact WX.spec lawX_14b_15t_0 (by kernel_rfl)
@[reducible] noncomputable def lawX_14b_15t_3b_0 : WX (lawT1 lawS_14b_15t_3b_0) := .mk _ (by with_reducible exact fun w mg mb v C a cd L g K => (X1.fin ([]) (X1.aug K (i := 36) (b := false) (by kernel_rfl) (Ev.int) (Op2.iadd))))
noncomputable def lawF_14b_15t_3b_0 : PS → Option (Fl × PS) := by with_reducible refine (?g : {f : PS → Option (Fl × PS)} → {h : lawT1 lawS_14b_15t_3b_0 f} → lawX_14b_15t_3b_0 = .mk f h → PS → Option (Fl × PS)) rfl; exact fun {f} {h} _ => f
theorem lawW_14b_15t_3b_0 : lawT1 lawS_14b_15t_3b_0 lawF_14b_15t_3b_0 := by with_reducible exact WX.spec lawX_14b_15t_3b_0 (by kernel_rfl)
@[reducible] noncomputable def lawX_14b_15t_3 : WX (lawT1 lawS_14b_15t_3) := .mk _ (by with_reducible exact fun w mg mb v C a cd L g K => (X1.fin ([]) (X1.while (200) (Ts.cmp (Ev.callU K (VG.f K) (inStr) (by kernel_rfl) (by kernel_rfl) (by kernel_rfl) (Evs.cons (Ev.sub K (Ev.var K (i := 26) (b := true) (by kernel_rfl) (hd := by kernel_rfl)) (Ev.bin (Ev.var K (i := 34) (b := false) (by kernel_rfl) (hd := by kernel_rfl)) (Ev.int) (Op2.sub)) (hsl := by intros; kernel_rfl)) (Evs.cons (Ev.sub K (Ev.var K (i := 35) (b := false) (by kernel_rfl) (hd := by kernel_rfl)) (Ev.var K (i := 36) (b := false) (by kernel_rfl) (hd := by kernel_rfl)) (hsl := by intros; kernel_rfl)) (Evs.nil) (by kernel_rfl)) (by kernel_rfl)) (clStr K (Nat.succ_pos (7)))) (Ev.int) (Op2.eqA K) (hm := by kernel_rfl)) (Xs.cons (lawW_14b_15t_3b_0 w mg mb v C a cd L g K) (Xs.nil)))))
noncomputable def lawF_14b_15t_3 : PS → Option (Fl × PS) := by with_reducible refine (?g : {f : PS → Option (Fl × PS)} → {h : lawT1 lawS_14b_15t_3 f} → lawX_14b_15t_3 = .mk f h → PS → Option (Fl × PS)) rfl; exact fun {f} {h} _ => f
theorem lawW_14b_15t_3 : lawT1 lawS_14b_15t_3 lawF_14b_15t_3 := by with_reducible exact WX.spec lawX_14b_15t_3 (by kernel_rfl)
@[reducible] noncomputable def lawX_14b_15 : WX (lawT1 lawS_14b_15) := .mk _ (by with_reducible exact fun w mg mb v C a cd L g K => (X1.fin ([35, 36, 20]) (X1.ite (Ts.cmp (Ev.var K (i := 34) (b := false) (by kernel_rfl) (hd := by kernel_rfl)) (Ev.int) (Op2.gt) (hm := by kernel_rfl)) (Xs.cons (lawW_14b_15t_0 w mg mb v C a cd L g K) (Xs.cons (lawW_14b_15t_1 w mg mb v C a cd L g K) (Xs.cons (lawW_14b_15t_2 w mg mb v C a cd L g K) (Xs.cons (lawW_14b_15t_3 w mg mb v C a cd L g K) (Xs.cons (lawW_14b_15t_4 w mg mb v C a cd L g K) (Xs.cons (lawW_14b_15t_5 w mg mb v C a cd L g K) (Xs.cons (lawW_14b_15t_6 w mg mb v C a cd L g K) (Xs.nil)))))))) (Xs.nil))))
noncomputable def lawF_14b_15 : PS → Option (Fl × PS) := by with_reducible refine (?g : {f : PS → Option (Fl × PS)} → {h : lawT1 lawS_14b_15 f} → lawX_14b_15 = .mk f h → PS → Option (Fl × PS)) rfl; exact fun {f} {h} _ => f
theorem lawW_14b_15 : lawT1 lawS_14b_15 lawF_14b_15 := by with_reducible exact WX.spec lawX_14b_15 (by kernel_rfl)
@[reducible] noncomputable def lawX_14b_5 : WX (lawT1 lawS_14b_5) := .mk _ (by with_reducible exact fun w mg mb v C a cd L g K => (X1.tupS K (names := [Str.ofString "a", Str.ofString "b", Str.ofString "before"]) (Tnb.cons (b := false) (i := 23) (by kernel_rfl) (Tnb.cons (b := false) (i := 29) (by kernel_rfl) (Tnb.cons (b := false) (i := 28) (by kernel_rfl) (Tnb.nil)))) (Ev.tup (Evs.cons (Ev.bin (Ev.var K (i := 24) (b := false) (by kernel_rfl) (hd := by kernel_rfl)) (Ev.int) (Op2.mod)) (Evs.cons (Ev.bin (Ev.var K (i := 24) (b := false) (by kernel_rfl) (hd := by kernel_rfl)) (Ev.int) (Op2.fdiv)) (Evs.cons (Ev.var K (i := 25) (b := false) (by kernel_rfl) (hd := by kernel_rfl)) (Evs.nil) (by kernel_rfl)) (by kernel_rfl)) (by kernel_rfl))) (hs := by kernel_rfl) (hw := by kernel_rfl)))
noncomputable def lawF_14b_5 : PS → Option (Fl × PS) := by with_reducible refine (?g : {f : PS → Option (Fl × PS)} → {h : lawT1 lawS_14b_5 f} → lawX_14b_5 = .mk f h → PS → Option (Fl × PS)) rfl; exact fun {f} {h} _ => f
theorem lawW_14b_5 : lawT1 lawS_14b_5 lawF_14b_5 := by with_reducible exact WX.spec lawX_14b_5 (by kernel_rfl)
@[reducible] noncomputable def lawX_14b_0 : WX (lawT1 lawS_14b_0) := .mk _ (by with_reducible exact fun w mg mb v C a cd L g K => (X1.assign K (i := 25) (b := false) (by kernel_rfl) (sp_str K (VG.f K) (by kernel_rfl) (Evs.cons (Ev.var K (i := 19) (b := false) (by kernel_rfl) (hd := by kernel_rfl)) (Evs.nil) (by kernel_rfl)) (hlv := by kernel_rfl)) (hs := by kernel_rfl)))
noncomputable def lawF_14b_0 : PS → Option (Fl × PS) := by with_reducible refine (?g : {f : PS → Option (Fl × PS)} → {h : lawT1 lawS_14b_0 f} → lawX_14b_0 = .mk f h → PS → Option (Fl × PS)) rfl; exact fun {f} {h} _ => f
theorem lawW_14b_0 : lawT1 lawS_14b_0 lawF_14b_0 := by with_reducible exact WX.spec lawX_14b_0 (by kernel_rfl)
@[reducible] noncomputable def lawX_14b_2t_0 : WX (lawT1 lawS_14b_2t_0) := .mk _ (by with_reducible exact fun w mg mb v C a cd L g K => (X1.ret (Ev.bool (b := false))))
noncomputable def lawF_14b_2t_0 : PS → Option (Fl × PS) := by with_reducible refine (?g : {f : PS → Option (Fl × PS)} → {h : lawT1 lawS_14b_2t_0 f} → lawX_14b_2t_0 = .mk f h → PS → Option (Fl × PS)) rfl; exact fun {f} {h} _ => f
theorem lawW_14b_2t_0 : lawT1 lawS_14b_2t_0 lawF_14b_2t_0 := by with_reducible exact WX.spec lawX_14b_2t_0 (by kernel_rfl)
@[reducible] noncomputable def lawX_14b_2 : WX (lawT1 lawS_14b_2) := .mk _ (by with_reducible exact fun w mg mb v C a cd L g K => (X1.fin ([]) (X1.ite (Ts.or (Tss.cons (Ts.cmp (Ev.var K (i := 25) (b := false) (by kernel_rfl) (hd := by kernel_rfl)) (Ev.meth PySem.F.plainAttrs_str PySem.F.slot_str_join PySem.F.type_str_join (Ev.str ([]) (hl := by kernel_rfl)) (Evs.cons (Ev.compT K 200 (Ev.var K (i := 26) (b := true) (by kernel_rfl) (hd := by kernel_rfl)) (fun Cn v => (Cts.nil)) (fun Cn v => (Ev.bin (Ev.cel K (i := 18) (by kernel_rfl) (by kernel_rfl) (by kernel_rfl) (by intros; with_unfolding_all assumption) (hd := by kernel_rfl)) (Ev.cv (by kernel_rfl) (by kernel_rfl) (hd := by kernel_rfl)) (Op2.add))) (by kernel_rfl) (by kernel_rfl) (by intros; kernel_rfl)) (Evs.nil) (by kernel_rfl)) (Cl.join) (hbase := by kernel_rfl) (hl := by kernel_rfl) (hline := by kernel_rfl)) (Op2.neA K) (hm := by kernel_rfl)) (Tss.cons (Ts.cmp (sp_len K (VG.f K) (by kernel_rfl) (Evs.cons (Ev.var K (i := 19) (b := false) (by kernel_rfl) (hd := by kernel_rfl)) (Evs.nil) (by kernel_rfl)) (hlv := by kernel_rfl)) (Ev.bin (Ev.var K (i := 17) (b := false) (by kernel_rfl) (hd := by kernel_rfl)) (sp_len K (VG.f K) (by kernel_rfl) (Evs.cons (Ev.var K (i := 25) (b := false) (by kernel_rfl) (hd := by kernel_rfl)) (Evs.nil) (by kernel_rfl)) (hlv := by kernel_rfl)) (Op2.add)) (Op2.neA K) (hm := by kernel_rfl)) (Tss.nil)))) (Xs.cons (lawW_14b_2t_0 w mg mb v C a cd L g K) (Xs.nil)) (Xs.nil))))
noncomputable def lawF_14b_2 : PS → Option (Fl × PS) := by with_reducible refine (?g : {f : PS → Option (Fl × PS)} → {h : lawT1 lawS_14b_2 f} → lawX_14b_2 = .mk f h → PS → Option (Fl × PS)) rfl; exact fun {f} {h} _ => f
theorem lawW_14b_2 : lawT1 lawS_14b_2 lawF_14b_2 := by with_reducible exact WX.spec lawX_14b_2 (by kernel_rfl)
@[reducible] noncomputable def lawX_14b_12 : WX (lawT1 lawS_14b_12) := .mk _ (by with_reducible exact fun w mg mb v C a cd L g K => (X1.fin ([]) (X1.augSub K (Ev.var K (i := 22) (b := true) (by kernel_rfl) (hd := by kernel_rfl)) (sp_len K (VG.f K) (by kernel_rfl) (Evs.cons (Ev.var K (i := 30) (b := false) (by kernel_rfl) (hd := by kernel_rfl)) (Evs.nil) (by kernel_rfl)) (hlv := by kernel_rfl)) (Ev.var K (i := 31) (b := false) (by kernel_rfl) (hd := by kernel_rfl)) (Op2.iadd) (hst := by intros; kernel_rfl))))
noncomputable def lawF_14b_12 : PS → Option (Fl × PS) := by with_reducible refine (?g : {f : PS → Option (Fl × PS)} → {h : lawT1 lawS_14b_12 f} → lawX_14b_12 = .mk f h → PS → Option (Fl × PS)) rfl; exact fun {f} {h} _ => f
theorem lawW_14b_12 : lawT1 lawS_14b_12 lawF_14b_12 := by with_reducible exact WX.spec lawX_14b_12 (by kernel_rfl)
@[reducible] noncomputable def lawX_14b_4t_0 : WX (lawT1 lawS_14b_4t_0) := .mk _ (by with_reducible exact fun w mg mb v C a cd L g K => (X1.ret (Ev.bool (b := false))))
noncomputable def lawF_14b_4t_0 : PS → Option (Fl × PS) := by with_reducible refine (?g : {f : PS → Option (Fl × PS)} → {h : lawT1 lawS_14b_4t_0 f} → lawX_14b_4t_0 = .mk f h → PS → Option (Fl × PS)) rfl; exact fun {f} {h} _ => f
theorem lawW_14b_4t_0 : lawT1 lawS_14b_4t_0 lawF_14b_4t_0 := by with_reducible exact WX.spec lawX_14b_4t_0 (by kernel_rfl)
@[reducible] noncomputable def lawX_14b_4 : WX (lawT1 lawS_14b_4) := .mk _ (by with_reducible exact fun w mg mb v C a cd L g K => (X1.fin ([]) (X1.ite (Ts.or (Tss.cons (Ts.cmp (Ev.var K (i := 27) (b := false) (by kernel_rfl) (hd := by kernel_rfl)) (Ev.lst (Evs.cons (Ev.un (Ev.int) (Op1.neg)) (Evs.cons (Ev.int) (Evs.cons (Ev.int) (Evs.nil) (by kernel_rfl)) (by kernel_rfl)) (by kernel_rfl))) (Op2.neA K) (hm := by kernel_rfl)) (Tss.cons (Ts.cmp (Ev.compT K 200 (Ev.var K (i := 27) (b := false) (by kernel_rfl) (hd := by kernel_rfl)) (fun Cn v => (Cts.one (Ts.val (Ev.callB (g_isi K (VG.c K (by kernel_rfl)) (by kernel_rfl)) (Evs.cons (Ev.cv (by kernel_rfl) (by kernel_rfl) (hd := by kernel_rfl)) (Evs.cons (g_bool K (VG.c K (by kernel_rfl)) (by kernel_rfl)) (Evs.nil) (by kernel_rfl)) (by kernel_rfl)) (Cl.isBool)) (hi := by kernel_rfl)))) (fun Cn v => (Ev.cv (by kernel_rfl) (by kernel_rfl) (hd := by kernel_rfl))) (by kernel_rfl) (by kernel_rfl) (by intros; kernel_rfl)) (Ev.lst (Evs.nil)) (Op2.neA K) (hm := by kernel_rfl)) (Tss.nil)))) (Xs.cons (lawW_14b_4t_0 w mg mb v C a cd L g K) (Xs.nil)) (Xs.nil))))
noncomputable def lawF_14b_4 : PS → Option (Fl × PS) := by with_reducible refine (?g : {f : PS → Option (Fl × PS)} → {h : lawT1 lawS_14b_4 f} → lawX_14b_4 = .mk f h → PS → Option (Fl × PS)) rfl; exact fun {f} {h} _ => f
theorem lawW_14b_4 : lawT1 lawS_14b_4 lawF_14b_4 := by with_reducible exact WX.spec lawX_14b_4 (by kernel_rfl)
@[reducible] noncomputable def lawX_14b_1 : WX (lawT1 lawS_14b_1) := .mk _ (by with_reducible exact fun w mg mb v C a cd L g K => (X1.assign K (i := 26) (b := true) (by kernel_rfl) (sp_repl K (VG.f K) (Ev.var K (i := 25) (b := false) (by kernel_rfl) (hd := by kernel_rfl)) (Evs.cons (Ev.str ([32]) (hl := by kernel_rfl)) (Evs.cons (Ev.str ([]) (hl := by kernel_rfl)) (Evs.nil) (by kernel_rfl)) (by kernel_rfl)) (hbase := by kernel_rfl) (hline := by kernel_rfl)) (hs := by kernel_rfl)))
noncomputable def lawF_14b_1 : PS → Option (Fl × PS) := by with_reducible refine (?g : {f : PS → Option (Fl × PS)} → {h : lawT1 lawS_14b_1 f} → lawX_14b_1 = .mk f h → PS → Option (Fl × PS)) rfl; exact fun {f} {h} _ => f
theorem lawW_14b_1 : lawT1 lawS_14b_1 lawF_14b_1 := by with_reducible exact WX.spec lawX_14b_1 (by kernel_rfl)
@[reducible] noncomputable def lawX_14b_6t_0 : WX (lawT1 lawS_14b_6t_0) := .mk _ (by with_reducible exact fun w mg mb v C a cd L g K => (X1.ret (Ev.bool (b := false))))
noncomputable def lawF_14b_6t_0 : PS → Option (Fl × PS) := by with_reducible refine (?g : {f : PS → Option (Fl × PS)} → {h : lawT1 lawS_14b_6t_0 f} → lawX_14b_6t_0 = .mk f h → PS → Option (Fl × PS)) rfl; exact fun {f} {h} _ => f
theorem lawW_14b_6t_0 : lawT1 lawS_14b_6t_0 lawF_14b_6t_0 := by with_reducible exact WX.spec lawX_14b_6t_0 (by kernel_rfl)
@[reducible] noncomputable def lawX_14b_6 : WX (lawT1 lawS_14b_6) := .mk _ (by with_reducible exact fun w mg mb v C a cd L g K => (X1.fin ([]) (X1.ite (Ts.cmp (Ev.callU K (VG.f K) (inEll) (by kernel_rfl) (by kernel_rfl) (by kernel_rfl) (Evs.cons (Ev.bin (Ev.bin (Ev.bin (Ev.bin (Ev.var K (i := 9) (b := false) (by kernel_rfl) (hd := by kernel_rfl)) (Ev.slice K (Ev.var K (i := 25) (b := false) (by kernel_rfl) (hd := by kernel_rfl)) (Prt.none) (Prt.some (Ev.var K (i := 28) (b := false) (by kernel_rfl) (hd := by kernel_rfl))) (Prt.none)) (Op2.add)) (Ev.str ([46, 46, 46]) (hl := by kernel_rfl)) (Op2.add)) (Ev.slice K (Ev.var K (i := 25) (b := false) (by kernel_rfl) (hd := by kernel_rfl)) (Prt.some (Ev.var K (i := 29) (b := false) (by kernel_rfl) (hd := by kernel_rfl))) (Prt.none) (Prt.none)) (Op2.add)) (Ev.var K (i := 11) (b := false) (by kernel_rfl) (hd := by kernel_rfl)) (Op2.add)) (Evs.cons (Ev.var K (i := 25) (b := false) (by kernel_rfl) (hd := by kernel_rfl)) (Evs.nil) (by kernel_rfl)) (by kernel_rfl)) (clEll K (Nat.succ_pos (7)))) (Ev.cmp (Ev.var K (i := 28) (b := false) (by kernel_rfl) (hd := by kernel_rfl)) (Ev.var K (i := 29) (b := false) (by kernel_rfl) (hd := by kernel_rfl)) (Op2.le) (hm := by kernel_rfl)) (Op2.isNot) (hm := by kernel_rfl)) (Xs.cons (lawW_14b_6t_0 w mg mb v C a cd L g K) (Xs.nil)) (Xs.nil))))
noncomputable def lawF_14b_6 : PS → Option (Fl × PS) := by with_reducible refine (?g : {f : PS → Option (Fl × PS)} → {h : lawT1 lawS_14b_6 f} → lawX_14b_6 = .mk f h → PS → Option (Fl × PS)) rfl; exact fun {f} {h} _ => f
theorem lawW_14b_6 : lawT1 lawS_14b_6 lawF_14b_6 := by with_reducible exact WX.spec lawX_14b_6 (by kernel_rfl)
@[reducible] noncomputable def lawX_14b_14b_0 : WX (lawT1 lawS_14b_14b_0) := .mk _ (by with_reducible exact fun w mg mb v C a cd L g K => (X1.fin ([]) (X1.aug K (i := 34) (b := false) (by kernel_rfl) (Ev.int) (Op2.isub))))
noncomputable def lawF_14b_14b_0 : PS → Option (Fl × PS) := by with_reducible refine (?g : {f : PS → Option (Fl × PS)} → {h : lawT1 lawS_14b_14b_0 f} → lawX_14b_14b_0 = .mk f h → PS → Option (Fl × PS)) rfl; exact fun {f} {h} _ => f
theorem lawW_14b_14b_0 : lawT1 lawS_14b_14b_0 lawF_14b_14b_0 := by with_reducible exact WX.spec lawX_14b_14b_0 (by kernel_rfl)
@[reducible] noncomputable def lawX_14b_14 : WX (lawT1 lawS_14b_14) := .mk _ (by with_reducible exact fun w mg mb v C a cd L g K => (X1.fin ([]) (X1.while (200) (Ts.and (Tss.cons (Ts.cmp (Ev.var K (i := 34) (b := false) (by kernel_rfl) (hd := by kernel_rfl)) (Ev.int) (Op2.gt) (hm := by kernel_rfl)) (Tss.cons (Ts.cmp (Ev.callU K (VG.f K) (inStr) (by kernel_rfl) (by kernel_rfl) (by kernel_rfl) (Evs.cons (Ev.sub K (Ev.var K (i := 26) (b := true) (by kernel_rfl) (hd := by kernel_rfl)) (Ev.bin (Ev.var K (i := 34) (b := false) (by kernel_rfl) (hd := by kernel_rfl)) (Ev.int) (Op2.sub)) (hsl := by intros; kernel_rfl)) (Evs.cons (Ev.sub K (Ev.var K (i := 26) (b := true) (by kernel_rfl) (hd := by kernel_rfl)) (Ev.var K (i := 34) (b := false) (by kernel_rfl) (hd := by kernel_rfl)) (hsl := by intros; kernel_rfl)) (Evs.nil) (by kernel_rfl)) (by kernel_rfl)) (clStr K (Nat.succ_pos (7)))) (Ev.int) (Op2.eqA K) (hm := by kernel_rfl)) (Tss.nil)))) (Xs.cons (lawW_14b_14b_0 w mg mb v C a cd L g K) (Xs.nil)))))
noncomputable def lawF_14b_14 : PS → Option (Fl × PS) := by with_reducible refine (?g : {f : PS → Option (Fl × PS)} → {h : lawT1 lawS_14b_14 f} → lawX_14b_14 = .mk f h → PS → Option (Fl × PS)) rfl; exact fun {f} {h} _ => f
theorem lawW_14b_14 : lawT1 lawS_14b_14 lawF_14b_14 := by with_reducible exact WX.spec lawX_14b_14 (by kernel_rfl)
@[reducible] noncomputable def lawX_14b_11b_1t_0 : WX (lawT1 lawS_14b_11b_1t_0) := .mk _ (by with_reducible exact fun w mg mb v C a cd L g K => (X1.fin ([]) (X1.aug K (i := 31) (b := false) (by kernel_rfl) (Ev.ife (Ts.cmp (Ev.bool (b := false)) (Ev.var K (i := 33) (b := false) (by kernel_rfl) (hd := by kernel_rfl)) (Op2.in) (hm := by kernel_rfl)) (Ev.int) (Ev.bin (Ev.un (Ev.int) (Op1.neg)) (Ev.bin (sp_len K (VG.f K) (by kernel_rfl) (Evs.cons (Ev.var K (i := 32) (b := true) (by kernel_rfl) (hd := by kernel_rfl)) (Evs.nil) (by kernel_rfl)) (hlv := by kernel_rfl)) (Ev.int) (Op2.sub)) (Op2.pow))) (Op2.imul))))
noncomputable def lawF_14b_11b_1t_0 : PS → Option (Fl × PS) := by with_reducible refine (?g : {f : PS → Option (Fl × PS)} → {h : lawT1 lawS_14b_11b_1t_0 f} → lawX_14b_11b_1t_0 = .mk f h → PS → Option (Fl × PS)) rfl; exact fun {f} {h} _ => f
theorem lawW_14b_11b_1t_0 : lawT1 lawS_14b_11b_1t_0 lawF_14b_11b_1t_0 := by with_reducible exact WX.spec lawX_14b_11b_1t_0 (by kernel_rfl)
@[reducible] noncomputable def lawX_14b_11b_1 : WX (lawT1 lawS_14b_11b_1) := .mk _ (by with_reducible exact fun w mg mb v C a cd L g K => (X1.fin ([]) (X1.ite (Ts.cmp (Ev.bool (b := true)) (Ev.var K (i := 33) (b := false) (by kernel_rfl) (hd := by kernel_rfl)) (Op2.in) (hm := by kernel_rfl)) (Xs.cons (lawW_14b_11b_1t_0 w mg mb v C a cd L g K) (Xs.nil)) (Xs.nil))))
noncomputable def lawF_14b_11b_1 : PS → Option (Fl × PS) := by with_reducible refine (?g : {f : PS → Option (Fl × PS)} → {h : lawT1 lawS_14b_11b_1 f} → lawX_14b_11b_1 = .mk f h → PS → Option (Fl × PS)) rfl; exact fun {f} {h} _ => f
theorem lawW_14b_11b_1 : lawT1 lawS_14b_11b_1 lawF_14b_11b_1 := by with_reducible exact WX.spec lawX_14b_11b_1 (by kernel_rfl)
@[reducible] noncomputable def lawX_14b_11b_0 : WX (lawT1 lawS_14b_11b_0) := .mk _ (by with_reducible exact fun w mg mb v C a cd L g K => (X1.compT K 33 200 (Ev.callT (g_range K (VG.f K) (by kernel_rfl)) (Evs.cons (sp_len K (VG.f K) (by kernel_rfl) (Evs.cons (Ev.var K (i := 32) (b := true) (by kernel_rfl) (hd := by kernel_rfl)) (Evs.nil) (by kernel_rfl)) (hlv := by kernel_rfl)) (Evs.nil) (by kernel_rfl)) (Cl.range)) (fun Cn v => (Cts.one (Ts.cmp (sp_len K (VG.c K (by kernel_rfl)) (by kernel_rfl) (Evs.cons (Ev.cel K (i := 32) (by kernel_rfl) (by kernel_rfl) (by kernel_rfl) (by intros; with_unfolding_all assumption) (hd := by kernel_rfl)) (Evs.nil) (by kernel_rfl)) (hlv := by kernel_rfl)) (Ev.int) (Op2.gt) (hm := by kernel_rfl)))) (fun Cn v => (Ev.sub K (Ev.cel K (i := 15) (by kernel_rfl) (by kernel_rfl) (by kernel_rfl) (by intros; with_unfolding_all assumption) (hd := by kernel_rfl)) (Ev.bin (Ev.sub K (Ev.cel K (i := 32) (by kernel_rfl) (by kernel_rfl) (by kernel_rfl) (by intros; with_unfolding_all assumption) (hd := by kernel_rfl)) (Ev.bin (Ev.cv (by kernel_rfl) (by kernel_rfl) (hd := by kernel_rfl)) (Ev.int) (Op2.sub)) (hsl := by intros; kernel_rfl)) (Ev.sub K (Ev.cel K (i := 32) (by kernel_rfl) (by kernel_rfl) (by kernel_rfl) (by intros; with_unfolding_all assumption) (hd := by kernel_rfl)) (Ev.cv (by kernel_rfl) (by kernel_rfl) (hd := by kernel_rfl)) (hsl := by intros; kernel_rfl)) (Op2.add)) (hsl := by intros; kernel_rfl))) (by kernel_rfl) (by kernel_rfl) (by kernel_rfl) (by kernel_rfl) (by intros; kernel_rfl)))
noncomputable def lawF_14b_11b_0 : PS → Option (Fl × PS) := by with_reducible refine (?g : {f : PS → Option (Fl × PS)} → {h : lawT1 lawS_14b_11b_0 f} → lawX_14b_11b_0 = .mk f h → PS → Option (Fl × PS)) rfl; exact fun {f} {h} _ => f
theorem lawW_14b_11b_0 : lawT1 lawS_14b_11b_0 lawF_14b_11b_0 := by with_reducible exact WX.spec lawX_14b_11b_0 (by kernel_rfl)
@[reducible] noncomputable def lawX_14b_11 : WX (lawT1 lawS_14b_11) := .mk _ (by with_reducible exact fun w mg mb v C a cd L g K => (X1.fin ([32, 33]) (X1.forC K ([]) (200) (Ev.var K (i := 30) (b := false) (by kernel_rfl) (hd := by kernel_rfl)) (Tg.name K (i := 32) (b := true) (by kernel_rfl)) (Xs.cons (lawW_14b_11b_0 w mg mb v C a cd L g K) (Xs.cons (lawW_14b_11b_1 w mg mb v C a cd L g K) (Xs.nil))) (hg := by intros; kernel_rfl) (hs := by intros; kernel_rfl))))
noncomputable def lawF_14b_11 : PS → Option (Fl × PS) := by with_reducible refine (?g : {f : PS → Option (Fl × PS)} → {h : lawT1 lawS_14b_11 f} → lawX_14b_11 = .mk f h → PS → Option (Fl × PS)) rfl; exact fun {f} {h} _ => f
theorem lawW_14b_11 : lawT1 lawS_14b_11 lawF_14b_11 := by with_reducible exact WX.spec lawX_14b_11 (by kernel_rfl)
@[reducible] noncomputable def lawX_14b_13 : WX (lawT1 lawS_14b_13) := .mk _ (by with_reducible exact fun w mg mb v C a cd L g K => (X1.assign K (i := 34) (b := false) (by kernel_rfl) (Ev.int) (hs := by kernel_rfl)))
noncomputable def lawF_14b_13 : PS → Option (Fl × PS) := by with_reducible refine (?g : {f : PS → Option (Fl × PS)} → {h : lawT1 lawS_14b_13 f} → lawX_14b_13 = .mk f h → PS → Option (Fl × PS)) rfl; exact fun {f} {h} _ => f
theorem lawW_14b_13 : lawT1 lawS_14b_13 lawF_14b_13 := by with_reducible exact WX.spec lawX_14b_13 (by kernel_rfl)
@[reducible] noncomputable def lawX_14b_8 : WX (lawT1 lawS_14b_8) := .mk _ (by with_reducible exact fun w mg mb v C a cd L g K => (X1.assign K (i := 30) (b := false) (by kernel_rfl) (Ev.lst (Evs.nil)) (hs := by kernel_rfl)))
noncomputable def lawF_14b_8 : PS → Option (Fl × PS) := by with_reducible refine (?g : {f : PS → Option (Fl × PS)} → {h : lawT1 lawS_14b_8 f} → lawX_14b_8 = .mk f h → PS → Option (Fl × PS)) rfl; exact fun {f} {h} _ => f
theorem lawW_14b_8 : lawT1 lawS_14b_8 lawF_14b_8 := by with_reducible exact WX.spec lawX_14b_8 (by kernel_rfl)
@[reducible] noncomputable def lawX_14 : WX (lawT1 lawS_14) := .mk _ (by with_reducible exact fun w mg mb v C a cd L g K => (X1.fin ([]) (X1.forC K ([24, 25, 26, 27, 28, 29, 30, 31, 32, 33, 34, 35, 36, 20]) (200) (Ev.callT (g_range K (VG.f K) (by kernel_rfl)) (Evs.cons (Ev.int) (Evs.nil) (by kernel_rfl)) (Cl.range)) (Tg.name K (i := 24) (b := false) (by kernel_rfl)) (Xs.cons (lawW_14b_0 w mg mb v C a cd L g K) (Xs.cons (lawW_14b_1 w mg mb v C a cd L g K) (Xs.cons (lawW_14b_2 w mg mb v C a cd L g K) (Xs.cons (lawW_14b_3 w mg mb v C a cd L g K) (Xs.cons (lawW_14b_4 w mg mb v C a cd L g K) (Xs.cons (lawW_14b_5 w mg mb v C a cd L g K) (Xs.cons (lawW_14b_6 w mg mb v C a cd L g K) (Xs.cons (lawW_14b_7 w mg mb v C a cd L g K) (Xs.cons (lawW_14b_8 w mg mb v C a cd L g K) (Xs.cons (lawW_14b_9 w mg mb v C a cd L g K) (Xs.cons (lawW_14b_10 w mg mb v C a cd L g K) (Xs.cons (lawW_14b_11 w mg mb v C a cd L g K) (Xs.cons (lawW_14b_12 w mg mb v C a cd L g K) (Xs.cons (lawW_14b_13 w mg mb v C a cd L g K) (Xs.cons (lawW_14b_14 w mg mb v C a cd L g K) (Xs.cons (lawW_14b_15 w mg mb v C a cd L g K) (Xs.nil))))))))))))))))) (hg := by intros; kernel_rfl) (hs := by intros; kernel_rfl))))
noncomputable def lawF_14 : PS → Option (Fl × PS) := by with_reducible refine (?g : {f : PS → Option (Fl × PS)} → {h : lawT1 lawS_14 f} → lawX_14 = .mk f h → PS → Option (Fl × PS)) rfl; exact fun {f} {h} _ => f
theorem lawW_14 : lawT1 lawS_14 lawF_14 := by with_reducible exact WX.spec lawX_14 (by kernel_rfl)
@[reducible] noncomputable def lawX : WX (lawT [lawS_0, lawS_1, lawS_2, lawS_3, lawS_4, lawS_5, lawS_6, lawS_7, lawS_8, lawS_9, lawS_10, lawS_11, lawS_12, lawS_13, lawS_14, lawS_15, lawS_16]) := .mk _ (by with_reducible exact fun w mg mb v C a cd L g K => (Xs.cons (lawW_0 w mg mb v C a cd L g K) (Xs.cons (lawW_1 w mg mb v C a cd L g K) (Xs.cons (lawW_2 w mg mb v C a cd L g K) (Xs.cons (lawW_3 w mg mb v C a cd L g K) (Xs.cons (lawW_4 w mg mb v C a cd L g K) (Xs.cons (lawW_5 w mg mb v C a cd L g K) (Xs.cons (lawW_6 w mg mb v C a cd L g K) (Xs.cons (lawW_7 w mg mb v C a cd L g K) (Xs.cons (lawW_8 w mg mb v C a cd L g K) (Xs.cons (lawW_9 w mg mb v C a cd L g K) (Xs.cons (lawW_10 w mg mb v C a cd L g K) (Xs.cons (lawW_11 w mg mb v C a cd L g K) (Xs.cons (lawW_12 w mg mb v C a cd L g K) (Xs.cons (lawW_13 w mg mb v C a cd L g K) (Xs.cons (lawW_14 w mg mb v C a cd L g K) (Xs.cons (lawW_15 w mg mb v C a cd L g K) (Xs.cons (lawW_16 w mg mb v C a cd L g K) (Xs.nil)))))))))))))))))))
noncomputable def lawF : PS → Option (Fl × PS) := by with_reducible refine (?g : {f : PS → Option (Fl × PS)} → {h : lawT [lawS_0, lawS_1, lawS_2, lawS_3, lawS_4, lawS_5, lawS_6, lawS_7, lawS_8, lawS_9, lawS_10, lawS_11, lawS_12, lawS_13, lawS_14, lawS_15, lawS_16] f} → lawX = .mk f h → PS → Option (Fl × PS)) rfl; exact fun {f} {h} _ => f
theorem lawBi : dLawB = [lawS_0, lawS_1, lawS_2, lawS_3, lawS_4, lawS_5, lawS_6, lawS_7, lawS_8, lawS_9, lawS_10, lawS_11, lawS_12, lawS_13, lawS_14, lawS_15, lawS_16] := by kernel_rfl
theorem lawW : lawT dLawB lawF := by rw [lawBi]; with_reducible exact WX.spec lawX (by kernel_rfl)
end Mine
end
section
open PySem PySem.W PyProof.Rows PySem.Calls
set_option maxHeartbeats 0
namespace Mine
noncomputable def st1 (xs : List Int) : PS := ⟨some (.flist (xs.map .int)) :: List.replicate 39 none, [.tab 69, .tab 76]⟩
noncomputable def recAt (k : Nat) : DefRec := ((recsOf qv)[k]?).getD ⟨Str.empty, dLawP, [], dLawS, default⟩
theorem recAt_mem {k : Nat} (h : decide (k < 7) = true := by rfl) : recAt k ∈ recsOf qv := by
  have hl : (recsOf qv).length = 7 := by kernel_rfl
  have hk : k < (recsOf qv).length := by rw [hl]; exact of_decide_eq_true h
  unfold recAt
  rw [List.getElem?_eq_getElem hk]
  exact List.getElem_mem hk
theorem def1 : defOf qv "law" = some (recAt 6, []) := by kernel_rfl
section
variable {w : World} {mg mb : Str → Option Value} {h : Heap} {mean : ExcName → Option Value}
theorem fnAt (T : Top qv (looseW qv lsv) mean mg mb h) (X : (K1 w.params).In h) {k : Nat} {a : Addr} (hk : decide (k < 7) = true) (hn : nsIn (K1 w.params) mainGlobals (recAt k).name = some (some (.ref a))) :
    ∃ doc pm cd o, h.get? a = some o ∧ o.data = .func (docDef (recAt k).name (recAt k).params (recAt k).body (recAt k).scope pm cd doc) ∧ h.CodeRec cd (recAt k).name := by
  obtain ⟨a', o, pm, cd, doc, h1, h2, h3, h4⟩ := T.fn _ (recAt_mem hk)
  have := mg_of X T.g hn
  rw [h1] at this
  cases this
  exact ⟨doc, pm, cd, o, h2, h3, h4⟩
theorem gd_fns (T : Top qv (looseW qv lsv) mean mg mb h) (X : (K1 w.params).In h) : ∃ v : Nat → Value, ∀ d ∈ (gL w mg mb v).fns, ∃ fo, h.get? d.f = some fo ∧ fo.data = .func d.fd ∧ h.CodeRec d.cdv d.qual := by
  obtain ⟨e1, e2, e3, eo, eh, ed, ec⟩ := fnAt T X (k := 1) (a := 28) rfl (by kernel_rfl)
  obtain ⟨s1, s2, s3, so, sh, sd, sc⟩ := fnAt T X (k := 2) (a := 117) rfl (by kernel_rfl)
  obtain ⟨b1, b2, b3, bo, bh, bd, bc⟩ := fnAt T X (k := 3) (a := 135) rfl (by kernel_rfl)
  obtain ⟨m1, m2, m3, mo, mh, md, mc⟩ := fnAt T X (k := 4) (a := 181) rfl (by kernel_rfl)
  obtain ⟨t1, t2, t3, to, th, td, tc⟩ := fnAt T X (k := 5) (a := 188) rfl (by kernel_rfl)
  exact ⟨fun i => ([s1, s2, s3, e1, e2, e3, t1, t2, t3, b1, b2, b3, m1, m2, m3] : List Value).getD i .none,
    List.forall_mem_cons.mpr ⟨⟨_, X 52 _ rfl, by kernel_rfl, codeRec_of X (by kernel_rfl)⟩,
    List.forall_mem_cons.mpr ⟨⟨_, X 60 _ rfl, by kernel_rfl, codeRec_of X (by kernel_rfl)⟩,
    List.forall_mem_cons.mpr ⟨⟨_, X 45 _ rfl, by kernel_rfl, codeRec_of X (by kernel_rfl)⟩,
    List.forall_mem_cons.mpr ⟨⟨_, X 74 _ rfl, by kernel_rfl, codeRec_of X (by kernel_rfl)⟩,
    List.forall_mem_cons.mpr ⟨⟨_, X 81 _ rfl, by kernel_rfl, codeRec_of X (by kernel_rfl)⟩,
    List.forall_mem_cons.mpr ⟨⟨_, sh, sd.trans (by kernel_rfl), sc⟩,
    List.forall_mem_cons.mpr ⟨⟨_, eh, ed.trans (by kernel_rfl), ec⟩,
    List.forall_mem_cons.mpr ⟨⟨_, th, td.trans (by kernel_rfl), tc⟩,
    List.forall_mem_cons.mpr ⟨⟨_, bh, bd.trans (by kernel_rfl), bc⟩,
    List.forall_mem_cons.mpr ⟨⟨_, mh, md.trans (by kernel_rfl), mc⟩,
    fun _ h => nomatch h⟩⟩⟩⟩⟩⟩⟩⟩⟩⟩⟩
end
end Mine
end
section
open PySem PySem.W PyProof.Rows PySem.Calls
set_option maxHeartbeats 0
namespace Mine
theorem memOf {β : Type} : ∀ {l : List (Addr × β)} {a : Addr} {b : β}, l.lookup a = some b → (a, b) ∈ l
  | [], _, _, h => by cases h
  | (k, v) :: l, a, b, h => by
    rw [List.lookup_cons] at h
    split at h
    · rename_i q
      have : a = k := by simpa using q
      cases h; subst this; exact .head _
    · exact .tail _ (memOf h)
theorem memOf' {β : Type} : ∀ {l : List (Str × β)} {a : Str} {b : β}, l.lookup a = some b → (a, b) ∈ l
  | [], _, _, h => by cases h
  | (k, v) :: l, a, b, h => by
    rw [List.lookup_cons] at h
    split at h
    · rename_i q
      have : a = k := by simpa using q
      cases h; subst this; exact .head _
    · exact .tail _ (memOf' h)
theorem gd_hide {G : Gd} {h : Heap} {l : Addr} {vs : List Value} {P₁ P₂ : Addr} (X : GdOk G h) (h1 : h.get? P₁ = some (tabO [])) (h2 : h.get? P₂ = some (tabO [])) (hl : h.get? l = some (listO vs 0))
    (hK : ∀ p ∈ G.K, p.1 ≠ P₁ ∧ p.1 ≠ P₂ ∧ p.2.cls ≠ .type "list") : GdOk G (hideAll h [P₁, P₂, l]) := by
  have keep : ∀ b o, h.get? b = some o → b ∉ [P₁, P₂, l] → (hideAll h [P₁, P₂, l]).get? b = some o := fun b o e n => hideAll_get _ e n
  have dk : ∀ b o, h.get? b = some o → (∀ d, o.data = .seq d 0 → False) → (∀ vs, o.data = .fields vs → vs ≠ #[]) → (hideAll h [P₁, P₂, l]).get? b = some o := fun b o e n1 n2 => keep b o e fun hm => by
    simp only [List.mem_cons, List.not_mem_nil, or_false] at hm
    rcases hm with rfl | rfl | rfl
    · rw [h1] at e; cases e; exact n2 _ rfl rfl
    · rw [h2] at e; cases e; exact n2 _ rfl rfl
    · rw [hl] at e; cases e; exact n1 _ rfl
  refine ⟨fun b o e => ?_, ?_, ?_, ?_, X.bi, fun d hd => ?_⟩
  · have hm := memOf e
    obtain ⟨k1, k2, k3⟩ := hK _ hm
    refine keep b o (X.frag b o e) fun hm' => ?_
    simp only [List.mem_cons, List.not_mem_nil, or_false] at hm'
    rcases hm' with q | q | q
    · exact k1 q
    · exact k2 q
    · have := X.frag b o e
      rw [q, hl] at this
      cases this
      exact k3 rfl
  · obtain ⟨o, es, ep, ho, hd, r⟩ := X.g
    exact ⟨o, es, ep, dk _ _ ho (fun d q => by rw [q] at hd; cases hd) (fun d q => by rw [q] at hd; cases hd), hd, r⟩
  · obtain ⟨o, es, ep, ho, hd, r⟩ := X.b
    exact ⟨o, es, ep, dk _ _ ho (fun d q => by rw [q] at hd; cases hd) (fun d q => by rw [q] at hd; cases hd), hd, r⟩
  · obtain ⟨mc, ⟨o, es, ep, ho, hd, r⟩, z⟩ := X.nolimit
    exact ⟨mc, ⟨o, es, ep, dk _ _ ho (fun d q => by rw [q] at hd; cases hd) (fun d q => by rw [q] at hd; cases hd), hd, r⟩, z⟩
  · obtain ⟨fo, a, b, c⟩ := X.fn d hd
    refine ⟨fo, dk _ _ a (fun d q => by rw [q] at b; cases b) (fun d q => by rw [q] at b; cases b), b, ?_⟩
    obtain ⟨c', o, vs', t, e1, e2, e3, e4⟩ := c
    refine ⟨c', o, vs', t, e1, dk _ _ e2 ?_ ?_, e3, e4⟩
    · rintro d q; rw [q] at e3; cases e3
    · rintro d q rfl; rw [q] at e3; cases e3; cases e4
end Mine
end
section
open PySem PySem.W PyProof.Rows PySem.Calls
set_option maxHeartbeats 0
namespace Mine
theorem args_open {args : List WData} (hpre : (Challenge.rw_wr0042_01.row.toRowW).claim.pre args = true) : ∃ xs : List Int, args = [.list (xs.map .int)] ∧ xs.length ≤ 63 := by
  have hsh := (pre_splitW hpre).1
  have hcond := (pre_splitW hpre).2
  obtain ⟨d, r, rfl, h1, h2⟩ := hasAllW_cons hsh
  obtain rfl := hasAllW_nil h2
  obtain ⟨ys, rfl, h3⟩ := hasW_list h1
  obtain ⟨ns, rfl⟩ := items_int h3
  refine ⟨ns, rfl, ?_⟩
  clear hsh h1 h2 h3 hpre
  have h4 := (holds_andW hcond).1
  clear hcond
  have hcond' := condW_of h4 (by wtm_val)
  simp at hcond'
  omega
theorem well_int {P : Params} {h : Heap} {v : Value} {i : Int} (x : Well P h v (.int i)) : ∃ t, v = .int i t := by
  cases x; exact ⟨_, rfl⟩
theorem wellAll_cons {P : Params} {h : Heap} {vs : List Value} {d : WData} {ds : List WData} (x : WellAll P h vs (d :: ds)) : ∃ v r, vs = v :: r ∧ Well P h v d ∧ WellAll P h r ds := by
  cases x with | cons a b => exact ⟨_, _, rfl, a, b⟩
theorem ints_well {P : Params} {h : Heap} {W : Wd} (xs : List Int) : ∀ (vs : List Value), WellAll P h vs (xs.map .int) → VRels W (xs.map .int) vs := by
  induction xs with
  | nil => intro vs x; cases x; exact .nil
  | cons i xs ih =>
    intro vs x
    obtain ⟨v, r, rfl, a, b⟩ := wellAll_cons x
    obtain ⟨t, rfl⟩ := well_int a
    exact .cons (.int i t) (ih r b)
theorem cells_are (L : Nat) : cellsFrom (L + 1) dLawS.names [] = [("ways" : Str), "m", "ring", "row", "weights", "orders", "lead", "steps", "numbers"].zip [(L + 9 : Addr), L + 8, L + 7, L + 6, L + 5, L + 4, L + 3, L + 2, L + 1] := by kernel_rfl
section
variable {prog : Program} {w : World} {A : Around} {s : Shared}
theorem enter_cells {R : Result → Shared → Prop} {a : Addr} {o : Obj} {fd : FuncData} {body : List Stmt} {n : Str} {v : Value}
    (hroom : A.depth < recursionLimit) (ho : s.heap.get? a = some o) (hdata : o.data = .func fd) (hlim : s.heap.NoLimit) (hcd : s.heap.CodeRec fd.code fd.qualname)
    (hbody : fd.body = .stmts body) (hbind : bindArgs fd ⟨[v], []⟩ = pure [(n, v)]) (hclo : fd.closure = []) (hkind : fd.scope.names.lookup n = some .local)
    (h : ∀ s₁, 0 < s₁.toks → InCallC s (callEnvC fd s.heap.objs.size a).locals (fun y => if y = n then some v else none) (callEnvC fd s.heap.objs.size a).cells (fun _ => none) s₁ →
      wpAny (model prog w) (A.deeper (callEnvC fd s.heap.objs.size a)) (execs body (callEnvC fd s.heap.objs.size a)) (fun f s' => R (.ok (.ret (match f with | .ret v => v | _ => .none))) s')
        (fun e s' => wpAny (model prog w) (A.deeper (callEnvC fd s.heap.objs.size a)) (leaving (callEnvC fd s.heap.objs.size a) e) (fun _ s'' => R (.error e) s'') (fun e' s'' => R (.error e') s'') s') s₁)
    (hco : fd.scope.isCoroutine = false) (hgen : fd.scope.isGenerator = false) (hk : fd.scope.kind = .function) :
    codeAny (model prog w) A (.call (.ref a) ⟨[v], []⟩) R s := by
  refine codeAny_call_function hroom ho hdata hco hgen hbody hcd ?_
  rw [hbind, hclo]
  refine wpAny_pure ?_
  simp only [newFunctionEnv, Option.isSome_none, Bool.false_eq_true, if_false]
  refine wpAny_bind (wpAny_alloc ?_)
  refine wpAny_bind (wpAny_layCells _ (fun name kind cells => by cases hkc : kind == NameKind.cell <;> simp [hkc]) _ _ _ _ ?_)
  have ok := cellsFrom_ok fd.scope.names (s.heap.push { cls := .type "frame", data := .dict #[] }) (s.heap.objs.size + 1) [] ⟨fun _ _ hm => (nomatch hm), List.Pairwise.nil⟩ (by rw [Heap.size_push]; exact Nat.le_refl _)
  rw [Heap.size_push] at ok
  rw [show ({ s with heap := s.heap.push { cls := .type "frame", data := .dict #[] } } : Shared).heap.objs.size = s.heap.objs.size + 1 from Heap.size_push ..]
  have X₀ : InCallC s s.heap.objs.size (fun _ => none) (cellsFrom (s.heap.objs.size + 1) fd.scope.names []) (fun _ => none) { s with heap := pushCells (s.heap.push { cls := .type "frame", data := .dict #[] }) fd.scope.names } :=
    ⟨⟨⟨_, _, rfl⟩, (Heap.Ns.new s.heap (.type "frame")).keeps (pushCells_keeps _ _), fun b o e => pushCells_keeps _ _ b o (Heap.get?_push_of_some _ e), Nat.le_refl _⟩,
      fun n c hc => (ok.empty n c (mem_of_lookup hc)).1, ok.apart, fun n c hm => (ok.empty n c hm).2⟩
  refine wpAny_bind ?_
  rw [List.forIn_cons]
  refine wpAny_bind (wpAny_bind (wpAny_storeName_local (env := newEnv fd.scope s.heap.objs.size fd.globals (cellsFrom (s.heap.objs.size + 1) fd.scope.names []) (fd.qualname ++ ".<locals>.") (some a) fd.code none fd.builtins) hkind X₀.toInCall.ns (fun h' hn' hs' => ?_) (by show (fd.scope.kind == .class || (fd.scope.kind == .module && _)) = false; rw [hk]; rfl)))
  refine wpAny_pure ?_
  dsimp only
  rw [List.forIn_nil]
  refine wpAny_pure (wpAny_pure ?_)
  have hX : InCallC s s.heap.objs.size (fun y => if y = n then some v else none) (cellsFrom (s.heap.objs.size + 1) fd.scope.names []) (fun _ => none) { s with heap := h', toks := s.toks + 1 } := by
    refine ⟨⟨⟨_, _, rfl⟩, hn', fun b o e => hs'.extBut b o (Nat.ne_of_lt (Heap.lt_size e)) (X₀.toInCall.keep b o e), Nat.le_refl _⟩, fun k c hc => (X₀.cell k c hc).sameBut hs' (Nat.ne_of_gt (X₀.above k c (mem_of_lookup hc))), X₀.apart, X₀.above⟩
  exact ⟨hlim.keeps hX.toInCall.keep, codeAny_func (h _ (Nat.succ_pos _) hX)⟩
end
end Mine
end
section
open PySem PySem.W PyProof.Rows PySem.Calls
set_option maxHeartbeats 0
namespace Mine
theorem srel_none {W : Wd} {cl : List (Str × Addr)} {m : Str → Option Value} {cs : Led} : ∀ {nm : List (Str × Bool)}, (∀ x, (x, true) ∈ nm → ∃ c o, cl.lookup x = some c ∧ (c, o) ∈ cs ∧ o.data = .cell none) → SRel W cl m cs nm (nm.map fun _ => none)
  | [], _ => .nil
  | (x, false) :: nm, h => .loc (fun _ e => nomatch e) (srel_none fun y hy => h y (.tail _ hy))
  | (x, true) :: nm, h => by
    obtain ⟨c, o, h1, h2, h3⟩ := h x (.head _)
    exact .cel h1 h2 h3 (fun _ e => nomatch e) (srel_none fun y hy => h y (.tail _ hy))
theorem cells_mem {cm : Str → Option Value} {cl : List (Str × Addr)} {cs : Led} (r : CellsAre cm cl cs) {x : Str} {c : Addr} (hm : (x, c) ∈ cl) : ∃ o, (c, o) ∈ cs ∧ o.data = .cell (cm x) := by
  induction r with
  | nil => cases hm
  | cons h _ ih =>
    rcases List.mem_cons.mp hm with e | hm
    · cases e; exact ⟨_, .head _, h⟩
    · obtain ⟨o, h1, h2⟩ := ih hm
      exact ⟨o, .tail _ h1, h2⟩
theorem cells_addr {cm : Str → Option Value} {cl : List (Str × Addr)} {cs : Led} (r : CellsAre cm cl cs) : cs.map (·.1) = cl.map (·.2) := by
  induction r with
  | nil => rfl
  | cons _ _ ih => rw [List.map_cons, List.map_cons, ih]
theorem rec6 : recAt 6 = ⟨"law", dLawP, dLawB, dLawS, (recAt 6).pos⟩ := by kernel_rfl
theorem kinds_ok : (lawV.all fun p => dLawS.names.lookup (Str.ofString p.1) == some (if p.2 then NameKind.cell else .local)) = true := by kernel_rfl
theorem kAddr (P : Params) : ((K1 P).all fun p => p.1 != 69 && p.1 != 76 && p.2.cls != .type "list") = true := by kernel_rfl
theorem K1_of {P : Params} {h : Heap} (X : (K1T P).In h) : (K1 P).In h := fun a o e => by
  refine X a o ?_
  have hm := memOf e
  have := List.all_eq_true.mp (kAddr P) _ hm
  simp only [Bool.and_eq_true, bne_iff_ne] at this
  show ((69, _) :: (76, _) :: K1 P).lookup a = some o
  rw [List.lookup_cons, show (a == 69) = false by simpa using this.1.1, List.lookup_cons, show (a == 76) = false by simpa using this.1.2]
  exact e
end Mine
end
section
open PySem PySem.W PyProof.Rows PySem.Calls
set_option maxHeartbeats 0
namespace Mine
noncomputable def cx0 (w : World) (g : Heap) (L fa : Addr) (cd : Value) (os : OsState) : Cx :=
  { A := callerA.deeper (envX (Str.ofString "law") dLawS L fa cd (cellsFrom (L + 1) dLawS.names [])), A₀ := callerA, base := g, outer := [], h₀ := g, L := L, fenv := envX (Str.ofString "law") dLawS L fa cd (cellsFrom (L + 1) dLawS.names []), nm := [], ac := ⟨106, w.params, pg, w⟩, os := os, lv := 8 }
theorem zip_inj : ∀ {ns : List Str} {as : List Addr} {x y : Str} {c : Addr}, as.Nodup → (x, c) ∈ ns.zip as → (y, c) ∈ ns.zip as → y = x
  | [], _, _, _, _, _, h, _ => by simp at h
  | _ :: _, [], _, _, _, _, h, _ => by simp at h
  | n :: ns, a :: as, x, y, c, nd, h1, h2 => by
    rw [List.zip_cons_cons, List.mem_cons, Prod.mk.injEq] at h1 h2
    rw [List.nodup_cons] at nd
    rcases h1 with ⟨q1, q2⟩ | h1
    · rcases h2 with ⟨q3, _⟩ | h2
      · rw [q1, q3]
      · exact absurd (q2 ▸ (List.of_mem_zip h2).2) nd.1
    · rcases h2 with ⟨_, q4⟩ | h2
      · exact absurd (q4 ▸ (List.of_mem_zip h1).2) nd.1
      · exact zip_inj nd.2 h1 h2
theorem zip_ex : ∀ {ns : List Str} {as : List Addr} {x : Str}, as.length = ns.length → x ∈ ns → ∃ c, (ns.zip as).lookup x = some c ∧ (x, c) ∈ ns.zip as
  | [], _, _, _, h => by cases h
  | _ :: _, [], _, h, _ => by cases h
  | n :: ns, a :: as, x, hl, h => by
    rw [List.zip_cons_cons, List.lookup_cons]
    by_cases q : x = n
    · subst q; exact ⟨a, by simp, .head _⟩
    · obtain ⟨c, h1, h2⟩ := zip_ex (ns := ns) (as := as) (x := x) (Nat.succ.inj hl) ((List.mem_cons.mp h).resolve_left q)
      exact ⟨c, by rw [show (x == n) = false by simpa using q]; exact h1, .tail _ h2⟩
theorem addrs_nodup (L : Nat) {ks : List Nat} (h : ks.Nodup) : (ks.map (L + ·)).Nodup := List.pairwise_map.mpr (h.imp fun h q => h (Nat.add_left_cancel q))
theorem cell_inj (L : Nat) (x y : Str) (c : Addr) (h1 : (cellsFrom (L + 1) dLawS.names []).lookup x = some c) (h2 : (cellsFrom (L + 1) dLawS.names []).lookup y = some c) : y = x := by
  have m1 := memOf' h1
  have m2 := memOf' h2
  rw [cells_are] at m1 m2
  exact zip_inj (addrs_nodup L (ks := [9, 8, 7, 6, 5, 4, 3, 2, 1]) (by decide)) m1 m2
theorem cell_ex (L : Nat) (x : Str) (h : (x, true) ∈ lawV.map fun p => (Str.ofString p.1, p.2)) : ∃ c, (cellsFrom (L + 1) dLawS.names []).lookup x = some c ∧ (x, c) ∈ cellsFrom (L + 1) dLawS.names [] := by
  rw [cells_are]
  refine zip_ex rfl ?_
  have : ((lawV.map fun p => (Str.ofString p.1, p.2)).all fun p => !p.2 || [("ways" : Str), "m", "ring", "row", "weights", "orders", "lead", "steps", "numbers"].contains p.1) = true := by decide
  have := List.all_eq_true.mp this _ h
  simpa using this
theorem cx0_ok {w : World} {mg mb : Str → Option Value} {v : Nat → Value} {g : Heap} {L fa : Addr} {cd : Value} {os : OsState} (G : GdOk (gL w mg mb v) g) : COk1 (gL w mg mb v) (cxL (cx0 w g L fa cd os) fa cd L g) where
  below := below_caller g
  frames := Around.frames_deeper rfl
  frame := rfl
  kind := rfl
  handled := rfl
  nm := by
    show ((lawV.map fun p => (Str.ofString p.1, p.2)).map (·.1)).Nodup
    decide
  globals := rfl
  builtins := rfl
  locals := rfl
  gd := G
  cells := by
    intro x b hm
    obtain ⟨p, hp, e⟩ := List.mem_map.mp (show (x, b) ∈ lawV.map fun p => (Str.ofString p.1, p.2) from hm)
    cases e
    have := List.all_eq_true.mp kinds_ok _ hp
    show List.lookup _ dLawS.names = _
    simpa using this
  room := by
    show 1 + claimMargin + 1 + 8 < recursionLimit
    decide
  units := by
    show 4 + 3 + 3 * 8 + 8 < cLine
    decide
  acp := rfl
  acC := rfl
  acP := rfl
  acw := rfl
  inj := cell_inj L
theorem nodup9 {n l : Nat} (h1 : 69 < n) (h2 : 76 < n) (h3 : l < n) (n1 : l ≠ 69) (n2 : l ≠ 76) : ([n + 9, n + 8, n + 7, n + 6, n + 5, n + 4, n + 3, n + 2, n + 1] ++ [69, 76, l]).Nodup := by
  rw [List.nodup_append]
  refine ⟨addrs_nodup n (ks := [9, 8, 7, 6, 5, 4, 3, 2, 1]) (by decide), by simp [Ne.symm n1, Ne.symm n2], fun a ha b hb q => ?_⟩
  obtain ⟨k, _, rfl⟩ := List.mem_map.mp (show a ∈ [9, 8, 7, 6, 5, 4, 3, 2, 1].map (n + ·) from ha)
  have : b < n := by
    simp only [List.mem_cons, List.not_mem_nil, or_false] at hb
    rcases hb with rfl | rfl | rfl <;> assumption
  rw [← q] at this
  exact absurd this (Nat.not_lt.mpr (Nat.le_add_right _ _))
theorem rel_start {w : World} {s₁ : Shared} {h₂ g : Heap} {tk : Nat} {fa l : Addr} {cd : Value} {xs : List Int} {vs : List Value} (h69 : s₁.heap.get? 69 = some (tabO [])) (h76 : s₁.heap.get? 76 = some (tabO [])) (hl : s₁.heap.get? l = some (listO vs 0)) (hxs : ∀ W, VRels W (xs.map .int) vs)
    (hg₀ : hideAll s₁.heap [69, 76, l] = g) (hg : s₁.gens = #[]) (ht : 0 < tk)
    (X : InCallC s₁ s₁.heap.objs.size (fun y => if y = "script" then some (.ref l) else none) (cellsFrom (s₁.heap.objs.size + 1) dLawS.names []) (fun _ => none) { s₁ with heap := h₂, toks := tk }) :
    Rel (cxL (cx0 w g s₁.heap.objs.size fa cd s₁.os) fa cd s₁.heap.objs.size g) ⟨[69, 76], [(l, listO vs 0)]⟩ (st1 xs) [] { s₁ with heap := h₂, toks := tk } := by
  have hnd : ((cellsFrom (s₁.heap.objs.size + 1) dLawS.names []).map (·.1)).Nodup := by rw [cells_are]; show [("ways" : Str), "m", "ring", "row", "weights", "orders", "lead", "steps", "numbers"].Nodup; decide
  obtain ⟨cells, N, Yc⟩ := Cl.news (h₀ := s₁.heap) (L := s₁.heap.objs.size) (h := h₂) (cs := cellsFrom (s₁.heap.objs.size + 1) dLawS.names []) (cm := fun _ => none) (Nat.le_refl _) fun n c hm => ⟨X.cell n c (lookup_of_mem_nodup hnd hm), X.above n c hm⟩
  have h0g : ∀ b o, g.get? b = some o → s₁.heap.get? b = some o := fun b o e => of_hideAll _ (hg₀ ▸ e)
  have nog : ∀ b, b ∈ [69, 76, l] → g.get? b = none := fun b hb => by rw [← hg₀]; exact hideAll_none _ hb
  have kp := X.toInCall.keep
  have lt69 := Heap.lt_size h69
  have lt76 := Heap.lt_size h76
  have ltl := Heap.lt_size hl
  have ne1 : l ≠ 69 := fun q => by rw [q, h69] at hl; cases hl
  have ne2 : l ≠ 76 := fun q => by rw [q, h76] at hl; cases hl
  refine ⟨⟨fun y => if y = "script" then some (.ref l) else none, cells, [(69, tabO []), (76, tabO [])], ⟨X.toInCall.ns, fun b o e => kp b o (h0g b o e), by rw [← hg₀]; exact Nat.le_of_eq (hideAll_size _ _)⟩, ?_, ?_, ?_, ?_, rfl⟩, AllBare.of_eq hg, rfl, ht⟩
  · intro p hp
    simp only [List.mem_append, List.mem_cons, List.not_mem_nil, or_false] at hp
    rcases hp with hp | (rfl | rfl) | rfl
    · obtain ⟨a1, a2, a3⟩ := N p hp
      refine ⟨a1, a2, ?_⟩
      show g.get? p.1 = none
      cases q : g.get? p.1 with
      | none => rfl
      | some o => have := h0g _ _ q; rw [show s₁.heap.get? p.1 = none from a3] at this; cases this
    · exact ⟨kp _ _ h69, Nat.ne_of_lt lt69, nog _ (by simp)⟩
    · exact ⟨kp _ _ h76, Nat.ne_of_lt lt76, nog _ (by simp)⟩
    · exact ⟨kp _ _ hl, Nat.ne_of_lt ltl, nog _ (by simp)⟩
  · have ca := cells_addr Yc
    rw [cells_are] at ca
    have e1 : (cells ++ (([(69, tabO []), (76, tabO [])] : Led) ++ (([(l, listO vs 0)] : Led) ++ []))).map (fun p : Addr × Obj => p.1) = cells.map (fun p : Addr × Obj => p.1) ++ [69, 76, l] := by rw [List.map_append]; rfl
    show ((cells ++ (([(69, tabO []), (76, tabO [])] : Led) ++ (([(l, listO vs 0)] : Led) ++ []))).map (fun p : Addr × Obj => p.1)).Nodup
    rw [e1, ca]
    exact nodup9 lt69 lt76 ltl ne1 ne2
  · refine .loc (fun pv e => ?_) ?_
    · cases e
      exact ⟨.ref l, if_pos rfl, .flist _ vs 0 l (.head _) (hxs _)⟩
    · exact srel_none (nm := (lawV.tail.map fun p => (Str.ofString p.1, p.2))) fun x hx => by
        obtain ⟨c, h1, h2⟩ := cell_ex s₁.heap.objs.size x (.tail _ hx)
        obtain ⟨o, h3, h4⟩ := cells_mem Yc h2
        exact ⟨c, o, h1, h3, h4⟩
  · exact .cons (.tab 69 [] trivial) (.cons (.tab 76 [] trivial) .nil)
end Mine
end
section
open PySem PySem.W PyProof.Rows PySem.Calls
set_option maxHeartbeats 400000
namespace Mine
theorem old_end {C : Cx} {W : Wd} {σ : PS} {s₁ : Heap} {s' : Shared} {l P₁ P₂ : Addr} {vs : List Value} (R : Rel C W σ [] s') (hg : C.h₀ = hideAll s₁ [P₁, P₂, l])
    (h1 : s₁.get? P₁ = some (tabO [])) (h2 : s₁.get? P₂ = some (tabO [])) (hl : s₁.get? l = some (listO vs 0)) (hT : (l, listO vs 0) ∈ W.T) (hm : W.mu[0]? = some P₁ ∧ W.mu[1]? = some P₂)
    (i1 : isCodeTable s₁ P₁) (i2 : isCodeTable s₁ P₂) (m1 : ∃ po o, s'.heap.get? P₁ = some o ∧ ORel C.ac W po P₁ o ∧ po = .tab P₁) (m2 : ∃ po o, s'.heap.get? P₂ = some o ∧ ORel C.ac W po P₂ o ∧ po = .tab P₂) : OldK s₁ s'.heap := by
  have tb : ∀ {P}, (∃ po o, s'.heap.get? P = some o ∧ ORel C.ac W po P o ∧ po = .tab P) → ∃ ws, s'.heap.get? P = some (tabO ws) := by
    rintro P ⟨po, o, a, b, rfl⟩
    cases b with
    | tab _ ws _ => exact ⟨ws, a⟩
  obtain ⟨w1, t1⟩ := tb m1
  obtain ⟨w2, t2⟩ := tb m2
  have tl : s'.heap.get? l = some (listO vs 0) := R.getT hT
  have key : ∀ b o, s₁.get? b = some o → b ∉ [P₁, P₂, l] → s'.heap.get? b = some o := fun b o e hn => R.keep (hg ▸ hideAll_get _ e hn)
  refine ⟨fun b o e => ?_, fun b o e => ?_⟩
  · by_cases hb : b ∈ [P₁, P₂, l]
    · simp only [List.mem_cons, List.not_mem_nil, or_false] at hb
      rcases hb with rfl | rfl | rfl
      · rw [h1] at e; cases e
        exact .inr (.inl ⟨i1, rfl, #[], w1.toArray, rfl, by rw [t1]; simp [tabO]⟩)
      · rw [h2] at e; cases e
        exact .inr (.inl ⟨i2, rfl, #[], w2.toArray, rfl, by rw [t2]; simp [tabO]⟩)
      · rw [hl] at e; cases e
        exact .inl tl
    · exact .inl (key b o e hb)
  · by_cases hb : b ∈ [P₁, P₂, l]
    · simp only [List.mem_cons, List.not_mem_nil, or_false] at hb
      rcases hb with rfl | rfl | rfl
      · exact ⟨_, t1⟩
      · exact ⟨_, t2⟩
      · exact ⟨_, tl⟩
    · exact ⟨_, key b o e hb⟩
end Mine
end
section
open PySem PySem.W PyProof.Rows PySem.Calls
set_option maxHeartbeats 1000000
namespace Mine
noncomputable def PureL (F : PS → Option (Fl × PS)) : Prop := ∀ xs : List Int, xs.length ≤ 63 → ∃ σ', F (st1 xs) = some (.ret (.bool true), σ') ∧ σ'.mem[0]? = some (.tab 69) ∧ σ'.mem[1]? = some (.tab 76)
theorem run1 {w : World} {mg mb : Str → Option Value} {v : Nat → Value} {s₁ : Shared} {h₂ g : Heap} {tk : Nat} {fa l : Addr} {cd : Value} {xs : List Int} {vs : List Value} {Q : Flow → Shared → Prop} {E : Value → Shared → Prop} {F : PS → Option (Fl × PS)} {body : List Stmt} (hp : PureL F) (hlen : xs.length ≤ 63)
    (H : Xs (gL w mg mb v) (cxL (cx0 w g s₁.heap.objs.size fa cd s₁.os) fa cd s₁.heap.objs.size g) body F)
    (R : Rel (cxL (cx0 w g s₁.heap.objs.size fa cd s₁.os) fa cd s₁.heap.objs.size g) ⟨[69, 76], [(l, listO vs 0)]⟩ (st1 xs) [] { s₁ with heap := h₂, toks := tk })
    (XT : (K1T w.params).In s₁.heap) (hg₀ : hideAll s₁.heap [69, 76, l] = g) (hl : s₁.heap.get? l = some (listO vs 0)) (h : ∀ s', OldK s₁.heap s'.heap → s'.os = s₁.os → AllBare s'.gens → Q (.ret (.bool true)) s') :
    wpAny (model pg w) (callerA.deeper (envX (Str.ofString "law") dLawS s₁.heap.objs.size fa cd (cellsFrom (s₁.heap.objs.size + 1) dLawS.names []))) (execs body (envX (Str.ofString "law") dLawS s₁.heap.objs.size fa cd (cellsFrom (s₁.heap.objs.size + 1) dLawS.names []))) Q E { s₁ with heap := h₂, toks := tk } := by
  obtain ⟨σ', hF, t1, t2⟩ := hp xs hlen
  refine H _ _ _ _ _ _ _ _ hF R fun W' fl s' le R' fr => ?_
  cases fr with
  | ret _ y ry =>
    cases ry
    obtain ⟨⟨ex, hmu⟩, hT⟩ := le
    have u1 : W'.mu[0]? = some 69 := by rw [hmu]; rfl
    have u2 : W'.mu[1]? = some 76 := by rw [hmu]; rfl
    refine Rel.getME R' t1 u1 fun o1 a1 b1 => ?_
    refine Rel.getME R' t2 u2 fun o2 a2 b2 => ?_
    have h69 : s₁.heap.get? 69 = some (tabO []) := XT 69 _ rfl
    have h76 : s₁.heap.get? 76 = some (tabO []) := XT 76 _ rfl
    refine h s' (old_end R' hg₀.symm h69 h76 hl (hT _ (.head _)) ⟨u1, u2⟩ ?_ ?_ ⟨_, _, a1, b1, rfl⟩ ⟨_, _, a2, b2, rfl⟩) R'.os R'.bare
    · exact ⟨73, _, _, XT 73 _ rfl, rfl, rfl, rfl⟩
    · exact ⟨80, _, _, XT 80 _ rfl, rfl, rfl, rfl⟩
theorem env_is (pm cd doc : Value) (L fa : Addr) : callEnvC (docDef "law" dLawP dLawB dLawS pm cd doc) L fa = envX (Str.ofString "law") dLawS L fa cd (cellsFrom (L + 1) dLawS.names []) := rfl
theorem prog_is : (Challenge.rw_wr0042_01.row.toRowW).prog = pg := rfl
theorem post_ok (xs : List Int) : (Challenge.rw_wr0042_01.row.toRowW).claim.post [.list (xs.map .int)] (.bool true) [.list (xs.map .int)] = true :=
  postW_of (by rfl) (by wtm_val) (by first | rfl | simp | decide)
theorem entryL {F : PS → Option (Fl × PS)} {b : List Stmt} (hbd : dLawB = b) (H : ∀ (w : World) (mg mb : Str → Option Value) (v : Nat → Value) (C : Cx) (a : Addr) (cd : Value) (L : Addr) (g : Heap), COk1 (gL w mg mb v) (cxL C a cd L g) → Xs (gL w mg mb v) (cxL C a cd L g) b F) (hp : PureL F) :
    WalkO qv lsv (XL qv []) hk1.says (Challenge.rw_wr0042_01.row.toRowW) (recAt 6) [] fun f vs => PySem.call f vs := by
  intro w s₀ s₁ mg mb G Y fa o pm cd doc dV kV ho hd hcd hD hmg hg args vals as hpre hlay hrd hwl hlo
  obtain ⟨xs, rfl, hlen⟩ := args_open hpre
  have T := G.T
  have XT : (K1T w.params).In s₁.heap := kIn_of Y
  have XK := K1_of XT
  obtain ⟨v, hv⟩ := gd_fns T XK
  have gd : GdOk (gL w mg mb v) s₁.heap := ⟨XK, T.g, T.b, T.nolimit, T.builtins, hv⟩
  have h69 : s₁.heap.get? 69 = some (tabO []) := XT 69 _ rfl
  have h76 : s₁.heap.get? 76 = some (tabO []) := XT 76 _ rfl
  cases hwl with
  | cons hw1 hw2 => cases hw2 with
    | nil => cases hw1 with
      | @list l vs _ hl hxs =>
        have hl : s₁.heap.get? l = some (listO vs 0) := hl
        have gd₀ := gd_hide gd h69 h76 hl fun p hp => by
          have := List.all_eq_true.mp (kAddr w.params) p hp
          simpa [and_assoc] using this
        obtain rfl : dV = .none := by
          rcases hD.pos with ⟨_, e⟩ | ⟨e, _⟩
          · exact e
          · exact absurd (show (recAt 6).params.defaults = [] by kernel_rfl) e
        obtain rfl : kV = .none := by
          rcases hD.kw with ⟨_, e⟩ | ⟨e, _⟩
          · exact e
          · exact absurd rfl e
        rw [rec6] at hd hcd
        generalize hg₀ : hideAll s₁.heap [69, 76, l] = g at gd₀
        refine wpAny_call (enter_cells (fd := docDef "law" dLawP dLawB dLawS pm cd doc) (body := dLawB) (n := "script") (by decide) ho hd gd.nolimit hcd rfl rfl rfl (by kernel_rfl) (fun s₂ ht X => ?_) rfl rfl rfl)
        obtain ⟨h₂, tk, rfl⟩ := X.toInCall.same
        have X' : InCallC s₁ s₁.heap.objs.size (fun y => if y = "script" then some (.ref l) else none) (cellsFrom (s₁.heap.objs.size + 1) dLawS.names []) (fun _ => none) { s₁ with heap := h₂, toks := tk } := X
        have RR := rel_start (w := w) (fa := fa) (cd := cd) h69 h76 hl (fun W => ints_well xs _ hxs) hg₀ hg ht X'
        have KK : COk1 (gL w mg mb v) (cxL (cx0 w g s₁.heap.objs.size fa cd s₁.os) fa cd s₁.heap.objs.size g) := cx0_ok gd₀
        have HH := H w mg mb v (cx0 w g s₁.heap.objs.size fa cd s₁.os) fa cd s₁.heap.objs.size g KK
        rw [prog_is, env_is, hbd]
        refine run1 hp hlen HH RR XT hg₀ hl fun s' hK hos hb => ?_
        exact ⟨.inl ⟨.bool true, .bool true, [], rfl, fun cls => rfl, .bool true, post_ok xs, fun _ => ⟨List.nodup_nil, fun a h => nomatch h⟩⟩, hK, hos, hb⟩
end Mine
end
section
open PySem PySem.W PyProof.Rows PySem.Calls
set_option genInjectivity false
set_option genSizeOfSpec false
namespace Mine
noncomputable def rowAt (t : Nat) : List Nat := ([[97,98,107,109],[97,98,109,107],[97,107,98,109],[97,107,109,98],[97,109,98,107],[97,109,107,98],[98,97,107,109],[98,97,109,107],[98,107,97,109],[98,107,109,97],[98,109,97,107],[98,109,107,97],[107,97,98,109],[107,97,109,98],[107,98,97,109],[107,98,109,97],[107,109,97,98],[107,109,98,97],[109,97,98,107],[109,97,107,98],[109,98,97,107],[109,98,107,97],[109,107,97,98],[109,107,98,97]] : List (List Nat)).getD t [109,107,98,97]
noncomputable def laid (ld : List Nat) (row : List Nat) : List Nat := row.flatMap fun c => ld ++ [c]
noncomputable def pileOf (ld : List Nat) (row : List Nat) : List PV := row.map fun c => .tup [.str ld, .str [c]]
noncomputable def dot (b : Bool) : List Nat := bif b then [46, 46, 46] else []
noncomputable def blk (k : Nat) : List Nat := List.replicate k 32
structure Bs where
  (xab xak xam xba xbk xbm xka xkb xkm xma xmb xmk : Bool)
noncomputable def Bs.es (s : Bs) : List (List Nat × PV) := [([97,98], .bool s.xab), ([97,107], .bool s.xak), ([97,109], .bool s.xam), ([98,97], .bool s.xba), ([98,107], .bool s.xbk), ([98,109], .bool s.xbm), ([107,97], .bool s.xka), ([107,98], .bool s.xkb), ([107,109], .bool s.xkm), ([109,97], .bool s.xma), ([109,98], .bool s.xmb), ([109,107], .bool s.xmk)]
structure Env0 where
  (typed line d1 d2 d3 : List Nat) (first : Int) (ld before : List Nat)
noncomputable def vars0 (e : Env0) (r : List (Option PV)) : List (Option PV) := [none, none, none, none, some (.str e.typed), some (.str e.line), none, none, none, some (.str e.d1), some (.str e.d2), some (.str e.d3), none, none, none, some (.ref 5), none, some (.int e.first), some (.str e.ld), some (.ref 6), none, some (.ref 8), some (.ref 10), some (.str e.before)] ++ r
noncomputable def mem0 (e : Env0) (s : Bs) (row : List Nat) (o w : List PV) : List PO := [.tab 69, .tab 76, .gone, .gone, .gone, .dict s.es, .acc e.first (pileOf e.ld row), .list [.int 0], .list o, .list [.int 0], .list w]
noncomputable def prev (ld : List Nat) : Nat → List Nat
  | 0 => []
  | t + 1 => laid ld (rowAt t)
noncomputable def seqs : List (PS → Option (Fl × PS)) → PS → Option (Fl × PS)
  | [], σ => some (.next, σ)
  | f :: r, σ => fseq f (seqs r) σ
end Mine
end
section
open PySem PySem.W PyProof.Rows PySem.Calls
set_option maxHeartbeats 0
namespace Mine
noncomputable def ringT (t : Nat) : List (List Nat) := ([[[97],[98],[107],[109]],[[97],[98],[109,107]],[[97],[107,98],[109]],[[97],[107],[109,98]],[[97],[109,98,107]],[[97],[109,107,98]],[[98,97],[107],[109]],[[98,97],[109,107]],[[98],[107,97],[109]],[[98],[107],[109,97]],[[98],[109,97,107]],[[98],[109,107,97]],[[107,97,98],[109]],[[107,97],[109,98]],[[107,98,97],[109]],[[107,98],[109,97]],[[107],[109,97,98]],[[107],[109,98,97]],[[109,97,98,107]],[[109,97,107,98]],[[109,98,97,107]],[[109,98,107,97]],[[109,107,97,98]],[[109,107,98,97]]] : List (List (List Nat))).getD t []
noncomputable def cutT (t : Nat) : Nat := ([3,2,3,2,3,1,3,2,3,2,3,1,3,2,3,2,3,1,3,2,3,2,3,0] : List Nat).getD t 0
noncomputable def p3 (x y z : Bool) : Nat := cond x (cond y (cond z 3 2) (cond z 2 1)) (cond y (cond z 2 1) (cond z 1 0))
noncomputable def q2 (x y : Bool) : Nat := cond x (cond y 0 1) (cond y 1 2)
noncomputable def q3 (x y z : Bool) : Nat := cond x (cond y (cond z 2 1) 1) (cond y 1 (cond z 1 2))
noncomputable def q4 (x y z u : Bool) : Nat := cond x (cond y (cond z (cond u 0 1) 1) 1) (cond y 1 (cond z 1 (cond u 1 2)))
noncomputable def q22 (x y z u : Bool) : Nat := cond x (cond y (cond z (cond u 2 1) (cond u 1 0)) 1) (cond y 1 (q2 z u))
noncomputable def dT (s : Bs) : List Nat := [p3 s.xab s.xbk s.xkm, p3 s.xab s.xbm s.xmk, p3 s.xak s.xkb s.xbm, p3 s.xak s.xkm s.xmb, p3 s.xam s.xmb s.xbk, p3 s.xam s.xmk s.xkb, p3 s.xba s.xak s.xkm, p3 s.xba s.xam s.xmk, p3 s.xbk s.xka s.xam, p3 s.xbk s.xkm s.xma, p3 s.xbm s.xma s.xak, p3 s.xbm s.xmk s.xka, p3 s.xka s.xab s.xbm, p3 s.xka s.xam s.xmb, p3 s.xkb s.xba s.xam, p3 s.xkb s.xbm s.xma, p3 s.xkm s.xma s.xab, p3 s.xkm s.xmb s.xba, p3 s.xma s.xab s.xbk, p3 s.xma s.xak s.xkb, p3 s.xmb s.xba s.xak, p3 s.xmb s.xbk s.xka, p3 s.xmk s.xka s.xab, p3 s.xmk s.xkb s.xba]
noncomputable def wT (s : Bs) : List (Nat × Nat) := [(4, 2), (3, q2 s.xkm s.xmk), (3, q2 s.xbk s.xkb), (3, q2 s.xbm s.xmb), (2, q3 s.xkm s.xmb s.xbk), (2, q3 s.xbm s.xmk s.xkb), (3, q2 s.xab s.xba), (2, q22 s.xab s.xba s.xkm s.xmk), (3, q2 s.xak s.xka), (3, q2 s.xam s.xma), (2, q3 s.xkm s.xma s.xak), (2, q3 s.xam s.xmk s.xka), (2, q3 s.xbk s.xka s.xab), (2, q22 s.xak s.xka s.xbm s.xmb), (2, q3 s.xak s.xkb s.xba), (2, q22 s.xbk s.xkb s.xam s.xma), (2, q3 s.xbm s.xma s.xab), (2, q3 s.xam s.xmb s.xba), (1, q4 s.xkm s.xma s.xab s.xbk), (1, q4 s.xbm s.xma s.xak s.xkb), (1, q4 s.xkm s.xmb s.xba s.xak), (1, q4 s.xam s.xmb s.xbk s.xka), (1, q4 s.xbm s.xmk s.xka s.xab), (1, q4 s.xam s.xmk s.xkb s.xba)]
noncomputable def stepD (s : Bs) (t : Nat) : Nat := (dT s).getD t 0
noncomputable def weightOf (s : Bs) (t : Nat) : Int := (((wT s).getD t (0, 1)).2 : Int) - 1
noncomputable def bump (l : List Int) (k : Nat) (x : Int) : List Int := l.modify k (· + x)
noncomputable def pvi (l : List Int) : List PV := l.map .int
noncomputable def stT (e : Env0) (s : Bs) (t : Nat) (o w : List Int) : PS := ⟨vars0 e (some (.int t) :: List.replicate 15 none), mem0 e s (rowAt t) (pvi o) (pvi w)⟩
noncomputable def Env0.nxt (e : Env0) (t : Nat) : Env0 := ⟨e.typed, e.line, e.d1, e.d2, e.d3, e.first, e.ld, laid e.ld (rowAt t)⟩
noncomputable def toldV : List PO := [.list [.int (-1), .int 1, .int 0]]
noncomputable def abV (e : Env0) (t : Nat) (r : List (Option PV)) : List (Option PV) := vars0 e ([some (.int t), some (.str (laid e.ld (rowAt t))), some (.str (rowAt t)), some (.ref 11), some (.int (t % 5 : Nat)), some (.int (t / 5 : Nat))] ++ r)
noncomputable def stB (e : Env0) (s : Bs) (t : Nat) (o w : List Int) : PS := ⟨abV e t (List.replicate 10 none), mem0 e s (rowAt t) (pvi o) (pvi w) ++ toldV⟩
noncomputable def ringsV (t : Nat) : List PO := [.list ((ringT t).map .str)]
noncomputable def stD (e : Env0) (s : Bs) (t : Nat) (o w : List Int) : PS := ⟨abV e t (some (.ref 12) :: some (.int 1) :: List.replicate 8 none), mem0 e s (rowAt t) (pvi o) (pvi w) ++ (toldV ++ ringsV t)⟩
noncomputable def stE (e : Env0) (s : Bs) (t : Nat) (x : Int) (o w : List Int) : PS := ⟨abV e t (some (.ref 12) :: some (.int x) :: List.replicate 8 none), mem0 e s (rowAt t) (pvi o) (pvi w) ++ (toldV ++ ringsV t)⟩
noncomputable def stG (e : Env0) (s : Bs) (t : Nat) (x : Int) (o w : List Int) : PS := ⟨abV e t (some (.ref 12) :: some (.int x) :: none :: none :: some (.int (cutT t)) :: List.replicate 5 none), mem0 e s (rowAt (t + 1)) (pvi o) (pvi w) ++ (toldV ++ ringsV t)⟩
noncomputable def drT : List Nat := [24, 25, 26, 27, 28, 29, 30, 31, 32, 33, 34, 35, 36, 20]
noncomputable def ffinC (ds : List Nat) (n0 : Nat) (σ : PS) : Option PS := if (σ.mem.take n0).all (belowO n0) = true then some (dropS ds (cutS n0 σ)) else none
noncomputable def stQ (e : Env0) (s : Bs) (t : Nat) (o w : List Int) : PS := ⟨vars0 e (List.replicate 16 none), mem0 e s (rowAt t) (pvi o) (pvi w)⟩
theorem upto24 {P : Nat → Prop} (h0 : P 0) (h1 : P 1) (h2 : P 2) (h3 : P 3) (h4 : P 4) (h5 : P 5) (h6 : P 6) (h7 : P 7) (h8 : P 8) (h9 : P 9) (h10 : P 10) (h11 : P 11) (h12 : P 12) (h13 : P 13) (h14 : P 14) (h15 : P 15) (h16 : P 16) (h17 : P 17) (h18 : P 18) (h19 : P 19) (h20 : P 20) (h21 : P 21) (h22 : P 22) (h23 : P 23) : ∀ t, t < 24 → P t
  | 0, _ => h0
  | 1, _ => h1
  | 2, _ => h2
  | 3, _ => h3
  | 4, _ => h4
  | 5, _ => h5
  | 6, _ => h6
  | 7, _ => h7
  | 8, _ => h8
  | 9, _ => h9
  | 10, _ => h10
  | 11, _ => h11
  | 12, _ => h12
  | 13, _ => h13
  | 14, _ => h14
  | 15, _ => h15
  | 16, _ => h16
  | 17, _ => h17
  | 18, _ => h18
  | 19, _ => h19
  | 20, _ => h20
  | 21, _ => h21
  | 22, _ => h22
  | 23, _ => h23
  | n + 24, h => absurd h (by omega)
theorem of_map {α β : Type} {f g : α → β} {l : List α} (h : l.map f = l.map g) {a : α} (ha : a ∈ l) : f a = g a := List.map_inj_left.mp h a ha
noncomputable def cs9 : List (Int × Nat) := [(0, 0), (0, 1), (0, 2), (1, 0), (1, 1), (1, 2), (2, 0), (2, 1), (2, 2)]
theorem in9 {first : Int} (hf : first = 0 ∨ first = 1 ∨ first = 2) {k : Nat} (hk : k = 0 ∨ k = 1 ∨ k = 2) : (first, k) ∈ cs9 := by rcases hf with rfl | rfl | rfl <;> rcases hk with rfl | rfl | rfl <;> decide
noncomputable def cs3 : List Nat := [0, 1, 2]
theorem in3 {k : Nat} (hk : k = 0 ∨ k = 1 ∨ k = 2) : k ∈ cs3 := by rcases hk with rfl | rfl | rfl <;> decide
noncomputable def bs1 : List Bool := [false, true]
theorem inB (b : Bool) : b ∈ bs1 := by cases b <;> decide
noncomputable def prodL {α β : Type} (l : List α) (m : List β) : List (α × β) := l.flatMap fun a => m.map fun b => (a, b)
theorem in_prod {α β : Type} {l : List α} {m : List β} {a : α} {b : β} (ha : a ∈ l) (hb : b ∈ m) : (a, b) ∈ prodL l m := List.mem_flatMap.mpr ⟨a, ha, List.mem_map.mpr ⟨b, hb, rfl⟩⟩
noncomputable def cs12 : List (Bool × Bool × Nat) := prodL bs1 (prodL bs1 cs3)
theorem in12 (a b : Bool) {k : Nat} (hk : k = 0 ∨ k = 1 ∨ k = 2) : (a, b, k) ∈ cs12 := in_prod (inB a) (in_prod (inB b) (in3 hk))
noncomputable def tAP (t : Nat) : Prop := ∀ (typed line d1 d2 d3 : List Nat) (s : Bs) (o0 o1 o2 o3 w0 w1 w2 w3 w4 : Int), (cs9.map fun c => seqs [lawF_14b_0, lawF_14b_1, lawF_14b_2, lawF_14b_3, lawF_14b_4, lawF_14b_5] (stT ⟨typed, line, d1, d2, d3, c.1, blk c.2, prev (blk c.2) t⟩ s t [o0, o1, o2, o3] [w0, w1, w2, w3, w4])) = cs9.map fun c => some (Fl.next, stB (Env0.nxt ⟨typed, line, d1, d2, d3, c.1, blk c.2, prev (blk c.2) t⟩ t) s t [o0, o1, o2, o3] [w0, w1, w2, w3, w4])
theorem tA_0 : tAP 0 := by unfold tAP; intros; kernel_rfl
theorem tA_1 : tAP 1 := by unfold tAP; intros; kernel_rfl
theorem tA_2 : tAP 2 := by unfold tAP; intros; kernel_rfl
theorem tA_3 : tAP 3 := by unfold tAP; intros; kernel_rfl
theorem tA_4 : tAP 4 := by unfold tAP; intros; kernel_rfl
theorem tA_5 : tAP 5 := by unfold tAP; intros; kernel_rfl
theorem tA_6 : tAP 6 := by unfold tAP; intros; kernel_rfl
theorem tA_7 : tAP 7 := by unfold tAP; intros; kernel_rfl
theorem tA_8 : tAP 8 := by unfold tAP; intros; kernel_rfl
theorem tA_9 : tAP 9 := by unfold tAP; intros; kernel_rfl
theorem tA_10 : tAP 10 := by unfold tAP; intros; kernel_rfl
theorem tA_11 : tAP 11 := by unfold tAP; intros; kernel_rfl
theorem tA_12 : tAP 12 := by unfold tAP; intros; kernel_rfl
theorem tA_13 : tAP 13 := by unfold tAP; intros; kernel_rfl
theorem tA_14 : tAP 14 := by unfold tAP; intros; kernel_rfl
theorem tA_15 : tAP 15 := by unfold tAP; intros; kernel_rfl
theorem tA_16 : tAP 16 := by unfold tAP; intros; kernel_rfl
theorem tA_17 : tAP 17 := by unfold tAP; intros; kernel_rfl
theorem tA_18 : tAP 18 := by unfold tAP; intros; kernel_rfl
theorem tA_19 : tAP 19 := by unfold tAP; intros; kernel_rfl
theorem tA_20 : tAP 20 := by unfold tAP; intros; kernel_rfl
theorem tA_21 : tAP 21 := by unfold tAP; intros; kernel_rfl
theorem tA_22 : tAP 22 := by unfold tAP; intros; kernel_rfl
theorem tA_23 : tAP 23 := by unfold tAP; intros; kernel_rfl
theorem tA (t : Nat) (ht : t < 24) (typed line d1 d2 d3 : List Nat) (first : Int) (hf : first = 0 ∨ first = 1 ∨ first = 2) (k : Nat) (hk : k = 0 ∨ k = 1 ∨ k = 2) (s : Bs) (o0 o1 o2 o3 w0 w1 w2 w3 w4 : Int) : seqs [lawF_14b_0, lawF_14b_1, lawF_14b_2, lawF_14b_3, lawF_14b_4, lawF_14b_5] (stT ⟨typed, line, d1, d2, d3, first, blk k, prev (blk k) t⟩ s t [o0, o1, o2, o3] [w0, w1, w2, w3, w4]) = some (.next, stB (Env0.nxt ⟨typed, line, d1, d2, d3, first, blk k, prev (blk k) t⟩ t) s t [o0, o1, o2, o3] [w0, w1, w2, w3, w4]) := by
  have h := of_map (upto24 (P := tAP) tA_0 tA_1 tA_2 tA_3 tA_4 tA_5 tA_6 tA_7 tA_8 tA_9 tA_10 tA_11 tA_12 tA_13 tA_14 tA_15 tA_16 tA_17 tA_18 tA_19 tA_20 tA_21 tA_22 tA_23 t ht typed line d1 d2 d3 s o0 o1 o2 o3 w0 w1 w2 w3 w4) (in9 hf hk)
  exact h
noncomputable def tBP (t : Nat) : Prop := ∀ (typed line d2 before : List Nat) (first : Int) (s : Bs) (o0 o1 o2 o3 w0 w1 w2 w3 w4 : Int), (cs12.map fun c => lawF_14b_6 (stB ⟨typed, line, dot c.1, d2, dot c.2.1, first, blk c.2.2, before⟩ s t [o0, o1, o2, o3] [w0, w1, w2, w3, w4])) = cs12.map fun c => some (Fl.next, stB ⟨typed, line, dot c.1, d2, dot c.2.1, first, blk c.2.2, before⟩ s t [o0, o1, o2, o3] [w0, w1, w2, w3, w4])
theorem tB_0 : tBP 0 := by unfold tBP; intros; kernel_rfl
theorem tB_1 : tBP 1 := by unfold tBP; intros; kernel_rfl
theorem tB_2 : tBP 2 := by unfold tBP; intros; kernel_rfl
theorem tB_3 : tBP 3 := by unfold tBP; intros; kernel_rfl
theorem tB_4 : tBP 4 := by unfold tBP; intros; kernel_rfl
theorem tB_5 : tBP 5 := by unfold tBP; intros; kernel_rfl
theorem tB_6 : tBP 6 := by unfold tBP; intros; kernel_rfl
theorem tB_7 : tBP 7 := by unfold tBP; intros; kernel_rfl
theorem tB_8 : tBP 8 := by unfold tBP; intros; kernel_rfl
theorem tB_9 : tBP 9 := by unfold tBP; intros; kernel_rfl
theorem tB_10 : tBP 10 := by unfold tBP; intros; kernel_rfl
theorem tB_11 : tBP 11 := by unfold tBP; intros; kernel_rfl
theorem tB_12 : tBP 12 := by unfold tBP; intros; kernel_rfl
theorem tB_13 : tBP 13 := by unfold tBP; intros; kernel_rfl
theorem tB_14 : tBP 14 := by unfold tBP; intros; kernel_rfl
theorem tB_15 : tBP 15 := by unfold tBP; intros; kernel_rfl
theorem tB_16 : tBP 16 := by unfold tBP; intros; kernel_rfl
theorem tB_17 : tBP 17 := by unfold tBP; intros; kernel_rfl
theorem tB_18 : tBP 18 := by unfold tBP; intros; kernel_rfl
theorem tB_19 : tBP 19 := by unfold tBP; intros; kernel_rfl
theorem tB_20 : tBP 20 := by unfold tBP; intros; kernel_rfl
theorem tB_21 : tBP 21 := by unfold tBP; intros; kernel_rfl
theorem tB_22 : tBP 22 := by unfold tBP; intros; kernel_rfl
theorem tB_23 : tBP 23 := by unfold tBP; intros; kernel_rfl
theorem tB (t : Nat) (ht : t < 24) (typed line d2 before : List Nat) (a b : Bool) (first : Int) (k : Nat) (hk : k = 0 ∨ k = 1 ∨ k = 2) (s : Bs) (o0 o1 o2 o3 w0 w1 w2 w3 w4 : Int) : lawF_14b_6 (stB ⟨typed, line, dot a, d2, dot b, first, blk k, before⟩ s t [o0, o1, o2, o3] [w0, w1, w2, w3, w4]) = some (.next, stB ⟨typed, line, dot a, d2, dot b, first, blk k, before⟩ s t [o0, o1, o2, o3] [w0, w1, w2, w3, w4]) := by
  have h := of_map (upto24 (P := tBP) tB_0 tB_1 tB_2 tB_3 tB_4 tB_5 tB_6 tB_7 tB_8 tB_9 tB_10 tB_11 tB_12 tB_13 tB_14 tB_15 tB_16 tB_17 tB_18 tB_19 tB_20 tB_21 tB_22 tB_23 t ht typed line d2 before first s o0 o1 o2 o3 w0 w1 w2 w3 w4) (in12 a b hk)
  exact h
noncomputable def tCP (t : Nat) {α : Type} (l : List α) (mk : α → Bs) : Prop := ∀ (typed line d1 d2 d3 before ld : List Nat) (first : Int) (o0 o1 o2 o3 w0 w1 w2 w3 w4 : Int), (l.map fun c => lawF_14b_7 (stB ⟨typed, line, d1, d2, d3, first, ld, before⟩ (mk c) t [o0, o1, o2, o3] [w0, w1, w2, w3, w4])) = l.map fun c => some (Fl.next, stB ⟨typed, line, d1, d2, d3, first, ld, before⟩ (mk c) t (bump [o0, o1, o2, o3] (stepD (mk c) t) 1) [w0, w1, w2, w3, w4])
theorem tC_0 (xak xam xba xbm xka xkb xma xmb xmk : Bool) : tCP 0 (prodL bs1 (prodL bs1 bs1)) (fun c => ⟨c.1, xak, xam, xba, c.2.1, xbm, xka, xkb, c.2.2, xma, xmb, xmk⟩) := by unfold tCP; intros; kernel_rfl
theorem tC_1 (xak xam xba xbk xka xkb xkm xma xmb : Bool) : tCP 1 (prodL bs1 (prodL bs1 bs1)) (fun c => ⟨c.1, xak, xam, xba, xbk, c.2.1, xka, xkb, xkm, xma, xmb, c.2.2⟩) := by unfold tCP; intros; kernel_rfl
theorem tC_2 (xab xam xba xbk xka xkm xma xmb xmk : Bool) : tCP 2 (prodL bs1 (prodL bs1 bs1)) (fun c => ⟨xab, c.1, xam, xba, xbk, c.2.2, xka, c.2.1, xkm, xma, xmb, xmk⟩) := by unfold tCP; intros; kernel_rfl
theorem tC_3 (xab xam xba xbk xbm xka xkb xma xmk : Bool) : tCP 3 (prodL bs1 (prodL bs1 bs1)) (fun c => ⟨xab, c.1, xam, xba, xbk, xbm, xka, xkb, c.2.1, xma, c.2.2, xmk⟩) := by unfold tCP; intros; kernel_rfl
theorem tC_4 (xab xak xba xbm xka xkb xkm xma xmk : Bool) : tCP 4 (prodL bs1 (prodL bs1 bs1)) (fun c => ⟨xab, xak, c.1, xba, c.2.2, xbm, xka, xkb, xkm, xma, c.2.1, xmk⟩) := by unfold tCP; intros; kernel_rfl
theorem tC_5 (xab xak xba xbk xbm xka xkm xma xmb : Bool) : tCP 5 (prodL bs1 (prodL bs1 bs1)) (fun c => ⟨xab, xak, c.1, xba, xbk, xbm, xka, c.2.2, xkm, xma, xmb, c.2.1⟩) := by unfold tCP; intros; kernel_rfl
theorem tC_6 (xab xam xbk xbm xka xkb xma xmb xmk : Bool) : tCP 6 (prodL bs1 (prodL bs1 bs1)) (fun c => ⟨xab, c.2.1, xam, c.1, xbk, xbm, xka, xkb, c.2.2, xma, xmb, xmk⟩) := by unfold tCP; intros; kernel_rfl
theorem tC_7 (xab xak xbk xbm xka xkb xkm xma xmb : Bool) : tCP 7 (prodL bs1 (prodL bs1 bs1)) (fun c => ⟨xab, xak, c.2.1, c.1, xbk, xbm, xka, xkb, xkm, xma, xmb, c.2.2⟩) := by unfold tCP; intros; kernel_rfl
theorem tC_8 (xab xak xba xbm xkb xkm xma xmb xmk : Bool) : tCP 8 (prodL bs1 (prodL bs1 bs1)) (fun c => ⟨xab, xak, c.2.2, xba, c.1, xbm, c.2.1, xkb, xkm, xma, xmb, xmk⟩) := by unfold tCP; intros; kernel_rfl
theorem tC_9 (xab xak xam xba xbm xka xkb xmb xmk : Bool) : tCP 9 (prodL bs1 (prodL bs1 bs1)) (fun c => ⟨xab, xak, xam, xba, c.1, xbm, xka, xkb, c.2.1, c.2.2, xmb, xmk⟩) := by unfold tCP; intros; kernel_rfl
theorem tC_10 (xab xam xba xbk xka xkb xkm xmb xmk : Bool) : tCP 10 (prodL bs1 (prodL bs1 bs1)) (fun c => ⟨xab, c.2.2, xam, xba, xbk, c.1, xka, xkb, xkm, c.2.1, xmb, xmk⟩) := by unfold tCP; intros; kernel_rfl
theorem tC_11 (xab xak xam xba xbk xkb xkm xma xmb : Bool) : tCP 11 (prodL bs1 (prodL bs1 bs1)) (fun c => ⟨xab, xak, xam, xba, xbk, c.1, c.2.2, xkb, xkm, xma, xmb, c.2.1⟩) := by unfold tCP; intros; kernel_rfl
theorem tC_12 (xak xam xba xbk xkb xkm xma xmb xmk : Bool) : tCP 12 (prodL bs1 (prodL bs1 bs1)) (fun c => ⟨c.2.1, xak, xam, xba, xbk, c.2.2, c.1, xkb, xkm, xma, xmb, xmk⟩) := by unfold tCP; intros; kernel_rfl
theorem tC_13 (xab xak xba xbk xbm xkb xkm xma xmk : Bool) : tCP 13 (prodL bs1 (prodL bs1 bs1)) (fun c => ⟨xab, xak, c.2.1, xba, xbk, xbm, c.1, xkb, xkm, xma, c.2.2, xmk⟩) := by unfold tCP; intros; kernel_rfl
theorem tC_14 (xab xak xbk xbm xka xkm xma xmb xmk : Bool) : tCP 14 (prodL bs1 (prodL bs1 bs1)) (fun c => ⟨xab, xak, c.2.2, c.2.1, xbk, xbm, xka, c.1, xkm, xma, xmb, xmk⟩) := by unfold tCP; intros; kernel_rfl
theorem tC_15 (xab xak xam xba xbk xka xkm xmb xmk : Bool) : tCP 15 (prodL bs1 (prodL bs1 bs1)) (fun c => ⟨xab, xak, xam, xba, xbk, c.2.1, xka, c.1, xkm, c.2.2, xmb, xmk⟩) := by unfold tCP; intros; kernel_rfl
theorem tC_16 (xak xam xba xbk xbm xka xkb xmb xmk : Bool) : tCP 16 (prodL bs1 (prodL bs1 bs1)) (fun c => ⟨c.2.2, xak, xam, xba, xbk, xbm, xka, xkb, c.1, c.2.1, xmb, xmk⟩) := by unfold tCP; intros; kernel_rfl
theorem tC_17 (xab xak xam xbk xbm xka xkb xma xmk : Bool) : tCP 17 (prodL bs1 (prodL bs1 bs1)) (fun c => ⟨xab, xak, xam, c.2.2, xbk, xbm, xka, xkb, c.1, xma, c.2.1, xmk⟩) := by unfold tCP; intros; kernel_rfl
theorem tC_18 (xak xam xba xbm xka xkb xkm xmb xmk : Bool) : tCP 18 (prodL bs1 (prodL bs1 bs1)) (fun c => ⟨c.2.1, xak, xam, xba, c.2.2, xbm, xka, xkb, xkm, c.1, xmb, xmk⟩) := by unfold tCP; intros; kernel_rfl
theorem tC_19 (xab xam xba xbk xbm xka xkm xmb xmk : Bool) : tCP 19 (prodL bs1 (prodL bs1 bs1)) (fun c => ⟨xab, c.2.1, xam, xba, xbk, xbm, xka, c.2.2, xkm, c.1, xmb, xmk⟩) := by unfold tCP; intros; kernel_rfl
theorem tC_20 (xab xam xbk xbm xka xkb xkm xma xmk : Bool) : tCP 20 (prodL bs1 (prodL bs1 bs1)) (fun c => ⟨xab, c.2.2, xam, c.2.1, xbk, xbm, xka, xkb, xkm, xma, c.1, xmk⟩) := by unfold tCP; intros; kernel_rfl
theorem tC_21 (xab xak xam xba xbm xkb xkm xma xmk : Bool) : tCP 21 (prodL bs1 (prodL bs1 bs1)) (fun c => ⟨xab, xak, xam, xba, c.2.1, xbm, c.2.2, xkb, xkm, xma, c.1, xmk⟩) := by unfold tCP; intros; kernel_rfl
theorem tC_22 (xak xam xba xbk xbm xkb xkm xma xmb : Bool) : tCP 22 (prodL bs1 (prodL bs1 bs1)) (fun c => ⟨c.2.2, xak, xam, xba, xbk, xbm, c.2.1, xkb, xkm, xma, xmb, c.1⟩) := by unfold tCP; intros; kernel_rfl
theorem tC_23 (xab xak xam xbk xbm xka xkm xma xmb : Bool) : tCP 23 (prodL bs1 (prodL bs1 bs1)) (fun c => ⟨xab, xak, xam, c.2.2, xbk, xbm, xka, c.2.1, xkm, xma, xmb, c.1⟩) := by unfold tCP; intros; kernel_rfl
theorem tC (t : Nat) (ht : t < 24) (typed line d1 d2 d3 before ld : List Nat) (first : Int)(xab xak xam xba xbk xbm xka xkb xkm xma xmb xmk : Bool) (o0 o1 o2 o3 w0 w1 w2 w3 w4 : Int) : lawF_14b_7 (stB ⟨typed, line, d1, d2, d3, first, ld, before⟩ ⟨xab, xak, xam, xba, xbk, xbm, xka, xkb, xkm, xma, xmb, xmk⟩ t [o0, o1, o2, o3] [w0, w1, w2, w3, w4]) = some (.next, stB ⟨typed, line, d1, d2, d3, first, ld, before⟩ ⟨xab, xak, xam, xba, xbk, xbm, xka, xkb, xkm, xma, xmb, xmk⟩ t (bump [o0, o1, o2, o3] (stepD ⟨xab, xak, xam, xba, xbk, xbm, xka, xkb, xkm, xma, xmb, xmk⟩ t) 1) [w0, w1, w2, w3, w4]) :=
  upto24 (P := fun t => lawF_14b_7 (stB ⟨typed, line, d1, d2, d3, first, ld, before⟩ ⟨xab, xak, xam, xba, xbk, xbm, xka, xkb, xkm, xma, xmb, xmk⟩ t [o0, o1, o2, o3] [w0, w1, w2, w3, w4]) = some (.next, stB ⟨typed, line, d1, d2, d3, first, ld, before⟩ ⟨xab, xak, xam, xba, xbk, xbm, xka, xkb, xkm, xma, xmb, xmk⟩ t (bump [o0, o1, o2, o3] (stepD ⟨xab, xak, xam, xba, xbk, xbm, xka, xkb, xkm, xma, xmb, xmk⟩ t) 1) [w0, w1, w2, w3, w4]))
    (by have h := of_map (tC_0 xak xam xba xbm xka xkb xma xmb xmk typed line d1 d2 d3 before ld first o0 o1 o2 o3 w0 w1 w2 w3 w4) (in_prod (inB xab) (in_prod (inB xbk) (inB xkm))); exact h)
    (by have h := of_map (tC_1 xak xam xba xbk xka xkb xkm xma xmb typed line d1 d2 d3 before ld first o0 o1 o2 o3 w0 w1 w2 w3 w4) (in_prod (inB xab) (in_prod (inB xbm) (inB xmk))); exact h)
    (by have h := of_map (tC_2 xab xam xba xbk xka xkm xma xmb xmk typed line d1 d2 d3 before ld first o0 o1 o2 o3 w0 w1 w2 w3 w4) (in_prod (inB xak) (in_prod (inB xkb) (inB xbm))); exact h)
    (by have h := of_map (tC_3 xab xam xba xbk xbm xka xkb xma xmk typed line d1 d2 d3 before ld first o0 o1 o2 o3 w0 w1 w2 w3 w4) (in_prod (inB xak) (in_prod (inB xkm) (inB xmb))); exact h)
    (by have h := of_map (tC_4 xab xak xba xbm xka xkb xkm xma xmk typed line d1 d2 d3 before ld first o0 o1 o2 o3 w0 w1 w2 w3 w4) (in_prod (inB xam) (in_prod (inB xmb) (inB xbk))); exact h)
    (by have h := of_map (tC_5 xab xak xba xbk xbm xka xkm xma xmb typed line d1 d2 d3 before ld first o0 o1 o2 o3 w0 w1 w2 w3 w4) (in_prod (inB xam) (in_prod (inB xmk) (inB xkb))); exact h)
    (by have h := of_map (tC_6 xab xam xbk xbm xka xkb xma xmb xmk typed line d1 d2 d3 before ld first o0 o1 o2 o3 w0 w1 w2 w3 w4) (in_prod (inB xba) (in_prod (inB xak) (inB xkm))); exact h)
    (by have h := of_map (tC_7 xab xak xbk xbm xka xkb xkm xma xmb typed line d1 d2 d3 before ld first o0 o1 o2 o3 w0 w1 w2 w3 w4) (in_prod (inB xba) (in_prod (inB xam) (inB xmk))); exact h)
    (by have h := of_map (tC_8 xab xak xba xbm xkb xkm xma xmb xmk typed line d1 d2 d3 before ld first o0 o1 o2 o3 w0 w1 w2 w3 w4) (in_prod (inB xbk) (in_prod (inB xka) (inB xam))); exact h)
    (by have h := of_map (tC_9 xab xak xam xba xbm xka xkb xmb xmk typed line d1 d2 d3 before ld first o0 o1 o2 o3 w0 w1 w2 w3 w4) (in_prod (inB xbk) (in_prod (inB xkm) (inB xma))); exact h)
    (by have h := of_map (tC_10 xab xam xba xbk xka xkb xkm xmb xmk typed line d1 d2 d3 before ld first o0 o1 o2 o3 w0 w1 w2 w3 w4) (in_prod (inB xbm) (in_prod (inB xma) (inB xak))); exact h)
    (by have h := of_map (tC_11 xab xak xam xba xbk xkb xkm xma xmb typed line d1 d2 d3 before ld first o0 o1 o2 o3 w0 w1 w2 w3 w4) (in_prod (inB xbm) (in_prod (inB xmk) (inB xka))); exact h)
    (by have h := of_map (tC_12 xak xam xba xbk xkb xkm xma xmb xmk typed line d1 d2 d3 before ld first o0 o1 o2 o3 w0 w1 w2 w3 w4) (in_prod (inB xka) (in_prod (inB xab) (inB xbm))); exact h)
    (by have h := of_map (tC_13 xab xak xba xbk xbm xkb xkm xma xmk typed line d1 d2 d3 before ld first o0 o1 o2 o3 w0 w1 w2 w3 w4) (in_prod (inB xka) (in_prod (inB xam) (inB xmb))); exact h)
    (by have h := of_map (tC_14 xab xak xbk xbm xka xkm xma xmb xmk typed line d1 d2 d3 before ld first o0 o1 o2 o3 w0 w1 w2 w3 w4) (in_prod (inB xkb) (in_prod (inB xba) (inB xam))); exact h)
    (by have h := of_map (tC_15 xab xak xam xba xbk xka xkm xmb xmk typed line d1 d2 d3 before ld first o0 o1 o2 o3 w0 w1 w2 w3 w4) (in_prod (inB xkb) (in_prod (inB xbm) (inB xma))); exact h)
    (by have h := of_map (tC_16 xak xam xba xbk xbm xka xkb xmb xmk typed line d1 d2 d3 before ld first o0 o1 o2 o3 w0 w1 w2 w3 w4) (in_prod (inB xkm) (in_prod (inB xma) (inB xab))); exact h)
    (by have h := of_map (tC_17 xab xak xam xbk xbm xka xkb xma xmk typed line d1 d2 d3 before ld first o0 o1 o2 o3 w0 w1 w2 w3 w4) (in_prod (inB xkm) (in_prod (inB xmb) (inB xba))); exact h)
    (by have h := of_map (tC_18 xak xam xba xbm xka xkb xkm xmb xmk typed line d1 d2 d3 before ld first o0 o1 o2 o3 w0 w1 w2 w3 w4) (in_prod (inB xma) (in_prod (inB xab) (inB xbk))); exact h)
    (by have h := of_map (tC_19 xab xam xba xbk xbm xka xkm xmb xmk typed line d1 d2 d3 before ld first o0 o1 o2 o3 w0 w1 w2 w3 w4) (in_prod (inB xma) (in_prod (inB xak) (inB xkb))); exact h)
    (by have h := of_map (tC_20 xab xam xbk xbm xka xkb xkm xma xmk typed line d1 d2 d3 before ld first o0 o1 o2 o3 w0 w1 w2 w3 w4) (in_prod (inB xmb) (in_prod (inB xba) (inB xak))); exact h)
    (by have h := of_map (tC_21 xab xak xam xba xbm xkb xkm xma xmk typed line d1 d2 d3 before ld first o0 o1 o2 o3 w0 w1 w2 w3 w4) (in_prod (inB xmb) (in_prod (inB xbk) (inB xka))); exact h)
    (by have h := of_map (tC_22 xak xam xba xbk xbm xkb xkm xma xmb typed line d1 d2 d3 before ld first o0 o1 o2 o3 w0 w1 w2 w3 w4) (in_prod (inB xmk) (in_prod (inB xka) (inB xab))); exact h)
    (by have h := of_map (tC_23 xab xak xam xbk xbm xka xkm xma xmb typed line d1 d2 d3 before ld first o0 o1 o2 o3 w0 w1 w2 w3 w4) (in_prod (inB xmk) (in_prod (inB xkb) (inB xba))); exact h)
    t ht
noncomputable def tDP (t : Nat) : Prop := ∀ (typed line d1 d2 d3 before ld : List Nat) (first : Int)(s : Bs) (o0 o1 o2 o3 w0 w1 w2 w3 w4 : Int), seqs [lawF_14b_8, lawF_14b_9, lawF_14b_10] (stB ⟨typed, line, d1, d2, d3, first, ld, before⟩ s t [o0, o1, o2, o3] [w0, w1, w2, w3, w4]) = some (Fl.next, stD ⟨typed, line, d1, d2, d3, first, ld, before⟩ s t [o0, o1, o2, o3] [w0, w1, w2, w3, w4])
theorem tD_0 : tDP 0 := by unfold tDP; intros; kernel_rfl
theorem tD_1 : tDP 1 := by unfold tDP; intros; kernel_rfl
theorem tD_2 : tDP 2 := by unfold tDP; intros; kernel_rfl
theorem tD_3 : tDP 3 := by unfold tDP; intros; kernel_rfl
theorem tD_4 : tDP 4 := by unfold tDP; intros; kernel_rfl
theorem tD_5 : tDP 5 := by unfold tDP; intros; kernel_rfl
theorem tD_6 : tDP 6 := by unfold tDP; intros; kernel_rfl
theorem tD_7 : tDP 7 := by unfold tDP; intros; kernel_rfl
theorem tD_8 : tDP 8 := by unfold tDP; intros; kernel_rfl
theorem tD_9 : tDP 9 := by unfold tDP; intros; kernel_rfl
theorem tD_10 : tDP 10 := by unfold tDP; intros; kernel_rfl
theorem tD_11 : tDP 11 := by unfold tDP; intros; kernel_rfl
theorem tD_12 : tDP 12 := by unfold tDP; intros; kernel_rfl
theorem tD_13 : tDP 13 := by unfold tDP; intros; kernel_rfl
theorem tD_14 : tDP 14 := by unfold tDP; intros; kernel_rfl
theorem tD_15 : tDP 15 := by unfold tDP; intros; kernel_rfl
theorem tD_16 : tDP 16 := by unfold tDP; intros; kernel_rfl
theorem tD_17 : tDP 17 := by unfold tDP; intros; kernel_rfl
theorem tD_18 : tDP 18 := by unfold tDP; intros; kernel_rfl
theorem tD_19 : tDP 19 := by unfold tDP; intros; kernel_rfl
theorem tD_20 : tDP 20 := by unfold tDP; intros; kernel_rfl
theorem tD_21 : tDP 21 := by unfold tDP; intros; kernel_rfl
theorem tD_22 : tDP 22 := by unfold tDP; intros; kernel_rfl
theorem tD_23 : tDP 23 := by unfold tDP; intros; kernel_rfl
theorem tD (t : Nat) (ht : t < 24) (typed line d1 d2 d3 before ld : List Nat) (first : Int)(s : Bs) (o0 o1 o2 o3 w0 w1 w2 w3 w4 : Int) : seqs [lawF_14b_8, lawF_14b_9, lawF_14b_10] (stB ⟨typed, line, d1, d2, d3, first, ld, before⟩ s t [o0, o1, o2, o3] [w0, w1, w2, w3, w4]) = some (.next, stD ⟨typed, line, d1, d2, d3, first, ld, before⟩ s t [o0, o1, o2, o3] [w0, w1, w2, w3, w4]) := upto24 (P := tDP) tD_0 tD_1 tD_2 tD_3 tD_4 tD_5 tD_6 tD_7 tD_8 tD_9 tD_10 tD_11 tD_12 tD_13 tD_14 tD_15 tD_16 tD_17 tD_18 tD_19 tD_20 tD_21 tD_22 tD_23 t ht typed line d1 d2 d3 before ld first s o0 o1 o2 o3 w0 w1 w2 w3 w4
noncomputable def tEP (t : Nat) {α : Type} (l : List α) (mk : α → Bs) : Prop := ∀ (typed line d1 d2 d3 before ld : List Nat) (first : Int) (o0 o1 o2 o3 w0 w1 w2 w3 w4 : Int), (l.map fun c => seqs [lawF_14b_11, lawF_14b_12] (stD ⟨typed, line, d1, d2, d3, first, ld, before⟩ (mk c) t [o0, o1, o2, o3] [w0, w1, w2, w3, w4])) = l.map fun c => some (Fl.next, stE ⟨typed, line, d1, d2, d3, first, ld, before⟩ (mk c) t (weightOf (mk c) t) [o0, o1, o2, o3] (bump [w0, w1, w2, w3, w4] (ringT t).length (weightOf (mk c) t)))
theorem tE_0 (xab xak xam xba xbk xbm xka xkb xkm xma xmb xmk : Bool) : tEP 0 [()] (fun _ => ⟨xab, xak, xam, xba, xbk, xbm, xka, xkb, xkm, xma, xmb, xmk⟩) := by unfold tEP; intros; kernel_rfl
theorem tE_1 (xab xak xam xba xbk xbm xka xkb xma xmb : Bool) : tEP 1 (prodL bs1 bs1) (fun c => ⟨xab, xak, xam, xba, xbk, xbm, xka, xkb, c.1, xma, xmb, c.2⟩) := by unfold tEP; intros; kernel_rfl
theorem tE_2 (xab xak xam xba xbm xka xkm xma xmb xmk : Bool) : tEP 2 (prodL bs1 bs1) (fun c => ⟨xab, xak, xam, xba, c.1, xbm, xka, c.2, xkm, xma, xmb, xmk⟩) := by unfold tEP; intros; kernel_rfl
theorem tE_3 (xab xak xam xba xbk xka xkb xkm xma xmk : Bool) : tEP 3 (prodL bs1 bs1) (fun c => ⟨xab, xak, xam, xba, xbk, c.1, xka, xkb, xkm, xma, c.2, xmk⟩) := by unfold tEP; intros; kernel_rfl
theorem tE_4 (xab xak xam xba xbm xka xkb xma xmk : Bool) : tEP 4 (prodL bs1 (prodL bs1 bs1)) (fun c => ⟨xab, xak, xam, xba, c.2.2, xbm, xka, xkb, c.1, xma, c.2.1, xmk⟩) := by unfold tEP; intros; kernel_rfl
theorem tE_5 (xab xak xam xba xbk xka xkm xma xmb : Bool) : tEP 5 (prodL bs1 (prodL bs1 bs1)) (fun c => ⟨xab, xak, xam, xba, xbk, c.1, xka, c.2.2, xkm, xma, xmb, c.2.1⟩) := by unfold tEP; intros; kernel_rfl
theorem tE_6 (xak xam xbk xbm xka xkb xkm xma xmb xmk : Bool) : tEP 6 (prodL bs1 bs1) (fun c => ⟨c.1, xak, xam, c.2, xbk, xbm, xka, xkb, xkm, xma, xmb, xmk⟩) := by unfold tEP; intros; kernel_rfl
theorem tE_7 (xak xam xbk xbm xka xkb xma xmb : Bool) : tEP 7 (prodL bs1 (prodL bs1 (prodL bs1 bs1))) (fun c => ⟨c.1, xak, xam, c.2.1, xbk, xbm, xka, xkb, c.2.2.1, xma, xmb, c.2.2.2⟩) := by unfold tEP; intros; kernel_rfl
theorem tE_8 (xab xam xba xbk xbm xkb xkm xma xmb xmk : Bool) : tEP 8 (prodL bs1 bs1) (fun c => ⟨xab, c.1, xam, xba, xbk, xbm, c.2, xkb, xkm, xma, xmb, xmk⟩) := by unfold tEP; intros; kernel_rfl
theorem tE_9 (xab xak xba xbk xbm xka xkb xkm xmb xmk : Bool) : tEP 9 (prodL bs1 bs1) (fun c => ⟨xab, xak, c.1, xba, xbk, xbm, xka, xkb, xkm, c.2, xmb, xmk⟩) := by unfold tEP; intros; kernel_rfl
theorem tE_10 (xab xam xba xbk xbm xka xkb xmb xmk : Bool) : tEP 10 (prodL bs1 (prodL bs1 bs1)) (fun c => ⟨xab, c.2.2, xam, xba, xbk, xbm, xka, xkb, c.1, c.2.1, xmb, xmk⟩) := by unfold tEP; intros; kernel_rfl
theorem tE_11 (xab xak xba xbk xbm xkb xkm xma xmb : Bool) : tEP 11 (prodL bs1 (prodL bs1 bs1)) (fun c => ⟨xab, xak, c.1, xba, xbk, xbm, c.2.2, xkb, xkm, xma, xmb, c.2.1⟩) := by unfold tEP; intros; kernel_rfl
theorem tE_12 (xak xam xba xbm xkb xkm xma xmb xmk : Bool) : tEP 12 (prodL bs1 (prodL bs1 bs1)) (fun c => ⟨c.2.2, xak, xam, xba, c.1, xbm, c.2.1, xkb, xkm, xma, xmb, xmk⟩) := by unfold tEP; intros; kernel_rfl
theorem tE_13 (xab xam xba xbk xkb xkm xma xmk : Bool) : tEP 13 (prodL bs1 (prodL bs1 (prodL bs1 bs1))) (fun c => ⟨xab, c.1, xam, xba, xbk, c.2.2.1, c.2.1, xkb, xkm, xma, c.2.2.2, xmk⟩) := by unfold tEP; intros; kernel_rfl
theorem tE_14 (xab xam xbk xbm xka xkm xma xmb xmk : Bool) : tEP 14 (prodL bs1 (prodL bs1 bs1)) (fun c => ⟨xab, c.1, xam, c.2.2, xbk, xbm, xka, c.2.1, xkm, xma, xmb, xmk⟩) := by unfold tEP; intros; kernel_rfl
theorem tE_15 (xab xak xba xbm xka xkm xmb xmk : Bool) : tEP 15 (prodL bs1 (prodL bs1 (prodL bs1 bs1))) (fun c => ⟨xab, xak, c.2.2.1, xba, c.1, xbm, xka, c.2.1, xkm, c.2.2.2, xmb, xmk⟩) := by unfold tEP; intros; kernel_rfl
theorem tE_16 (xak xam xba xbk xka xkb xkm xmb xmk : Bool) : tEP 16 (prodL bs1 (prodL bs1 bs1)) (fun c => ⟨c.2.2, xak, xam, xba, xbk, c.1, xka, xkb, xkm, c.2.1, xmb, xmk⟩) := by unfold tEP; intros; kernel_rfl
theorem tE_17 (xab xak xbk xbm xka xkb xkm xma xmk : Bool) : tEP 17 (prodL bs1 (prodL bs1 bs1)) (fun c => ⟨xab, xak, c.1, c.2.2, xbk, xbm, xka, xkb, xkm, xma, c.2.1, xmk⟩) := by unfold tEP; intros; kernel_rfl
theorem tE_18 (xak xam xba xbm xka xkb xmb xmk : Bool) : tEP 18 (prodL bs1 (prodL bs1 (prodL bs1 bs1))) (fun c => ⟨c.2.2.1, xak, xam, xba, c.2.2.2, xbm, xka, xkb, c.1, c.2.1, xmb, xmk⟩) := by unfold tEP; intros; kernel_rfl
theorem tE_19 (xab xam xba xbk xka xkm xmb xmk : Bool) : tEP 19 (prodL bs1 (prodL bs1 (prodL bs1 bs1))) (fun c => ⟨xab, c.2.2.1, xam, xba, xbk, c.1, xka, c.2.2.2, xkm, c.2.1, xmb, xmk⟩) := by unfold tEP; intros; kernel_rfl
theorem tE_20 (xab xam xbk xbm xka xkb xma xmk : Bool) : tEP 20 (prodL bs1 (prodL bs1 (prodL bs1 bs1))) (fun c => ⟨xab, c.2.2.2, xam, c.2.2.1, xbk, xbm, xka, xkb, c.1, xma, c.2.1, xmk⟩) := by unfold tEP; intros; kernel_rfl
theorem tE_21 (xab xak xba xbm xkb xkm xma xmk : Bool) : tEP 21 (prodL bs1 (prodL bs1 (prodL bs1 bs1))) (fun c => ⟨xab, xak, c.1, xba, c.2.2.1, xbm, c.2.2.2, xkb, xkm, xma, c.2.1, xmk⟩) := by unfold tEP; intros; kernel_rfl
theorem tE_22 (xak xam xba xbk xkb xkm xma xmb : Bool) : tEP 22 (prodL bs1 (prodL bs1 (prodL bs1 bs1))) (fun c => ⟨c.2.2.2, xak, xam, xba, xbk, c.1, c.2.2.1, xkb, xkm, xma, xmb, c.2.1⟩) := by unfold tEP; intros; kernel_rfl
theorem tE_23 (xab xak xbk xbm xka xkm xma xmb : Bool) : tEP 23 (prodL bs1 (prodL bs1 (prodL bs1 bs1))) (fun c => ⟨xab, xak, c.1, c.2.2.2, xbk, xbm, xka, c.2.2.1, xkm, xma, xmb, c.2.1⟩) := by unfold tEP; intros; kernel_rfl
theorem tE (t : Nat) (ht : t < 24) (typed line d1 d2 d3 before ld : List Nat) (first : Int)(xab xak xam xba xbk xbm xka xkb xkm xma xmb xmk : Bool) (o0 o1 o2 o3 w0 w1 w2 w3 w4 : Int) : seqs [lawF_14b_11, lawF_14b_12] (stD ⟨typed, line, d1, d2, d3, first, ld, before⟩ ⟨xab, xak, xam, xba, xbk, xbm, xka, xkb, xkm, xma, xmb, xmk⟩ t [o0, o1, o2, o3] [w0, w1, w2, w3, w4]) = some (.next, stE ⟨typed, line, d1, d2, d3, first, ld, before⟩ ⟨xab, xak, xam, xba, xbk, xbm, xka, xkb, xkm, xma, xmb, xmk⟩ t (weightOf ⟨xab, xak, xam, xba, xbk, xbm, xka, xkb, xkm, xma, xmb, xmk⟩ t) [o0, o1, o2, o3] (bump [w0, w1, w2, w3, w4] (ringT t).length (weightOf ⟨xab, xak, xam, xba, xbk, xbm, xka, xkb, xkm, xma, xmb, xmk⟩ t))) :=
  upto24 (P := fun t => seqs [lawF_14b_11, lawF_14b_12] (stD ⟨typed, line, d1, d2, d3, first, ld, before⟩ ⟨xab, xak, xam, xba, xbk, xbm, xka, xkb, xkm, xma, xmb, xmk⟩ t [o0, o1, o2, o3] [w0, w1, w2, w3, w4]) = some (.next, stE ⟨typed, line, d1, d2, d3, first, ld, before⟩ ⟨xab, xak, xam, xba, xbk, xbm, xka, xkb, xkm, xma, xmb, xmk⟩ t (weightOf ⟨xab, xak, xam, xba, xbk, xbm, xka, xkb, xkm, xma, xmb, xmk⟩ t) [o0, o1, o2, o3] (bump [w0, w1, w2, w3, w4] (ringT t).length (weightOf ⟨xab, xak, xam, xba, xbk, xbm, xka, xkb, xkm, xma, xmb, xmk⟩ t))))
    (by have h := of_map (tE_0 xab xak xam xba xbk xbm xka xkb xkm xma xmb xmk typed line d1 d2 d3 before ld first o0 o1 o2 o3 w0 w1 w2 w3 w4) (List.mem_singleton.mpr rfl); exact h)
    (by have h := of_map (tE_1 xab xak xam xba xbk xbm xka xkb xma xmb typed line d1 d2 d3 before ld first o0 o1 o2 o3 w0 w1 w2 w3 w4) (in_prod (inB xkm) (inB xmk)); exact h)
    (by have h := of_map (tE_2 xab xak xam xba xbm xka xkm xma xmb xmk typed line d1 d2 d3 before ld first o0 o1 o2 o3 w0 w1 w2 w3 w4) (in_prod (inB xbk) (inB xkb)); exact h)
    (by have h := of_map (tE_3 xab xak xam xba xbk xka xkb xkm xma xmk typed line d1 d2 d3 before ld first o0 o1 o2 o3 w0 w1 w2 w3 w4) (in_prod (inB xbm) (inB xmb)); exact h)
    (by have h := of_map (tE_4 xab xak xam xba xbm xka xkb xma xmk typed line d1 d2 d3 before ld first o0 o1 o2 o3 w0 w1 w2 w3 w4) (in_prod (inB xkm) (in_prod (inB xmb) (inB xbk))); exact h)
    (by have h := of_map (tE_5 xab xak xam xba xbk xka xkm xma xmb typed line d1 d2 d3 before ld first o0 o1 o2 o3 w0 w1 w2 w3 w4) (in_prod (inB xbm) (in_prod (inB xmk) (inB xkb))); exact h)
    (by have h := of_map (tE_6 xak xam xbk xbm xka xkb xkm xma xmb xmk typed line d1 d2 d3 before ld first o0 o1 o2 o3 w0 w1 w2 w3 w4) (in_prod (inB xab) (inB xba)); exact h)
    (by have h := of_map (tE_7 xak xam xbk xbm xka xkb xma xmb typed line d1 d2 d3 before ld first o0 o1 o2 o3 w0 w1 w2 w3 w4) (in_prod (inB xab) (in_prod (inB xba) (in_prod (inB xkm) (inB xmk)))); exact h)
    (by have h := of_map (tE_8 xab xam xba xbk xbm xkb xkm xma xmb xmk typed line d1 d2 d3 before ld first o0 o1 o2 o3 w0 w1 w2 w3 w4) (in_prod (inB xak) (inB xka)); exact h)
    (by have h := of_map (tE_9 xab xak xba xbk xbm xka xkb xkm xmb xmk typed line d1 d2 d3 before ld first o0 o1 o2 o3 w0 w1 w2 w3 w4) (in_prod (inB xam) (inB xma)); exact h)
    (by have h := of_map (tE_10 xab xam xba xbk xbm xka xkb xmb xmk typed line d1 d2 d3 before ld first o0 o1 o2 o3 w0 w1 w2 w3 w4) (in_prod (inB xkm) (in_prod (inB xma) (inB xak))); exact h)
    (by have h := of_map (tE_11 xab xak xba xbk xbm xkb xkm xma xmb typed line d1 d2 d3 before ld first o0 o1 o2 o3 w0 w1 w2 w3 w4) (in_prod (inB xam) (in_prod (inB xmk) (inB xka))); exact h)
    (by have h := of_map (tE_12 xak xam xba xbm xkb xkm xma xmb xmk typed line d1 d2 d3 before ld first o0 o1 o2 o3 w0 w1 w2 w3 w4) (in_prod (inB xbk) (in_prod (inB xka) (inB xab))); exact h)
    (by have h := of_map (tE_13 xab xam xba xbk xkb xkm xma xmk typed line d1 d2 d3 before ld first o0 o1 o2 o3 w0 w1 w2 w3 w4) (in_prod (inB xak) (in_prod (inB xka) (in_prod (inB xbm) (inB xmb)))); exact h)
    (by have h := of_map (tE_14 xab xam xbk xbm xka xkm xma xmb xmk typed line d1 d2 d3 before ld first o0 o1 o2 o3 w0 w1 w2 w3 w4) (in_prod (inB xak) (in_prod (inB xkb) (inB xba))); exact h)
    (by have h := of_map (tE_15 xab xak xba xbm xka xkm xmb xmk typed line d1 d2 d3 before ld first o0 o1 o2 o3 w0 w1 w2 w3 w4) (in_prod (inB xbk) (in_prod (inB xkb) (in_prod (inB xam) (inB xma)))); exact h)
    (by have h := of_map (tE_16 xak xam xba xbk xka xkb xkm xmb xmk typed line d1 d2 d3 before ld first o0 o1 o2 o3 w0 w1 w2 w3 w4) (in_prod (inB xbm) (in_prod (inB xma) (inB xab))); exact h)
    (by have h := of_map (tE_17 xab xak xbk xbm xka xkb xkm xma xmk typed line d1 d2 d3 before ld first o0 o1 o2 o3 w0 w1 w2 w3 w4) (in_prod (inB xam) (in_prod (inB xmb) (inB xba))); exact h)
    (by have h := of_map (tE_18 xak xam xba xbm xka xkb xmb xmk typed line d1 d2 d3 before ld first o0 o1 o2 o3 w0 w1 w2 w3 w4) (in_prod (inB xkm) (in_prod (inB xma) (in_prod (inB xab) (inB xbk)))); exact h)
    (by have h := of_map (tE_19 xab xam xba xbk xka xkm xmb xmk typed line d1 d2 d3 before ld first o0 o1 o2 o3 w0 w1 w2 w3 w4) (in_prod (inB xbm) (in_prod (inB xma) (in_prod (inB xak) (inB xkb)))); exact h)
    (by have h := of_map (tE_20 xab xam xbk xbm xka xkb xma xmk typed line d1 d2 d3 before ld first o0 o1 o2 o3 w0 w1 w2 w3 w4) (in_prod (inB xkm) (in_prod (inB xmb) (in_prod (inB xba) (inB xak)))); exact h)
    (by have h := of_map (tE_21 xab xak xba xbm xkb xkm xma xmk typed line d1 d2 d3 before ld first o0 o1 o2 o3 w0 w1 w2 w3 w4) (in_prod (inB xam) (in_prod (inB xmb) (in_prod (inB xbk) (inB xka)))); exact h)
    (by have h := of_map (tE_22 xak xam xba xbk xkb xkm xma xmb typed line d1 d2 d3 before ld first o0 o1 o2 o3 w0 w1 w2 w3 w4) (in_prod (inB xbm) (in_prod (inB xmk) (in_prod (inB xka) (inB xab)))); exact h)
    (by have h := of_map (tE_23 xab xak xbk xbm xka xkm xma xmb typed line d1 d2 d3 before ld first o0 o1 o2 o3 w0 w1 w2 w3 w4) (in_prod (inB xam) (in_prod (inB xmk) (in_prod (inB xkb) (inB xba)))); exact h)
    t ht
noncomputable def tGP (t : Nat) : Prop := ∀ (typed line d1 d2 d3 before : List Nat) (first : Int) (s : Bs) (x : Int) (o0 o1 o2 o3 w0 w1 w2 w3 w4 : Int), (cs3.map fun c => seqs [lawF_14b_13, lawF_14b_14, lawF_14b_15] (stE ⟨typed, line, d1, d2, d3, first, blk c, before⟩ s t x [o0, o1, o2, o3] [w0, w1, w2, w3, w4])) = cs3.map fun c => some (Fl.next, stG ⟨typed, line, d1, d2, d3, first, blk c, before⟩ s t x [o0, o1, o2, o3] [w0, w1, w2, w3, w4])
theorem tG_0 : tGP 0 := by unfold tGP; intros; kernel_rfl
theorem tG_1 : tGP 1 := by unfold tGP; intros; kernel_rfl
theorem tG_2 : tGP 2 := by unfold tGP; intros; kernel_rfl
theorem tG_3 : tGP 3 := by unfold tGP; intros; kernel_rfl
theorem tG_4 : tGP 4 := by unfold tGP; intros; kernel_rfl
theorem tG_5 : tGP 5 := by unfold tGP; intros; kernel_rfl
theorem tG_6 : tGP 6 := by unfold tGP; intros; kernel_rfl
theorem tG_7 : tGP 7 := by unfold tGP; intros; kernel_rfl
theorem tG_8 : tGP 8 := by unfold tGP; intros; kernel_rfl
theorem tG_9 : tGP 9 := by unfold tGP; intros; kernel_rfl
theorem tG_10 : tGP 10 := by unfold tGP; intros; kernel_rfl
theorem tG_11 : tGP 11 := by unfold tGP; intros; kernel_rfl
theorem tG_12 : tGP 12 := by unfold tGP; intros; kernel_rfl
theorem tG_13 : tGP 13 := by unfold tGP; intros; kernel_rfl
theorem tG_14 : tGP 14 := by unfold tGP; intros; kernel_rfl
theorem tG_15 : tGP 15 := by unfold tGP; intros; kernel_rfl
theorem tG_16 : tGP 16 := by unfold tGP; intros; kernel_rfl
theorem tG_17 : tGP 17 := by unfold tGP; intros; kernel_rfl
theorem tG_18 : tGP 18 := by unfold tGP; intros; kernel_rfl
theorem tG_19 : tGP 19 := by unfold tGP; intros; kernel_rfl
theorem tG_20 : tGP 20 := by unfold tGP; intros; kernel_rfl
theorem tG_21 : tGP 21 := by unfold tGP; intros; kernel_rfl
theorem tG_22 : tGP 22 := by unfold tGP; intros; kernel_rfl
theorem tG_23 : tGP 23 := by unfold tGP; intros; kernel_rfl
theorem tG (t : Nat) (ht : t < 24) (typed line d1 d2 d3 before : List Nat) (first : Int) (k : Nat) (hk : k = 0 ∨ k = 1 ∨ k = 2) (s : Bs) (x : Int) (o0 o1 o2 o3 w0 w1 w2 w3 w4 : Int) : seqs [lawF_14b_13, lawF_14b_14, lawF_14b_15] (stE ⟨typed, line, d1, d2, d3, first, blk k, before⟩ s t x [o0, o1, o2, o3] [w0, w1, w2, w3, w4]) = some (.next, stG ⟨typed, line, d1, d2, d3, first, blk k, before⟩ s t x [o0, o1, o2, o3] [w0, w1, w2, w3, w4]) := by
  have h := of_map (upto24 (P := tGP) tG_0 tG_1 tG_2 tG_3 tG_4 tG_5 tG_6 tG_7 tG_8 tG_9 tG_10 tG_11 tG_12 tG_13 tG_14 tG_15 tG_16 tG_17 tG_18 tG_19 tG_20 tG_21 tG_22 tG_23 t ht typed line d1 d2 d3 before first s x o0 o1 o2 o3 w0 w1 w2 w3 w4) (in3 hk)
  exact h
noncomputable def tHP (t : Nat) : Prop := ∀ (typed line d1 d2 d3 before ld : List Nat) (first : Int)(s : Bs) (x : Int) (o0 o1 o2 o3 w0 w1 w2 w3 w4 : Int), ffinC drT 11 (stG ⟨typed, line, d1, d2, d3, first, ld, before⟩ s t x [o0, o1, o2, o3] [w0, w1, w2, w3, w4]) = some (stQ ⟨typed, line, d1, d2, d3, first, ld, before⟩ s (t + 1) [o0, o1, o2, o3] [w0, w1, w2, w3, w4])
theorem tH_0 : tHP 0 := by unfold tHP; intros; kernel_rfl
theorem tH_1 : tHP 1 := by unfold tHP; intros; kernel_rfl
theorem tH_2 : tHP 2 := by unfold tHP; intros; kernel_rfl
theorem tH_3 : tHP 3 := by unfold tHP; intros; kernel_rfl
theorem tH_4 : tHP 4 := by unfold tHP; intros; kernel_rfl
theorem tH_5 : tHP 5 := by unfold tHP; intros; kernel_rfl
theorem tH_6 : tHP 6 := by unfold tHP; intros; kernel_rfl
theorem tH_7 : tHP 7 := by unfold tHP; intros; kernel_rfl
theorem tH_8 : tHP 8 := by unfold tHP; intros; kernel_rfl
theorem tH_9 : tHP 9 := by unfold tHP; intros; kernel_rfl
theorem tH_10 : tHP 10 := by unfold tHP; intros; kernel_rfl
theorem tH_11 : tHP 11 := by unfold tHP; intros; kernel_rfl
theorem tH_12 : tHP 12 := by unfold tHP; intros; kernel_rfl
theorem tH_13 : tHP 13 := by unfold tHP; intros; kernel_rfl
theorem tH_14 : tHP 14 := by unfold tHP; intros; kernel_rfl
theorem tH_15 : tHP 15 := by unfold tHP; intros; kernel_rfl
theorem tH_16 : tHP 16 := by unfold tHP; intros; kernel_rfl
theorem tH_17 : tHP 17 := by unfold tHP; intros; kernel_rfl
theorem tH_18 : tHP 18 := by unfold tHP; intros; kernel_rfl
theorem tH_19 : tHP 19 := by unfold tHP; intros; kernel_rfl
theorem tH_20 : tHP 20 := by unfold tHP; intros; kernel_rfl
theorem tH_21 : tHP 21 := by unfold tHP; intros; kernel_rfl
theorem tH_22 : tHP 22 := by unfold tHP; intros; kernel_rfl
theorem tH_23 : tHP 23 := by unfold tHP; intros; kernel_rfl
theorem tH (t : Nat) (ht : t < 24) (typed line d1 d2 d3 before ld : List Nat) (first : Int)(s : Bs) (x : Int) (o0 o1 o2 o3 w0 w1 w2 w3 w4 : Int) : ffinC drT 11 (stG ⟨typed, line, d1, d2, d3, first, ld, before⟩ s t x [o0, o1, o2, o3] [w0, w1, w2, w3, w4]) = some (stQ ⟨typed, line, d1, d2, d3, first, ld, before⟩ s (t + 1) [o0, o1, o2, o3] [w0, w1, w2, w3, w4]) := upto24 (P := tHP) tH_0 tH_1 tH_2 tH_3 tH_4 tH_5 tH_6 tH_7 tH_8 tH_9 tH_10 tH_11 tH_12 tH_13 tH_14 tH_15 tH_16 tH_17 tH_18 tH_19 tH_20 tH_21 tH_22 tH_23 t ht typed line d1 d2 d3 before ld first s x o0 o1 o2 o3 w0 w1 w2 w3 w4
end Mine
end
section
open PySem PySem.W PyProof.Rows PySem.Calls
namespace Mine
noncomputable def oAt (s : Bs) : Nat → List Int
  | 0 => [0, 0, 0, 0]
  | t + 1 => bump (oAt s t) (stepD s t) 1
noncomputable def wAt (s : Bs) : Nat → List Int
  | 0 => [0, 0, 0, 0, 0]
  | t + 1 => bump (wAt s t) (ringT t).length (weightOf s t)
noncomputable def dotI (l v : List Int) : Int := (List.zipWith (· * ·) l v).sum
theorem bump_len (l : List Int) (k : Nat) (x : Int) : (bump l k x).length = l.length := by simp [bump]
theorem oAt_len (s : Bs) : ∀ t, (oAt s t).length = 4
  | 0 => rfl
  | t + 1 => by rw [oAt, bump_len, oAt_len s t]
theorem wAt_len (s : Bs) : ∀ t, (wAt s t).length = 5
  | 0 => rfl
  | t + 1 => by rw [wAt, bump_len, wAt_len s t]
theorem dot_bump : ∀ (l v : List Int) (k : Nat) (x : Int), l.length = v.length → k < l.length → dotI (bump l k x) v = dotI l v + x * v.getD k 0
  | a :: l, b :: v, 0, x, _, _ => by
    simp only [bump, dotI, List.modify_zero_cons, List.zipWith_cons_cons, List.sum_cons, List.getD_cons_zero, Int.add_mul]
    omega
  | a :: l, b :: v, k + 1, x, h, hk => by
    have ih := dot_bump l v k x (by simpa using h) (by simpa using hk)
    simp only [bump, dotI, List.modify_succ_cons, List.zipWith_cons_cons, List.sum_cons, List.getD_cons_succ] at ih ⊢
    omega
  | [], _, _, _, _, hk => by simp at hk
  | _ :: _, [], _, _, h, _ => by simp at h
theorem p3_lt (x y z : Bool) : p3 x y z < 4 := by cases x <;> cases y <;> cases z <;> decide
theorem dT_lt (s : Bs) (t : Nat) : stepD s t < 4 := by
  unfold stepD
  rw [List.getD_eq_getElem?_getD]
  cases h : (dT s)[t]? with
  | none => decide
  | some d =>
    have : d ∈ dT s := List.mem_of_getElem? h
    have hall : ∀ d ∈ dT s, d < 4 := by
      unfold dT
      repeat refine List.forall_mem_cons.mpr ⟨p3_lt _ _ _, ?_⟩
      exact fun d h => absurd h List.not_mem_nil
    simpa using hall d this
noncomputable def ways (m d : Nat) : Nat := (m + 3 - d) * (m + 2 - d) * (m + 1 - d) * (m - d) / 24
noncomputable def waysL (m : Nat) : List Int := [(ways m 0 : Int), (ways m 1 : Int), (ways m 2 : Int), (ways m 3 : Int)]
noncomputable def powL (m : Nat) : List Int := [((m ^ 0 : Nat) : Int), ((m ^ 1 : Nat) : Int), ((m ^ 2 : Nat) : Int), ((m ^ 3 : Nat) : Int), ((m ^ 4 : Nat) : Int)]
theorem dot_oAt (s : Bs) (m : Nat) : ∀ t, dotI (oAt s t) (waysL m) = ((((List.range t).map fun t => ways m (stepD s t)).sum : Nat) : Int)
  | 0 => by simp [oAt, dotI, waysL]
  | t + 1 => by
    rw [oAt, dot_bump _ _ _ _ (by rw [oAt_len]; rfl) (by rw [oAt_len]; exact dT_lt s t), dot_oAt s m t, List.range_succ, List.map_append, List.sum_append]
    have : (waysL m).getD (stepD s t) 0 = (ways m (stepD s t) : Int) := by
      have := dT_lt s t
      generalize stepD s t = d at this
      match d, this with
      | 0, _ => rfl
      | 1, _ => rfl
      | 2, _ => rfl
      | 3, _ => rfl
    rw [this]
    simp
theorem ring_le (t : Nat) : (ringT t).length < 5 := by
  by_cases h : t < 24
  · have : ∀ t : Fin 24, (ringT t).length < 5 := by decide +kernel
    exact this ⟨t, h⟩
  · have : ringT t = [] := by
      unfold ringT
      rw [List.getD_eq_getElem?_getD, List.getElem?_eq_none (by simp; omega)]
      rfl
    rw [this]; decide
theorem dot_wAt (s : Bs) (m : Nat) : ∀ t, dotI (wAt s t) (powL m) + ((((List.range t).map fun t => m ^ (ringT t).length).sum : Nat) : Int) = ((((List.range t).map fun t => ((wT s).getD t (0, 1)).2 * m ^ (ringT t).length).sum : Nat) : Int)
  | 0 => by simp [wAt, dotI, powL]
  | t + 1 => by
    have ih := dot_wAt s m t
    rw [wAt, dot_bump _ _ _ _ (by rw [wAt_len]; rfl) (by rw [wAt_len]; exact ring_le t), List.range_succ, List.map_append, List.sum_append, List.map_append, List.sum_append]
    have : (powL m).getD (ringT t).length 0 = ((m ^ (ringT t).length : Nat) : Int) := by
      have := ring_le t
      generalize (ringT t).length = d at this
      match d, this with
      | 0, _ => rfl
      | 1, _ => rfl
      | 2, _ => rfl
      | 3, _ => rfl
      | 4, _ => rfl
    rw [this]
    simp only [List.map_cons, List.map_nil, List.sum_cons, List.sum_nil, weightOf, Int.natCast_add, Int.natCast_mul, Int.sub_mul]
    generalize ((m ^ (ringT t).length : Nat) : Int) = z at *
    generalize ((((wT s).getD t (0, 1)).2 : Nat) : Int) * z = y
    omega
noncomputable def chkM (s : Bs) (m : Nat) : Bool := Nat.beq (((dT s).map fun d => ways m d).sum + ((wT s).map fun p => m ^ p.1).sum) ((wT s).map fun p => p.2 * m ^ p.1).sum
noncomputable def chkS (s : Bs) : Bool := chkM s 1 && chkM s 2 && chkM s 3 && chkM s 4
noncomputable def allB (f : Bool → Bool) : Bool := f false && f true
theorem allB_iff {f : Bool → Bool} (h : allB f = true) (b : Bool) : f b = true := by
  unfold allB at h
  rw [Bool.and_eq_true] at h
  cases b
  · exact h.1
  · exact h.2
noncomputable def wv (a b c d : Nat) (x y z : Bool) : Nat := Bool.rec (motive := fun _ => Nat) (Bool.rec (motive := fun _ => Nat) (Bool.rec (motive := fun _ => Nat) d c z) (Bool.rec (motive := fun _ => Nat) c b z) y) (Bool.rec (motive := fun _ => Nat) (Bool.rec (motive := fun _ => Nat) c b z) (Bool.rec (motive := fun _ => Nat) b a z) y) x
noncomputable def v2 (h g : Nat) (x y : Bool) : Nat := Bool.rec (motive := fun _ => Nat) (Bool.rec (motive := fun _ => Nat) g h y) (Bool.rec (motive := fun _ => Nat) h 0 y) x
noncomputable def v3 (h g : Nat) (x y z : Bool) : Nat := Bool.rec (motive := fun _ => Nat) (Bool.rec (motive := fun _ => Nat) (Bool.rec (motive := fun _ => Nat) g h z) h y) (Bool.rec (motive := fun _ => Nat) h (Bool.rec (motive := fun _ => Nat) h g z) y) x
noncomputable def v4 (h g : Nat) (x y z u : Bool) : Nat := Bool.rec (motive := fun _ => Nat) (Bool.rec (motive := fun _ => Nat) (Bool.rec (motive := fun _ => Nat) (Bool.rec (motive := fun _ => Nat) g h u) h z) h y) (Bool.rec (motive := fun _ => Nat) h (Bool.rec (motive := fun _ => Nat) h (Bool.rec (motive := fun _ => Nat) h 0 u) z) y) x
noncomputable def v22 (h g : Nat) (x y z u : Bool) : Nat := Bool.rec (motive := fun _ => Nat) (Bool.rec (motive := fun _ => Nat) (v2 h g z u) h y) (Bool.rec (motive := fun _ => Nat) h (Bool.rec (motive := fun _ => Nat) (Bool.rec (motive := fun _ => Nat) 0 h u) (Bool.rec (motive := fun _ => Nat) h g u) z) y) x
noncomputable def dX (a b c d : Nat) (xab xak xam xba xbk xbm xka xkb xkm xma xmb xmk : Bool) : Nat := Nat.add (wv a b c d xab xbk xkm) (Nat.add (wv a b c d xab xbm xmk) (Nat.add (wv a b c d xak xkb xbm) (Nat.add (wv a b c d xak xkm xmb) (Nat.add (wv a b c d xam xmb xbk) (Nat.add (wv a b c d xam xmk xkb) (Nat.add (wv a b c d xba xak xkm) (Nat.add (wv a b c d xba xam xmk) (Nat.add (wv a b c d xbk xka xam) (Nat.add (wv a b c d xbk xkm xma) (Nat.add (wv a b c d xbm xma xak) (Nat.add (wv a b c d xbm xmk xka) (Nat.add (wv a b c d xka xab xbm) (Nat.add (wv a b c d xka xam xmb) (Nat.add (wv a b c d xkb xba xam) (Nat.add (wv a b c d xkb xbm xma) (Nat.add (wv a b c d xkm xma xab) (Nat.add (wv a b c d xkm xmb xba) (Nat.add (wv a b c d xma xab xbk) (Nat.add (wv a b c d xma xak xkb) (Nat.add (wv a b c d xmb xba xak) (Nat.add (wv a b c d xmb xbk xka) (Nat.add (wv a b c d xmk xka xab) (Nat.add (wv a b c d xmk xkb xba) (0))))))))))))))))))))))))
noncomputable def qX (h1 g1 h2 g2 h3 g3 g4 : Nat) (xab xak xam xba xbk xbm xka xkb xkm xma xmb xmk : Bool) : Nat := Nat.add (g4) (Nat.add (v2 h3 g3 xkm xmk) (Nat.add (v2 h3 g3 xbk xkb) (Nat.add (v2 h3 g3 xbm xmb) (Nat.add (v3 h2 g2 xkm xmb xbk) (Nat.add (v3 h2 g2 xbm xmk xkb) (Nat.add (v2 h3 g3 xab xba) (Nat.add (v22 h2 g2 xab xba xkm xmk) (Nat.add (v2 h3 g3 xak xka) (Nat.add (v2 h3 g3 xam xma) (Nat.add (v3 h2 g2 xkm xma xak) (Nat.add (v3 h2 g2 xam xmk xka) (Nat.add (v3 h2 g2 xbk xka xab) (Nat.add (v22 h2 g2 xak xka xbm xmb) (Nat.add (v3 h2 g2 xak xkb xba) (Nat.add (v22 h2 g2 xbk xkb xam xma) (Nat.add (v3 h2 g2 xbm xma xab) (Nat.add (v3 h2 g2 xam xmb xba) (Nat.add (v4 h1 g1 xkm xma xab xbk) (Nat.add (v4 h1 g1 xbm xma xak xkb) (Nat.add (v4 h1 g1 xkm xmb xba xak) (Nat.add (v4 h1 g1 xam xmb xbk xka) (Nat.add (v4 h1 g1 xbm xmk xka xab) (Nat.add (v4 h1 g1 xam xmk xkb xba) (0))))))))))))))))))))))))
noncomputable def cX (xab xak xam xba xbk xbm xka xkb xkm xma xmb xmk : Bool) : Bool := Nat.beq (Nat.add (dX 0 0 0 1 xab xak xam xba xbk xbm xka xkb xkm xma xmb xmk) 24) (qX 1 2 1 2 1 2 2 xab xak xam xba xbk xbm xka xkb xkm xma xmb xmk) && Nat.beq (Nat.add (dX 0 0 1 5 xab xak xam xba xbk xbm xka xkb xkm xma xmb xmk) 120) (qX 2 4 4 8 8 16 32 xab xak xam xba xbk xbm xka xkb xkm xma xmb xmk) && Nat.beq (Nat.add (dX 0 1 5 15 xab xak xam xba xbk xbm xka xkb xkm xma xmb xmk) 360) (qX 3 6 9 18 27 54 162 xab xak xam xba xbk xbm xka xkb xkm xma xmb xmk) && Nat.beq (Nat.add (dX 1 5 15 35 xab xak xam xba xbk xbm xka xkb xkm xma xmb xmk) 840) (qX 4 8 16 32 64 128 512 xab xak xam xba xbk xbm xka xkb xkm xma xmb xmk)
theorem chk_all : (allB fun a => allB fun b => allB fun c => allB fun d => allB fun e => allB fun f => allB fun g => allB fun h => allB fun i => allB fun j => allB fun k => allB fun l => cX a b c d e f g h i j k l) = true := by decide +kernel
theorem wv_eq (m : Nat) (x y z : Bool) : ways m (p3 x y z) = wv (ways m 3) (ways m 2) (ways m 1) (ways m 0) x y z := by cases x <;> cases y <;> cases z <;> rfl
theorem v2_eq (h : Nat) (x y : Bool) : q2 x y * h = v2 h (2 * h) x y := by cases x <;> cases y <;> simp [q2, v2]
theorem v3_eq (h : Nat) (x y z : Bool) : q3 x y z * h = v3 h (2 * h) x y z := by cases x <;> cases y <;> cases z <;> simp [q3, v3]
theorem v4_eq (h : Nat) (x y z u : Bool) : q4 x y z u * h = v4 h (2 * h) x y z u := by cases x <;> cases y <;> cases z <;> cases u <;> simp [q4, v4]
theorem v22_eq (h : Nat) (x y z u : Bool) : q22 x y z u * h = v22 h (2 * h) x y z u := by cases x <;> cases y <;> cases z <;> cases u <;> simp [q22, v22, q2, v2]
theorem dX_eq (s : Bs) (m : Nat) : ((dT s).map fun d => ways m d).sum = dX (ways m 3) (ways m 2) (ways m 1) (ways m 0) s.xab s.xak s.xam s.xba s.xbk s.xbm s.xka s.xkb s.xkm s.xma s.xmb s.xmk := by
  simp only [dT, List.map_cons, List.map_nil, List.sum_cons, List.sum_nil, wv_eq]
  rfl
theorem qX_eq (s : Bs) (m : Nat) : ((wT s).map fun p => p.2 * m ^ p.1).sum = qX (m ^ 1) (2 * m ^ 1) (m ^ 2) (2 * m ^ 2) (m ^ 3) (2 * m ^ 3) (2 * m ^ 4) s.xab s.xak s.xam s.xba s.xbk s.xbm s.xka s.xkb s.xkm s.xma s.xmb s.xmk := by
  simp only [wT, List.map_cons, List.map_nil, List.sum_cons, List.sum_nil, v2_eq, v3_eq, v4_eq, v22_eq]
  rfl
theorem chkM1 (s : Bs) : chkM s 1 = Nat.beq (Nat.add (dX 0 0 0 1 s.xab s.xak s.xam s.xba s.xbk s.xbm s.xka s.xkb s.xkm s.xma s.xmb s.xmk) 24) (qX 1 2 1 2 1 2 2 s.xab s.xak s.xam s.xba s.xbk s.xbm s.xka s.xkb s.xkm s.xma s.xmb s.xmk) := by
  have h : Nat.beq (dX (ways 1 3) (ways 1 2) (ways 1 1) (ways 1 0) s.xab s.xak s.xam s.xba s.xbk s.xbm s.xka s.xkb s.xkm s.xma s.xmb s.xmk + ((wT s).map fun p => 1 ^ p.1).sum) (qX (1 ^ 1) (2 * 1 ^ 1) (1 ^ 2) (2 * 1 ^ 2) (1 ^ 3) (2 * 1 ^ 3) (2 * 1 ^ 4) s.xab s.xak s.xam s.xba s.xbk s.xbm s.xka s.xkb s.xkm s.xma s.xmb s.xmk) = Nat.beq (Nat.add (dX 0 0 0 1 s.xab s.xak s.xam s.xba s.xbk s.xbm s.xka s.xkb s.xkm s.xma s.xmb s.xmk) 24) (qX 1 2 1 2 1 2 2 s.xab s.xak s.xam s.xba s.xbk s.xbm s.xka s.xkb s.xkm s.xma s.xmb s.xmk) := by kernel_rfl
  unfold chkM
  rw [dX_eq, qX_eq]
  exact h
theorem chkM2 (s : Bs) : chkM s 2 = Nat.beq (Nat.add (dX 0 0 1 5 s.xab s.xak s.xam s.xba s.xbk s.xbm s.xka s.xkb s.xkm s.xma s.xmb s.xmk) 120) (qX 2 4 4 8 8 16 32 s.xab s.xak s.xam s.xba s.xbk s.xbm s.xka s.xkb s.xkm s.xma s.xmb s.xmk) := by
  have h : Nat.beq (dX (ways 2 3) (ways 2 2) (ways 2 1) (ways 2 0) s.xab s.xak s.xam s.xba s.xbk s.xbm s.xka s.xkb s.xkm s.xma s.xmb s.xmk + ((wT s).map fun p => 2 ^ p.1).sum) (qX (2 ^ 1) (2 * 2 ^ 1) (2 ^ 2) (2 * 2 ^ 2) (2 ^ 3) (2 * 2 ^ 3) (2 * 2 ^ 4) s.xab s.xak s.xam s.xba s.xbk s.xbm s.xka s.xkb s.xkm s.xma s.xmb s.xmk) = Nat.beq (Nat.add (dX 0 0 1 5 s.xab s.xak s.xam s.xba s.xbk s.xbm s.xka s.xkb s.xkm s.xma s.xmb s.xmk) 120) (qX 2 4 4 8 8 16 32 s.xab s.xak s.xam s.xba s.xbk s.xbm s.xka s.xkb s.xkm s.xma s.xmb s.xmk) := by kernel_rfl
  unfold chkM
  rw [dX_eq, qX_eq]
  exact h
theorem chkM3 (s : Bs) : chkM s 3 = Nat.beq (Nat.add (dX 0 1 5 15 s.xab s.xak s.xam s.xba s.xbk s.xbm s.xka s.xkb s.xkm s.xma s.xmb s.xmk) 360) (qX 3 6 9 18 27 54 162 s.xab s.xak s.xam s.xba s.xbk s.xbm s.xka s.xkb s.xkm s.xma s.xmb s.xmk) := by
  have h : Nat.beq (dX (ways 3 3) (ways 3 2) (ways 3 1) (ways 3 0) s.xab s.xak s.xam s.xba s.xbk s.xbm s.xka s.xkb s.xkm s.xma s.xmb s.xmk + ((wT s).map fun p => 3 ^ p.1).sum) (qX (3 ^ 1) (2 * 3 ^ 1) (3 ^ 2) (2 * 3 ^ 2) (3 ^ 3) (2 * 3 ^ 3) (2 * 3 ^ 4) s.xab s.xak s.xam s.xba s.xbk s.xbm s.xka s.xkb s.xkm s.xma s.xmb s.xmk) = Nat.beq (Nat.add (dX 0 1 5 15 s.xab s.xak s.xam s.xba s.xbk s.xbm s.xka s.xkb s.xkm s.xma s.xmb s.xmk) 360) (qX 3 6 9 18 27 54 162 s.xab s.xak s.xam s.xba s.xbk s.xbm s.xka s.xkb s.xkm s.xma s.xmb s.xmk) := by kernel_rfl
  unfold chkM
  rw [dX_eq, qX_eq]
  exact h
theorem chkM4 (s : Bs) : chkM s 4 = Nat.beq (Nat.add (dX 1 5 15 35 s.xab s.xak s.xam s.xba s.xbk s.xbm s.xka s.xkb s.xkm s.xma s.xmb s.xmk) 840) (qX 4 8 16 32 64 128 512 s.xab s.xak s.xam s.xba s.xbk s.xbm s.xka s.xkb s.xkm s.xma s.xmb s.xmk) := by
  have h : Nat.beq (dX (ways 4 3) (ways 4 2) (ways 4 1) (ways 4 0) s.xab s.xak s.xam s.xba s.xbk s.xbm s.xka s.xkb s.xkm s.xma s.xmb s.xmk + ((wT s).map fun p => 4 ^ p.1).sum) (qX (4 ^ 1) (2 * 4 ^ 1) (4 ^ 2) (2 * 4 ^ 2) (4 ^ 3) (2 * 4 ^ 3) (2 * 4 ^ 4) s.xab s.xak s.xam s.xba s.xbk s.xbm s.xka s.xkb s.xkm s.xma s.xmb s.xmk) = Nat.beq (Nat.add (dX 1 5 15 35 s.xab s.xak s.xam s.xba s.xbk s.xbm s.xka s.xkb s.xkm s.xma s.xmb s.xmk) 840) (qX 4 8 16 32 64 128 512 s.xab s.xak s.xam s.xba s.xbk s.xbm s.xka s.xkb s.xkm s.xma s.xmb s.xmk) := by kernel_rfl
  unfold chkM
  rw [dX_eq, qX_eq]
  exact h
theorem chk_s (s : Bs) : chkS s = true := by
  have h := allB_iff (allB_iff (allB_iff (allB_iff (allB_iff (allB_iff (allB_iff (allB_iff (allB_iff (allB_iff (allB_iff (allB_iff chk_all s.xab) s.xak) s.xam) s.xba) s.xbk) s.xbm) s.xka) s.xkb) s.xkm) s.xma) s.xmb) s.xmk
  unfold chkS
  rw [chkM1, chkM2, chkM3, chkM4]
  unfold cX at h
  exact h
theorem sums (s : Bs) (m : Nat) (h : chkM s m = true) : dotI (oAt s 24) (waysL m) = dotI (wAt s 24) (powL m) := by
  have h1 := dot_oAt s m 24
  have h2 := dot_wAt s m 24
  have e1 : ((List.range 24).map fun t => ways m (stepD s t)) = (dT s).map fun d => ways m d := rfl
  have e2 : ((List.range 24).map fun t => m ^ (ringT t).length) = (wT s).map fun p => m ^ p.1 := rfl
  have e3 : ((List.range 24).map fun t => ((wT s).getD t (0, 1)).2 * m ^ (ringT t).length) = (wT s).map fun p => p.2 * m ^ p.1 := rfl
  rw [e1] at h1
  rw [e2, e3] at h2
  have h3 := Nat.eq_of_beq_eq_true h
  rw [h1]
  omega
theorem law_sums (s : Bs) : ∀ m, 1 ≤ m → m ≤ 4 → dotI (oAt s 24) (waysL m) = dotI (wAt s 24) (powL m) := by
  have h := chk_s s
  unfold chkS at h
  simp only [Bool.and_eq_true] at h
  intro m h1 h4
  have : m = 1 ∨ m = 2 ∨ m = 3 ∨ m = 4 := by omega
  rcases this with rfl | rfl | rfl | rfl
  · exact sums s 1 h.1.1.1
  · exact sums s 2 h.1.1.2
  · exact sums s 3 h.1.2
  · exact sums s 4 h.2
end Mine
end
section
open PySem PySem.W PyProof.Rows PySem.Calls
set_option maxHeartbeats 0
namespace Mine
theorem fb_eq {α β : Type} {m : Option (α × PS)} {k : α → PS → Option β} {a : α} {σ : PS} (h : m = some (a, σ)) : fb m k = k a σ := by rw [h]; rfl
theorem seqs_app {l₂ : List (PS → Option (Fl × PS))} {σ₁ : PS} : ∀ {l₁ : List (PS → Option (Fl × PS))} {σ : PS}, seqs l₁ σ = some (.next, σ₁) → seqs (l₁ ++ l₂) σ = seqs l₂ σ₁
  | [], σ, h => by
    have : σ = σ₁ := by simpa [seqs] using h
    rw [this]; rfl
  | f :: r, σ, h => by
    simp only [seqs, fseq, List.cons_append] at h ⊢
    split at h
    · exact seqs_app h
    · rename_i hn
      exact absurd h (hn σ₁)
theorem ffin_next {ds : List Nat} {f : PS → Option (Fl × PS)} {σ σ₁ σ₂ : PS} (h : f σ = some (.next, σ₁)) (hc : ffinC ds σ.mem.length σ₁ = some σ₂) : ffin ds f σ = some (.next, σ₂) := by
  unfold ffin
  rw [h]
  unfold ffinC at hc
  dsimp only
  split at hc
  · rename_i hall
    rw [if_pos hall]
    cases hc; rfl
  · cases hc
theorem fforC_step {ds : List Nat} {n0 : Nat} {nx : Nat → PS → Option (Option PV)} {st : PV → PS → Option PS} {b : PS → Option (Fl × PS)} {n i : Nat} {σ σ₁ σ₂ σ₃ : PS} {v : PV} (hn : nx i σ = some (some v)) (hs : st v σ = some σ₁) (hb : b σ₁ = some (.next, σ₂)) (hc : ffinC ds n0 σ₂ = some σ₃) :
    fforC ds n0 nx st b (n + 1) i σ = fforC ds n0 nx st b n (i + 1) σ₃ := by
  rw [fforC]
  rw [hn]
  dsimp only
  rw [hs]
  dsimp only
  rw [fb_eq hb]
  dsimp only
  unfold ffinC at hc
  split at hc
  · rename_i hall
    rw [if_pos hall]
    cases hc; rfl
  · cases hc
theorem fforC_done {ds : List Nat} {n0 : Nat} {nx : Nat → PS → Option (Option PV)} {st : PV → PS → Option PS} {b : PS → Option (Fl × PS)} {n i : Nat} {σ : PS} (hn : nx i σ = some none) : fforC ds n0 nx st b (n + 1) i σ = some (.next, σ) := by
  rw [fforC]
  rw [hn]
theorem nx_rng {a b : Int} {i : Nat} {σ : PS} (hs : Builtin.Range.small a b 1 = true) : nxOf (.rng a b 1) i σ = some (if a + i < b then some (.int (a + i)) else none) := by
  show (if (1 : Int) = 1 ∧ Builtin.Range.small a b 1 = true then some (if a + (i : Int) < b then some (PV.int (a + (i : Int))) else none) else none) = _
  rw [if_pos ⟨rfl, hs⟩]
theorem len4 : ∀ {l : List Int}, l.length = 4 → ∃ a b c d, l = [a, b, c, d]
  | [a, b, c, d], _ => ⟨a, b, c, d, rfl⟩
  | [], h => by simp at h
  | [_], h => by simp at h
  | [_, _], h => by simp at h
  | [_, _, _], h => by simp at h
  | _ :: _ :: _ :: _ :: _ :: _, h => by simp at h
theorem len5 : ∀ {l : List Int}, l.length = 5 → ∃ a b c d e, l = [a, b, c, d, e]
  | [a, b, c, d, e], _ => ⟨a, b, c, d, e, rfl⟩
  | [], h => by simp at h
  | [_], h => by simp at h
  | [_, _], h => by simp at h
  | [_, _, _], h => by simp at h
  | [_, _, _, _], h => by simp at h
  | _ :: _ :: _ :: _ :: _ :: _ :: _, h => by simp at h
noncomputable def envT (typed line : List Nat) (a : Bool) (d2 : List Nat) (b : Bool) (first : Int) (k t : Nat) : Env0 := ⟨typed, line, dot a, d2, dot b, first, blk k, prev (blk k) t⟩
noncomputable def turnF : List (PS → Option (Fl × PS)) := [lawF_14b_0, lawF_14b_1, lawF_14b_2, lawF_14b_3, lawF_14b_4, lawF_14b_5] ++ ([lawF_14b_6] ++ ([lawF_14b_7] ++ ([lawF_14b_8, lawF_14b_9, lawF_14b_10] ++ ([lawF_14b_11, lawF_14b_12] ++ [lawF_14b_13, lawF_14b_14, lawF_14b_15]))))
theorem seqs_one {f : PS → Option (Fl × PS)} {σ σ₁ : PS} (h : f σ = some (.next, σ₁)) : seqs [f] σ = some (.next, σ₁) := by
  show fseq f _ σ = _
  unfold fseq
  rw [h]
  rfl
end Mine
end
section
open PySem PySem.W PyProof.Rows PySem.Calls
set_option maxHeartbeats 400000
namespace Mine
noncomputable def stM (e : Env0) (s : Bs) (o w : List Int) (x y : Option PV) : PS := ⟨vars0 e (List.replicate 13 none ++ [x, y, none]), mem0 e s (rowAt 24) (pvi o) (pvi w)⟩
noncomputable def wLs (m : Nat) (o w : List Int) : List PO := [.list (pvi (List.zipWith (· * ·) w (powL m))), .list (pvi (waysL m))]
noncomputable def stN (e : Env0) (s : Bs) (m : Nat) (o w : List Int) (r : List PO) : PS := ⟨vars0 e (List.replicate 13 none ++ [some (.int m), some (.int (dotI w (powL m))), some (.ref 12)]), mem0 e s (rowAt 24) (pvi o) (pvi w) ++ (wLs m o w ++ r)⟩
section
variable (typed line d1 d2 d3 ld before : List Nat) (first : Int) (s : Bs) (o0 o1 o2 o3 w0 w1 w2 w3 w4 : Int) (x y : Option PV)
theorem t15a (m : Nat) (hm : m = 1 ∨ m = 2 ∨ m = 3 ∨ m = 4) : seqs [lawF_15b_0, lawF_15b_1] (fset 37 (.int m) (stM ⟨typed, line, d1, d2, d3, first, ld, before⟩ s [o0, o1, o2, o3] [w0, w1, w2, w3, w4] x y)) = some (.next, stN ⟨typed, line, d1, d2, d3, first, ld, before⟩ s m [o0, o1, o2, o3] [w0, w1, w2, w3, w4] []) := by
  rcases hm with rfl | rfl | rfl | rfl <;> kernel_rfl
theorem t15b (m : Nat) (hm : m = 1 ∨ m = 2 ∨ m = 3 ∨ m = 4) (h : dotI [o0, o1, o2, o3] (waysL m) = dotI [w0, w1, w2, w3, w4] (powL m)) : lawF_15b_2 (stN ⟨typed, line, d1, d2, d3, first, ld, before⟩ s m [o0, o1, o2, o3] [w0, w1, w2, w3, w4] []) = some (.next, stN ⟨typed, line, d1, d2, d3, first, ld, before⟩ s m [o0, o1, o2, o3] [w0, w1, w2, w3, w4] []) := by
  refine ffin_next (σ₁ := stN ⟨typed, line, d1, d2, d3, first, ld, before⟩ s m [o0, o1, o2, o3] [w0, w1, w2, w3, w4] [.list (pvi (List.zipWith (· * ·) [o0, o1, o2, o3] (waysL m)))]) ?_ ?_
  · refine (fb_eq (a := false) (σ := stN ⟨typed, line, d1, d2, d3, first, ld, before⟩ s m [o0, o1, o2, o3] [w0, w1, w2, w3, w4] [.list (pvi (List.zipWith (· * ·) [o0, o1, o2, o3] (waysL m)))]) ?_).trans rfl
    refine Eq.trans (b := some (!(dotI [o0, o1, o2, o3] (waysL m) == dotI [w0, w1, w2, w3, w4] (powL m)), stN ⟨typed, line, d1, d2, d3, first, ld, before⟩ s m [o0, o1, o2, o3] [w0, w1, w2, w3, w4] [.list (pvi (List.zipWith (· * ·) [o0, o1, o2, o3] (waysL m)))])) ?_ (by rw [h]; simp)
    rcases hm with rfl | rfl | rfl | rfl <;> kernel_rfl
  · rcases hm with rfl | rfl | rfl | rfl <;> kernel_rfl
theorem t15c (m : Nat) (hm : m = 1 ∨ m = 2 ∨ m = 3 ∨ m = 4) : ffinC [] 11 (stN ⟨typed, line, d1, d2, d3, first, ld, before⟩ s m [o0, o1, o2, o3] [w0, w1, w2, w3, w4] []) = some (stM ⟨typed, line, d1, d2, d3, first, ld, before⟩ s [o0, o1, o2, o3] [w0, w1, w2, w3, w4] (some (.int m)) (some (.int (dotI [w0, w1, w2, w3, w4] (powL m))))) := by
  rcases hm with rfl | rfl | rfl | rfl <;> kernel_rfl
theorem t15 (n : Nat) (m : Nat) (hm : m = 1 ∨ m = 2 ∨ m = 3 ∨ m = 4) (h : dotI [o0, o1, o2, o3] (waysL m) = dotI [w0, w1, w2, w3, w4] (powL m)) (i : Nat) (hi : i + 1 = m) :
    fforC [] 11 (nxOf (.rng 1 5 1)) (fun v σ => some (fset 37 v σ)) (seqs [lawF_15b_0, lawF_15b_1, lawF_15b_2]) (n + 1) i (stM ⟨typed, line, d1, d2, d3, first, ld, before⟩ s [o0, o1, o2, o3] [w0, w1, w2, w3, w4] x y) =
    fforC [] 11 (nxOf (.rng 1 5 1)) (fun v σ => some (fset 37 v σ)) (seqs [lawF_15b_0, lawF_15b_1, lawF_15b_2]) n (i + 1) (stM ⟨typed, line, d1, d2, d3, first, ld, before⟩ s [o0, o1, o2, o3] [w0, w1, w2, w3, w4] (some (.int m)) (some (.int (dotI [w0, w1, w2, w3, w4] (powL m))))) := by
  refine fforC_step (v := .int m) (σ₁ := fset 37 (.int m) (stM ⟨typed, line, d1, d2, d3, first, ld, before⟩ s [o0, o1, o2, o3] [w0, w1, w2, w3, w4] x y)) ?_ rfl (σ₂ := stN ⟨typed, line, d1, d2, d3, first, ld, before⟩ s m [o0, o1, o2, o3] [w0, w1, w2, w3, w4] []) ?_ (t15c _ _ _ _ _ _ _ _ _ _ _ _ _ _ _ _ _ _ m hm)
  · rw [nx_rng (by decide +kernel), if_pos (by omega)]
    congr 3
    omega
  · have := seqs_app (l₂ := [lawF_15b_2]) (t15a typed line d1 d2 d3 ld before first s o0 o1 o2 o3 w0 w1 w2 w3 w4 x y m hm)
    refine this.trans (seqs_one (t15b _ _ _ _ _ _ _ _ _ _ _ _ _ _ _ _ _ _ m hm h))
theorem law15 (h : ∀ m, 1 ≤ m → m ≤ 4 → dotI [o0, o1, o2, o3] (waysL m) = dotI [w0, w1, w2, w3, w4] (powL m)) :
    lawF_15 (stQ ⟨typed, line, d1, d2, d3, first, ld, before⟩ s 24 [o0, o1, o2, o3] [w0, w1, w2, w3, w4]) = some (.next, stQ ⟨typed, line, d1, d2, d3, first, ld, before⟩ s 24 [o0, o1, o2, o3] [w0, w1, w2, w3, w4]) := by
  refine ffin_next (σ₁ := stM ⟨typed, line, d1, d2, d3, first, ld, before⟩ s [o0, o1, o2, o3] [w0, w1, w2, w3, w4] (some (.int 4)) (some (.int (dotI [w0, w1, w2, w3, w4] (powL 4))))) ?_ (by kernel_rfl)
  show fforC [] 11 (nxOf (.rng 1 5 1)) (fun v σ => some (fset 37 v σ)) (seqs [lawF_15b_0, lawF_15b_1, lawF_15b_2]) 200 0 (stM ⟨typed, line, d1, d2, d3, first, ld, before⟩ s [o0, o1, o2, o3] [w0, w1, w2, w3, w4] none none) = _
  rw [t15 _ _ _ _ _ _ _ _ _ _ _ _ _ _ _ _ _ _ _ _ 199 1 (by omega) (h 1 (by omega) (by omega)) 0 rfl]
  rw [t15 _ _ _ _ _ _ _ _ _ _ _ _ _ _ _ _ _ _ _ _ 198 2 (by omega) (h 2 (by omega) (by omega)) 1 rfl]
  rw [t15 _ _ _ _ _ _ _ _ _ _ _ _ _ _ _ _ _ _ _ _ 197 3 (by omega) (h 3 (by omega) (by omega)) 2 rfl]
  rw [t15 _ _ _ _ _ _ _ _ _ _ _ _ _ _ _ _ _ _ _ _ 196 4 (by omega) (h 4 (by omega) (by omega)) 3 rfl]
  exact fforC_done (by rw [nx_rng (by decide +kernel)]; rfl)
end
end Mine
end
section
open PySem PySem.W PyProof.Rows PySem.Calls
set_option maxHeartbeats 400000
namespace Mine
theorem turn (typed line : List Nat) (a : Bool) (d2 : List Nat) (b : Bool) (first : Int) (hf : first = 0 ∨ first = 1 ∨ first = 2) (k : Nat) (hk : k = 0 ∨ k = 1 ∨ k = 2) (s : Bs) (t : Nat) (ht : t < 24) (o w : List Int) (ho : o.length = 4) (hw : w.length = 5) :
    seqs turnF (stT (envT typed line a d2 b first k t) s t o w) = some (.next, stG (envT typed line a d2 b first k (t + 1)) s t (weightOf s t) (bump o (stepD s t) 1) (bump w (ringT t).length (weightOf s t))) := by
  have ho' := bump_len o (stepD s t) 1
  have hw' := bump_len w (ringT t).length (weightOf s t)
  rw [ho] at ho'
  rw [hw] at hw'
  obtain ⟨o0, o1, o2, o3, rfl⟩ := len4 ho
  obtain ⟨w0, w1, w2, w3, w4, rfl⟩ := len5 hw
  unfold turnF
  refine (seqs_app (tA t ht typed line (dot a) d2 (dot b) first hf k hk s o0 o1 o2 o3 w0 w1 w2 w3 w4)).trans ?_
  refine (seqs_app (seqs_one (tB t ht typed line d2 (prev (blk k) (t + 1)) a b first k hk s o0 o1 o2 o3 w0 w1 w2 w3 w4))).trans ?_
  refine (seqs_app (seqs_one (tC t ht typed line (dot a) d2 (dot b) (prev (blk k) (t + 1)) (blk k) first s.xab s.xak s.xam s.xba s.xbk s.xbm s.xka s.xkb s.xkm s.xma s.xmb s.xmk o0 o1 o2 o3 w0 w1 w2 w3 w4))).trans ?_
  change seqs _ (stB _ s t (bump [o0, o1, o2, o3] (stepD s t) 1) _) = _
  generalize bump [o0, o1, o2, o3] (stepD s t) 1 = o' at ho' ⊢
  obtain ⟨p0, p1, p2, p3, rfl⟩ := len4 ho'
  refine (seqs_app (tD t ht typed line (dot a) d2 (dot b) (prev (blk k) (t + 1)) (blk k) first s p0 p1 p2 p3 w0 w1 w2 w3 w4)).trans ?_
  refine (seqs_app (tE t ht typed line (dot a) d2 (dot b) (prev (blk k) (t + 1)) (blk k) first s.xab s.xak s.xam s.xba s.xbk s.xbm s.xka s.xkb s.xkm s.xma s.xmb s.xmk p0 p1 p2 p3 w0 w1 w2 w3 w4)).trans ?_
  change seqs _ (stE _ s t (weightOf s t) _ (bump [w0, w1, w2, w3, w4] (ringT t).length (weightOf s t))) = _
  generalize bump [w0, w1, w2, w3, w4] (ringT t).length (weightOf s t) = w' at hw' ⊢
  obtain ⟨u0, u1, u2, u3, u4, rfl⟩ := len5 hw'
  exact tG t ht typed line (dot a) d2 (dot b) (prev (blk k) (t + 1)) first k hk s (weightOf s t) p0 p1 p2 p3 u0 u1 u2 u3 u4
theorem turns (typed line : List Nat) (a : Bool) (d2 : List Nat) (b : Bool) (first : Int) (hf : first = 0 ∨ first = 1 ∨ first = 2) (k : Nat) (hk : k = 0 ∨ k = 1 ∨ k = 2) (s : Bs) : ∀ (n t : Nat), t + n = 24 →
    fforC drT 11 (nxOf (.rng 0 24 1)) (fun v σ => some (fset 24 v σ)) (seqs turnF) (n + 176) t (stQ (envT typed line a d2 b first k t) s t (oAt s t) (wAt s t)) = some (.next, stQ (envT typed line a d2 b first k 24) s 24 (oAt s 24) (wAt s 24)) := by
  intro n
  induction n with
  | zero =>
    intro t h
    have ht : t = 24 := by omega
    subst ht
    exact fforC_done (by rw [nx_rng (by decide +kernel)]; rfl)
  | succ n ih =>
    intro t h
    have ht : t < 24 := by omega
    rw [show n + 1 + 176 = (n + 176) + 1 by omega]
    have ho := oAt_len s (t + 1)
    have hw := wAt_len s (t + 1)
    obtain ⟨o0, o1, o2, o3, eo⟩ := len4 ho
    obtain ⟨w0, w1, w2, w3, w4, ew⟩ := len5 hw
    have hT := turn typed line a d2 b first hf k hk s t ht (oAt s t) (wAt s t) (oAt_len s t) (wAt_len s t)
    have hH := tH t ht typed line (dot a) d2 (dot b) (prev (blk k) (t + 1)) (blk k) first s (weightOf s t) o0 o1 o2 o3 w0 w1 w2 w3 w4
    rw [← eo, ← ew] at hH
    rw [fforC_step (v := .int t) (σ₁ := stT (envT typed line a d2 b first k t) s t (oAt s t) (wAt s t)) (by rw [nx_rng (by decide +kernel), if_pos (by omega), Int.zero_add]) rfl hT hH]
    exact ih (t + 1) (by omega)
theorem law14 (typed line : List Nat) (a : Bool) (d2 : List Nat) (b : Bool) (first : Int) (hf : first = 0 ∨ first = 1 ∨ first = 2) (k : Nat) (hk : k = 0 ∨ k = 1 ∨ k = 2) (s : Bs) :
    lawF_14 (stQ (envT typed line a d2 b first k 0) s 0 [0, 0, 0, 0] [0, 0, 0, 0, 0]) = some (.next, stQ (envT typed line a d2 b first k 24) s 24 (oAt s 24) (wAt s 24)) := by
  have h := turns typed line a d2 b first hf k hk s 24 0 rfl
  refine ffin_next (σ₁ := stQ (envT typed line a d2 b first k 24) s 24 (oAt s 24) (wAt s 24)) h ?_
  obtain ⟨o0, o1, o2, o3, eo⟩ := len4 (oAt_len s 24)
  obtain ⟨w0, w1, w2, w3, w4, ew⟩ := len5 (wAt_len s 24)
  rw [eo, ew]
  unfold envT
  kernel_rfl
end Mine
end
section
open PySem PySem.W PyProof.Rows PySem.Calls
set_option maxHeartbeats 400000
namespace Mine
noncomputable def stP (typed line d1 d2 d3 : List Nat) (s : Bs) (ns : List Int) : PS := ⟨[none, some (.ref 2), none, none, some (.str typed), some (.str line), none, none, none, some (.str d1), some (.str d2), some (.str d3), none, none, none, some (.ref 5)] ++ List.replicate 24 none, [.tab 69, .tab 76, .list (pvi ns), .gone, .gone, .dict s.es]⟩
noncomputable def stP1 (typed line d1 d2 d3 : List Nat) (s : Bs) (ns : List Int) (f : Int) (k : Nat) : PS := ⟨[none, some (.ref 2), none, none, some (.str typed), some (.str line), none, none, none, some (.str d1), some (.str d2), some (.str d3), none, none, none, some (.ref 5), none, some (.int f), some (.str (blk k))] ++ List.replicate 21 none, [.tab 69, .tab 76, .list (pvi ns), .gone, .gone, .dict s.es]⟩
section
variable (typed line d1 d2 d3 : List Nat) (s : Bs) (n0 n1 n2 n3 n4 n5 n6 n7 n8 n9 : Int)
theorem law10 (f : Int) (k : Nat) (hf : (n9.fdiv 8).fmod 3 = f) (hk : (n9.fdiv 24).fmod 3 = k) (hk3 : k = 0 ∨ k = 1 ∨ k = 2) :
    lawF_10 (stP typed line d1 d2 d3 s [n0, n1, n2, n3, n4, n5, n6, n7, n8, n9]) = some (.next, stP1 typed line d1 d2 d3 s [n0, n1, n2, n3, n4, n5, n6, n7, n8, n9] f k) := by
  refine (fb_eq (a := PV.tup [.int f, .str (blk k)]) (σ := stP typed line d1 d2 d3 s [n0, n1, n2, n3, n4, n5, n6, n7, n8, n9]) ?_).trans rfl
  refine (fb_eq (a := [PV.int f, PV.str (blk k)]) (σ := stP typed line d1 d2 d3 s [n0, n1, n2, n3, n4, n5, n6, n7, n8, n9]) ?_).trans rfl
  refine (fb_eq (a := PV.int f) (σ := stP typed line d1 d2 d3 s [n0, n1, n2, n3, n4, n5, n6, n7, n8, n9]) ?_).trans ?_
  · refine Eq.trans (b := some (PV.int ((n9.fdiv 8).fmod 3), stP typed line d1 d2 d3 s [n0, n1, n2, n3, n4, n5, n6, n7, n8, n9])) (by kernel_rfl) (by rw [hf])
  · refine (fb_eq (a := [PV.str (blk k)]) (σ := stP typed line d1 d2 d3 s [n0, n1, n2, n3, n4, n5, n6, n7, n8, n9]) ?_).trans rfl
    refine (fb_eq (a := PV.str (blk k)) (σ := stP typed line d1 d2 d3 s [n0, n1, n2, n3, n4, n5, n6, n7, n8, n9]) ?_).trans rfl
    refine (fb_eq (a := PV.str [32]) (σ := stP typed line d1 d2 d3 s [n0, n1, n2, n3, n4, n5, n6, n7, n8, n9]) rfl).trans ?_
    refine (fb_eq (a := PV.int k) (σ := stP typed line d1 d2 d3 s [n0, n1, n2, n3, n4, n5, n6, n7, n8, n9]) ?_).trans ?_
    · refine Eq.trans (b := some (PV.int ((n9.fdiv 24).fmod 3), stP typed line d1 d2 d3 s [n0, n1, n2, n3, n4, n5, n6, n7, n8, n9])) (by kernel_rfl) (by rw [hk])
    · rcases hk3 with rfl | rfl | rfl <;> kernel_rfl
theorem law11 (f : Int) (hf : f = 0 ∨ f = 1 ∨ f = 2) (k : Nat) (hk : k = 0 ∨ k = 1 ∨ k = 2) :
    seqs [lawF_11, lawF_12, lawF_13] (stP1 typed line d1 d2 d3 s [n0, n1, n2, n3, n4, n5, n6, n7, n8, n9] f k) = some (.next, stQ ⟨typed, line, d1, d2, d3, f, blk k, []⟩ s 0 [0, 0, 0, 0] [0, 0, 0, 0, 0]) := by
  rcases hf with rfl | rfl | rfl <;> rcases hk with rfl | rfl | rfl <;> kernel_rfl
end
end Mine
end
section
open PySem PySem.W PyProof.Rows PySem.Calls
set_option maxHeartbeats 400000
namespace Mine
theorem fcomp_el {nx : Nat → PS → Option (Option PV)} {ts : PV → PS → Option (Bool × PS)} {el : PV → PS → Option (PV × PS)} {n i : Nat} {acc : List PV} {σ : PS} {v y : PV} (hn : nx i σ = some (some v)) (ht : ts v σ = some (true, σ)) (he : el v σ = some (y, σ)) (ha : acc.length ≤ 4096) :
    fcomp nx ts el (n + 1) i acc σ = fcomp nx ts el n (i + 1) (acc ++ [y]) σ := by
  rw [fcomp, hn]
  dsimp only
  rw [fb_eq ht]
  dsimp only
  rw [fb_eq he, if_pos ha]
theorem fcomp_skip {nx : Nat → PS → Option (Option PV)} {ts : PV → PS → Option (Bool × PS)} {el : PV → PS → Option (PV × PS)} {n i : Nat} {acc : List PV} {σ : PS} {v : PV} (hn : nx i σ = some (some v)) (ht : ts v σ = some (false, σ)) :
    fcomp nx ts el (n + 1) i acc σ = fcomp nx ts el n (i + 1) acc σ := by
  rw [fcomp, hn]
  dsimp only
  rw [fb_eq ht]
theorem fcomp_done {nx : Nat → PS → Option (Option PV)} {ts : PV → PS → Option (Bool × PS)} {el : PV → PS → Option (PV × PS)} {n i : Nat} {acc : List PV} {σ : PS} (hn : nx i σ = some none) :
    fcomp nx ts el (n + 1) i acc σ = some (acc, σ) := by
  rw [fcomp, hn]
noncomputable def bi (b : Bool) : Int := cond b 1 0
noncomputable def stS (typed line : List Nat) (ns : List Int) : PS := ⟨[none, some (.ref 2), none, none, some (.str typed), some (.str line)] ++ List.replicate 34 none, [.tab 69, .tab 76, .list (pvi ns)]⟩
noncomputable def stS5 (typed line d1 d2 d3 : List Nat) (ns : List Int) : PS := ⟨[none, some (.ref 2), none, none, some (.str typed), some (.str line), none, none, none, some (.str d1), some (.str d2), some (.str d3)] ++ List.replicate 28 none, [.tab 69, .tab 76, .list (pvi ns), .list [.str d1, .str d2, .str d3]]⟩
noncomputable def stS6 (typed line d1 d2 d3 : List Nat) (ns : List Int) (ps : List (List Nat)) : PS := ⟨[none, some (.ref 2), none, none, some (.str typed), some (.str line), none, none, none, some (.str d1), some (.str d2), some (.str d3), some (.ref 4)] ++ List.replicate 27 none, [.tab 69, .tab 76, .list (pvi ns), .list [.str d1, .str d2, .str d3], .list (ps.map .str)]⟩
section
variable (typed line d1 d2 d3 : List Nat) (s : Bs) (n0 n1 n2 n3 n4 n5 n6 n7 n8 n9 : Int)
theorem law5 (a b c : Bool) (ha : (n9.fdiv 1).fmod 2 = bi a) (hb : (n9.fdiv 2).fmod 2 = bi b) (hc : (n9.fdiv 4).fmod 2 = bi c) :
    lawF_5 (stS typed line [n0, n1, n2, n3, n4, n5, n6, n7, n8, n9]) = some (.next, stS5 typed line (dot a) (dot b) (dot c) [n0, n1, n2, n3, n4, n5, n6, n7, n8, n9]) := by
  refine (fb_eq (a := PV.ref 3) (σ := ⟨(stS typed line [n0, n1, n2, n3, n4, n5, n6, n7, n8, n9]).vars, (stS typed line [n0, n1, n2, n3, n4, n5, n6, n7, n8, n9]).mem ++ [.list [.str (dot a), .str (dot b), .str (dot c)]]⟩) ?_).trans rfl
  refine (fb_eq (a := PV.rng 0 3 1) (σ := stS typed line [n0, n1, n2, n3, n4, n5, n6, n7, n8, n9]) rfl).trans ?_
  refine (fb_eq (a := [PV.str (dot a), PV.str (dot b), PV.str (dot c)]) (σ := stS typed line [n0, n1, n2, n3, n4, n5, n6, n7, n8, n9]) ?_).trans rfl
  refine (fcomp_el (v := PV.int 0) (y := PV.str (dot a)) (by kernel_rfl) rfl ?_ (by decide)).trans ?_
  · refine (fb_eq (a := PV.str [46, 46, 46]) (σ := stS typed line [n0, n1, n2, n3, n4, n5, n6, n7, n8, n9]) rfl).trans ?_
    refine (fb_eq (a := PV.int (bi a)) (σ := stS typed line [n0, n1, n2, n3, n4, n5, n6, n7, n8, n9]) ?_).trans ?_
    · exact Eq.trans (b := some (PV.int ((n9.fdiv 1).fmod 2), stS typed line [n0, n1, n2, n3, n4, n5, n6, n7, n8, n9])) (by kernel_rfl) (by rw [ha])
    · cases a <;> kernel_rfl
  refine (fcomp_el (v := PV.int 1) (y := PV.str (dot b)) (by kernel_rfl) rfl ?_ (by simp)).trans ?_
  · refine (fb_eq (a := PV.str [46, 46, 46]) (σ := stS typed line [n0, n1, n2, n3, n4, n5, n6, n7, n8, n9]) rfl).trans ?_
    refine (fb_eq (a := PV.int (bi b)) (σ := stS typed line [n0, n1, n2, n3, n4, n5, n6, n7, n8, n9]) ?_).trans ?_
    · exact Eq.trans (b := some (PV.int ((n9.fdiv 2).fmod 2), stS typed line [n0, n1, n2, n3, n4, n5, n6, n7, n8, n9])) (by kernel_rfl) (by rw [hb])
    · cases b <;> kernel_rfl
  refine (fcomp_el (v := PV.int 2) (y := PV.str (dot c)) (by kernel_rfl) rfl ?_ (by simp)).trans ?_
  · refine (fb_eq (a := PV.str [46, 46, 46]) (σ := stS typed line [n0, n1, n2, n3, n4, n5, n6, n7, n8, n9]) rfl).trans ?_
    refine (fb_eq (a := PV.int (bi c)) (σ := stS typed line [n0, n1, n2, n3, n4, n5, n6, n7, n8, n9]) ?_).trans ?_
    · exact Eq.trans (b := some (PV.int ((n9.fdiv 4).fmod 2), stS typed line [n0, n1, n2, n3, n4, n5, n6, n7, n8, n9])) (by kernel_rfl) (by rw [hc])
    · cases c <;> kernel_rfl
  exact fcomp_done (by kernel_rfl)
theorem law6 : lawF_6 (stS5 typed line d1 d2 d3 [n0, n1, n2, n3, n4, n5, n6, n7, n8, n9]) = some (.next, stS6 typed line d1 d2 d3 [n0, n1, n2, n3, n4, n5, n6, n7, n8, n9] []) := by kernel_rfl
end
end Mine
end
section
open PySem PySem.W PyProof.Rows PySem.Calls
set_option maxHeartbeats 400000
namespace Mine
section
variable (n q : Int) (M : List PO)
noncomputable def tyS (n r q : Int) (l b c : Option PV) (M : List PO) : PS := ⟨[some (.int n), some (.int r), some (.int q), l, b, c], M⟩
theorem ty0 (r : Int) (hr : n.fmod 12 = r) (hq : n.fdiv 12 = q) : typF_0 ⟨[some (.int n), none, none, none, none, none], M⟩ = some (.next, tyS n r q none none none M) := by
  refine Eq.trans (b := some (.next, tyS n (n.fmod 12) (n.fdiv 12) none none none M)) (by kernel_rfl) (by rw [hr, hq])
theorem tyMid (r : Int) (hr : r = 4 ∨ r = 5 ∨ r = 6 ∨ r = 7 ∨ r = 8 ∨ r = 9) : seqs [typF_1, typF_2] (tyS n r q none none none M) = some (.ret (.tup [.str [[13187, 13188, 13189, 13190, 13262, 13261].getD (r.toNat - 4) 0], .str ([[109, 97], [107, 97], [107, 98], [109, 98], [107, 109], [107, 107]].getD (r.toNat - 4) [])]), tyS n r q none none (some (.int ([13187, 13188, 13189, 13190, 13262, 13261].getD (r.toNat - 4) 0 : Nat))) M) := by
  rcases hr with rfl | rfl | rfl | rfl | rfl | rfl <;> kernel_rfl
theorem tyDot : seqs [typF_1, typF_2, typF_3] (tyS n 10 q none none none M) = some (.ret (.tup [.str [46], .str [46]]), tyS n 10 q none none none M) := by kernel_rfl
theorem tyLow (r f : Int) (hr : r = 0 ∨ r = 1 ∨ r = 2 ∨ r = 3) (hf : f = 0 ∨ f = 1) (h : q.fmod 12 = f) : typF_1t_1 (tyS n r q (some (.str [[97, 98, 107, 109].getD r.toNat 0])) none none M) = some (.ret (.tup [.str [[97, 98, 107, 109].getD r.toNat 0 - 32 * f.toNat], .str [[97, 98, 107, 109].getD r.toNat 0]]), tyS n r q (some (.str [[97, 98, 107, 109].getD r.toNat 0])) none none M) := by
  have hm : oMod (.int q) (.int 12) (tyS n r q (some (.str [[97, 98, 107, 109].getD r.toNat 0])) none none M) = some (.int f, tyS n r q (some (.str [[97, 98, 107, 109].getD r.toNat 0])) none none M) := by
    refine Eq.trans (b := some (.int (q.fmod 12), tyS n r q (some (.str [[97, 98, 107, 109].getD r.toNat 0])) none none M)) (by kernel_rfl) (by rw [h])
  delta typF_1t_1
  refine (fb_eq (a := true) (σ := tyS n r q (some (.str [[97, 98, 107, 109].getD r.toNat 0])) none none M) ?_).trans ?_
  · refine (fb_eq (a := PV.int f) (σ := tyS n r q (some (.str [[97, 98, 107, 109].getD r.toNat 0])) none none M) hm).trans ?_
    rcases hf with rfl | rfl <;> kernel_rfl
  · have h0 : typF_1t_1t_0 (tyS n r q (some (.str [[97, 98, 107, 109].getD r.toNat 0])) none none M) = some (.ret (.tup [.str [[97, 98, 107, 109].getD r.toNat 0 - 32 * f.toNat], .str [[97, 98, 107, 109].getD r.toNat 0]]), tyS n r q (some (.str [[97, 98, 107, 109].getD r.toNat 0])) none none M) := by
      refine (fb_eq (a := PV.tup [.str [[97, 98, 107, 109].getD r.toNat 0 - 32 * f.toNat], .str [[97, 98, 107, 109].getD r.toNat 0]]) (σ := tyS n r q (some (.str [[97, 98, 107, 109].getD r.toNat 0])) none none M) ?_).trans rfl
      refine (fb_eq (a := [PV.str [[97, 98, 107, 109].getD r.toNat 0 - 32 * f.toNat], PV.str [[97, 98, 107, 109].getD r.toNat 0]]) (σ := tyS n r q (some (.str [[97, 98, 107, 109].getD r.toNat 0])) none none M) ?_).trans rfl
      refine (fb_eq (a := PV.str [[97, 98, 107, 109].getD r.toNat 0 - 32 * f.toNat]) (σ := tyS n r q (some (.str [[97, 98, 107, 109].getD r.toNat 0])) none none M) ?_).trans (by rcases hr with rfl | rfl | rfl | rfl <;> kernel_rfl)
      refine (fb_eq (a := [PV.int ([97, 98, 107, 109].getD r.toNat 0 - 32 * f.toNat : Nat)]) (σ := tyS n r q (some (.str [[97, 98, 107, 109].getD r.toNat 0])) none none M) ?_).trans (by rcases hr with rfl | rfl | rfl | rfl <;> rcases hf with rfl | rfl <;> kernel_rfl)
      refine (fb_eq (a := PV.int ([97, 98, 107, 109].getD r.toNat 0 - 32 * f.toNat : Nat)) (σ := tyS n r q (some (.str [[97, 98, 107, 109].getD r.toNat 0])) none none M) ?_).trans rfl
      refine (fb_eq (a := PV.int ([97, 98, 107, 109].getD r.toNat 0 : Nat)) (σ := tyS n r q (some (.str [[97, 98, 107, 109].getD r.toNat 0])) none none M) (by rcases hr with rfl | rfl | rfl | rfl <;> kernel_rfl)).trans ?_
      refine (fb_eq (a := PV.int (32 * f)) (σ := tyS n r q (some (.str [[97, 98, 107, 109].getD r.toNat 0])) none none M) ?_).trans (by rcases hr with rfl | rfl | rfl | rfl <;> rcases hf with rfl | rfl <;> kernel_rfl)
      refine (fb_eq (a := PV.int 32) (σ := tyS n r q (some (.str [[97, 98, 107, 109].getD r.toNat 0])) none none M) rfl).trans ?_
      exact (fb_eq (a := PV.int f) (σ := tyS n r q (some (.str [[97, 98, 107, 109].getD r.toNat 0])) none none M) hm).trans (by rcases hf with rfl | rfl <;> kernel_rfl)
    show fseq typF_1t_1t_0 _ _ = _
    unfold fseq
    rw [h0]
theorem tyHigh1 (r f : Int) (hf : f = 2 ∨ f = 3 ∨ f = 4 ∨ f = 5 ∨ f = 6 ∨ f = 7 ∨ f = 8 ∨ f = 9 ∨ f = 10 ∨ f = 11) (h : q.fmod 12 = f) : typF_1t_1 (tyS n r q (some (.str [[97, 98, 107, 109].getD r.toNat 0])) none none M) = some (.next, tyS n r q (some (.str [[97, 98, 107, 109].getD r.toNat 0])) none none M) := by
  have hm : oMod (.int q) (.int 12) (tyS n r q (some (.str [[97, 98, 107, 109].getD r.toNat 0])) none none M) = some (.int f, tyS n r q (some (.str [[97, 98, 107, 109].getD r.toNat 0])) none none M) := by
    refine Eq.trans (b := some (.int (q.fmod 12), tyS n r q (some (.str [[97, 98, 107, 109].getD r.toNat 0])) none none M)) (by kernel_rfl) (by rw [h])
  delta typF_1t_1
  refine (fb_eq (a := false) (σ := tyS n r q (some (.str [[97, 98, 107, 109].getD r.toNat 0])) none none M) ?_).trans rfl
  refine (fb_eq (a := PV.int f) (σ := tyS n r q (some (.str [[97, 98, 107, 109].getD r.toNat 0])) none none M) hm).trans ?_
  rcases hf with rfl | rfl | rfl | rfl | rfl | rfl | rfl | rfl | rfl | rfl <;> kernel_rfl
theorem tyHigh2 (r f : Int) (hf : f = 2 ∨ f = 3 ∨ f = 4 ∨ f = 5 ∨ f = 6 ∨ f = 7 ∨ f = 8 ∨ f = 9 ∨ f = 10 ∨ f = 11) (h : q.fmod 12 = f) : typF_1t_2 (tyS n r q (some (.str [[97, 98, 107, 109].getD r.toNat 0])) none none M) = some (.next, tyS n r q (some (.str [[97, 98, 107, 109].getD r.toNat 0])) (some (.int ([0, 1, 2, 4, 7, 8, 9, 10, 11, 12].getD (f.toNat - 2) 0 : Nat))) none M) := by
  have hm : oMod (.int q) (.int 12) (tyS n r q (some (.str [[97, 98, 107, 109].getD r.toNat 0])) none none M) = some (.int f, tyS n r q (some (.str [[97, 98, 107, 109].getD r.toNat 0])) none none M) := by
    refine Eq.trans (b := some (.int (q.fmod 12), tyS n r q (some (.str [[97, 98, 107, 109].getD r.toNat 0])) none none M)) (by kernel_rfl) (by rw [h])
  refine (fb_eq (a := PV.int ([0, 1, 2, 4, 7, 8, 9, 10, 11, 12].getD (f.toNat - 2) 0 : Nat)) (σ := tyS n r q (some (.str [[97, 98, 107, 109].getD r.toNat 0])) none none M) ?_).trans rfl
  refine (fb_eq (a := PV.tup [.int 0, .int 1, .int 2, .int 4, .int 7, .int 8, .int 9, .int 10, .int 11, .int 12]) (σ := tyS n r q (some (.str [[97, 98, 107, 109].getD r.toNat 0])) none none M) (by kernel_rfl)).trans ?_
  refine (fb_eq (a := PV.int (f - 2)) (σ := tyS n r q (some (.str [[97, 98, 107, 109].getD r.toNat 0])) none none M) ?_).trans (by rcases hf with rfl | rfl | rfl | rfl | rfl | rfl | rfl | rfl | rfl | rfl <;> kernel_rfl)
  exact (fb_eq (a := PV.int f) (σ := tyS n r q (some (.str [[97, 98, 107, 109].getD r.toNat 0])) none none M) hm).trans (by rcases hf with rfl | rfl | rfl | rfl | rfl | rfl | rfl | rfl | rfl | rfl <;> kernel_rfl)
theorem tyHigh3 (r f : Int) (hr : r = 0 ∨ r = 1 ∨ r = 2 ∨ r = 3) (hf : f = 2 ∨ f = 3 ∨ f = 4 ∨ f = 5 ∨ f = 6 ∨ f = 7 ∨ f = 8 ∨ f = 9 ∨ f = 10 ∨ f = 11) : typF_1t_3 (tyS n r q (some (.str [[97, 98, 107, 109].getD r.toNat 0])) (some (.int ([0, 1, 2, 4, 7, 8, 9, 10, 11, 12].getD (f.toNat - 2) 0 : Nat))) none M) = some (.ret (.tup [.str [119711 + 52 * [0, 1, 2, 4, 7, 8, 9, 10, 11, 12].getD (f.toNat - 2) 0 + [97, 98, 107, 109].getD r.toNat 0], .str [[97, 98, 107, 109].getD r.toNat 0]]), tyS n r q (some (.str [[97, 98, 107, 109].getD r.toNat 0])) (some (.int ([0, 1, 2, 4, 7, 8, 9, 10, 11, 12].getD (f.toNat - 2) 0 : Nat))) none M) := by
  rcases hr with rfl | rfl | rfl | rfl <;> rcases hf with rfl | rfl | rfl | rfl | rfl | rfl | rfl | rfl | rfl | rfl <;> kernel_rfl
theorem tyB0 : seqs [typF_1, typF_2, typF_3] (tyS n 11 q none none none M) = some (.next, tyS n 11 q none none none M) := by kernel_rfl
theorem tyB1 (f : Int) (hf : f = 0 ∨ f = 1 ∨ f = 2 ∨ f = 3 ∨ f = 4 ∨ f = 5 ∨ f = 6 ∨ f = 7 ∨ f = 8 ∨ f = 9 ∨ f = 10) (h : q.fmod 27 = f) : typF_4 (tyS n 11 q none none none M) = some (.ret (.tup [.str [[173, 847, 6150, 6155, 6156, 6157, 8203, 8204, 8205, 8288, 65279].getD f.toNat 0], .str []]), tyS n 11 q none none none M) := by
  have hm : oMod (.int q) (.int 27) (tyS n 11 q none none none M) = some (.int f, tyS n 11 q none none none M) := by
    refine Eq.trans (b := some (.int (q.fmod 27), tyS n 11 q none none none M)) (by kernel_rfl) (by rw [h])
  delta typF_4
  refine (fb_eq (a := true) (σ := tyS n 11 q none none none M) ?_).trans ?_
  · refine (fb_eq (a := PV.int f) (σ := tyS n 11 q none none none M) hm).trans ?_
    rcases hf with rfl | rfl | rfl | rfl | rfl | rfl | rfl | rfl | rfl | rfl | rfl <;> kernel_rfl
  · have h0 : typF_4t_0 (tyS n 11 q none none none M) = some (.ret (.tup [.str [[173, 847, 6150, 6155, 6156, 6157, 8203, 8204, 8205, 8288, 65279].getD f.toNat 0], .str []]), tyS n 11 q none none none M) := by
      refine (fb_eq (a := PV.tup [.str [[173, 847, 6150, 6155, 6156, 6157, 8203, 8204, 8205, 8288, 65279].getD f.toNat 0], .str []]) (σ := tyS n 11 q none none none M) ?_).trans rfl
      refine (fb_eq (a := [PV.str [[173, 847, 6150, 6155, 6156, 6157, 8203, 8204, 8205, 8288, 65279].getD f.toNat 0], PV.str []]) (σ := tyS n 11 q none none none M) ?_).trans rfl
      refine (fb_eq (a := PV.str [[173, 847, 6150, 6155, 6156, 6157, 8203, 8204, 8205, 8288, 65279].getD f.toNat 0]) (σ := tyS n 11 q none none none M) ?_).trans rfl
      refine (fb_eq (a := [PV.int ([173, 847, 6150, 6155, 6156, 6157, 8203, 8204, 8205, 8288, 65279].getD f.toNat 0 : Nat)]) (σ := tyS n 11 q none none none M) ?_).trans (by rcases hf with rfl | rfl | rfl | rfl | rfl | rfl | rfl | rfl | rfl | rfl | rfl <;> kernel_rfl)
      refine (fb_eq (a := PV.int ([173, 847, 6150, 6155, 6156, 6157, 8203, 8204, 8205, 8288, 65279].getD f.toNat 0 : Nat)) (σ := tyS n 11 q none none none M) ?_).trans rfl
      refine (fb_eq (a := PV.tup [.int 173, .int 847, .int 6150, .int 6155, .int 6156, .int 6157, .int 8203, .int 8204, .int 8205, .int 8288, .int 65279]) (σ := tyS n 11 q none none none M) (by kernel_rfl)).trans ?_
      exact (fb_eq (a := PV.int f) (σ := tyS n 11 q none none none M) hm).trans (by rcases hf with rfl | rfl | rfl | rfl | rfl | rfl | rfl | rfl | rfl | rfl | rfl <;> kernel_rfl)
    show fseq typF_4t_0 _ _ = _
    unfold fseq
    rw [h0]
theorem tyB2 (f : Int) (hf : f = 11 ∨ f = 12 ∨ f = 13 ∨ f = 14 ∨ f = 15 ∨ f = 16 ∨ f = 17 ∨ f = 18 ∨ f = 19 ∨ f = 20 ∨ f = 21 ∨ f = 22 ∨ f = 23 ∨ f = 24 ∨ f = 25 ∨ f = 26) (h : q.fmod 27 = f) : typF_4 (tyS n 11 q none none none M) = some (.next, tyS n 11 q none none none M) := by
  have hm : oMod (.int q) (.int 27) (tyS n 11 q none none none M) = some (.int f, tyS n 11 q none none none M) := by
    refine Eq.trans (b := some (.int (q.fmod 27), tyS n 11 q none none none M)) (by kernel_rfl) (by rw [h])
  delta typF_4
  refine (fb_eq (a := false) (σ := tyS n 11 q none none none M) ?_).trans rfl
  refine (fb_eq (a := PV.int f) (σ := tyS n 11 q none none none M) hm).trans ?_
  rcases hf with rfl | rfl | rfl | rfl | rfl | rfl | rfl | rfl | rfl | rfl | rfl | rfl | rfl | rfl | rfl | rfl <;> kernel_rfl
theorem tyB3 (f : Int) (hf : f = 11 ∨ f = 12 ∨ f = 13 ∨ f = 14 ∨ f = 15 ∨ f = 16 ∨ f = 17 ∨ f = 18 ∨ f = 19 ∨ f = 20 ∨ f = 21 ∨ f = 22 ∨ f = 23 ∨ f = 24 ∨ f = 25 ∨ f = 26) (h : q.fmod 27 = f) : typF_5 (tyS n 11 q none none none M) = some (.ret (.tup [.str [65013 + f.toNat], .str []]), tyS n 11 q none none none M) := by
  have hm : oMod (.int q) (.int 27) (tyS n 11 q none none none M) = some (.int f, tyS n 11 q none none none M) := by
    refine Eq.trans (b := some (.int (q.fmod 27), tyS n 11 q none none none M)) (by kernel_rfl) (by rw [h])
  refine (fb_eq (a := PV.tup [.str [65013 + f.toNat], .str []]) (σ := tyS n 11 q none none none M) ?_).trans rfl
  refine (fb_eq (a := [PV.str [65013 + f.toNat], PV.str []]) (σ := tyS n 11 q none none none M) ?_).trans rfl
  refine (fb_eq (a := PV.str [65013 + f.toNat]) (σ := tyS n 11 q none none none M) ?_).trans rfl
  refine (fb_eq (a := [PV.int (65013 + f.toNat : Nat)]) (σ := tyS n 11 q none none none M) ?_).trans (by rcases hf with rfl | rfl | rfl | rfl | rfl | rfl | rfl | rfl | rfl | rfl | rfl | rfl | rfl | rfl | rfl | rfl <;> kernel_rfl)
  refine (fb_eq (a := PV.int (65013 + f.toNat : Nat)) (σ := tyS n 11 q none none none M) ?_).trans rfl
  refine (fb_eq (a := PV.int 65013) (σ := tyS n 11 q none none none M) rfl).trans ?_
  exact (fb_eq (a := PV.int f) (σ := tyS n 11 q none none none M) hm).trans (by rcases hf with rfl | rfl | rfl | rfl | rfl | rfl | rfl | rfl | rfl | rfl | rfl | rfl | rfl | rfl | rfl | rfl <;> kernel_rfl)
end
end Mine
end
section
open PySem PySem.W PyProof.Rows PySem.Calls
set_option maxHeartbeats 400000
namespace Mine
theorem fseq_next {f g : PS → Option (Fl × PS)} {σ σ₁ : PS} (h : f σ = some (.next, σ₁)) : fseq f g σ = g σ₁ := by unfold fseq; rw [h]
theorem fseq_ret {f g : PS → Option (Fl × PS)} {σ σ₁ : PS} {v : PV} (h : f σ = some (.ret v, σ₁)) : fseq f g σ = some (.ret v, σ₁) := by unfold fseq; rw [h]
theorem fcall_ret {d : FnD} {F : PS → Option (Fl × PS)} {vs : List PV} {σ σ' : PS} {v : PV} (hl : vs.length = d.pn.length) (h : F ⟨vs.map some ++ d.rn.map fun _ => none, σ.mem⟩ = some (.ret v, σ')) : fcall d F vs σ = some (v, ⟨σ.vars, σ'.mem⟩) := by
  unfold fcall
  rw [if_pos hl, h]
theorem seqs_ret {l₂ : List (PS → Option (Fl × PS))} {σ₁ : PS} {v : PV} : ∀ {l₁ : List (PS → Option (Fl × PS))} {σ : PS}, seqs l₁ σ = some (.ret v, σ₁) → seqs (l₁ ++ l₂) σ = some (.ret v, σ₁)
  | [], σ, h => by simp [seqs] at h
  | f :: r, σ, h => by
    simp only [seqs, fseq, List.cons_append] at h ⊢
    split at h
    · exact seqs_ret h
    · rename_i hn
      rw [h]
noncomputable def pairsT : List (Nat × List Nat) :=
  (([97, 98, 107, 109] : List Nat).flatMap fun c => (c, [c]) :: (c - 32, [c]) :: ([0, 1, 2, 4, 7, 8, 9, 10, 11, 12] : List Nat).map fun b => (119711 + 52 * b + c, [c])) ++
  ([(13187, [109, 97]), (13188, [107, 97]), (13189, [107, 98]), (13190, [109, 98]), (13262, [107, 109]), (13261, [107, 107]), (46, [46])] ++
  (([173, 847, 6150, 6155, 6156, 6157, 8203, 8204, 8205, 8288, 65279] : List Nat).map (fun c => (c, [])) ++ (List.range 16).map fun k => (65024 + k, [])))
theorem ty1 (n q r : Int) (M : List PO) (hr : r = 0 ∨ r = 1 ∨ r = 2 ∨ r = 3) : typF_1 (tyS n r q none none none M) = seqs [typF_1t_1, typF_1t_2, typF_1t_3] (tyS n r q (some (.str [[97, 98, 107, 109].getD r.toNat 0])) none none M) := by
  delta typF_1; refine (fb_eq (a := true) (σ := tyS n r q none none none M) (by rcases hr with rfl | rfl | rfl | rfl <;> kernel_rfl)).trans ?_
  refine (fseq_next (σ₁ := tyS n r q (some (.str [[97, 98, 107, 109].getD r.toNat 0])) none none M) (by rcases hr with rfl | rfl | rfl | rfl <;> kernel_rfl)).trans rfl
noncomputable def GoodT (n : Int) (M : List PO) : Prop := ∃ c m σ', typF ⟨[some (.int n), none, none, none, none, none], M⟩ = some (.ret (.tup [.str [c], .str m]), σ') ∧ σ'.mem = M ∧ (c, m) ∈ pairsT
theorem natOf {f : Int} {n : Nat} (h0 : 0 ≤ f) (h1 : f < n) : ∃ k : Nat, k < n ∧ f = k := ⟨f.toNat, by omega, by omega⟩
theorem d4 : ∀ k : Nat, k < 4 → (k : Int) = 0 ∨ (k : Int) = 1 ∨ (k : Int) = 2 ∨ (k : Int) = 3 := by decide
theorem d6 : ∀ k : Nat, k < 10 → 4 ≤ k → (k : Int) = 4 ∨ (k : Int) = 5 ∨ (k : Int) = 6 ∨ (k : Int) = 7 ∨ (k : Int) = 8 ∨ (k : Int) = 9 := by decide
theorem d10 : ∀ k : Nat, k < 12 → 2 ≤ k → (k : Int) = 2 ∨ (k : Int) = 3 ∨ (k : Int) = 4 ∨ (k : Int) = 5 ∨ (k : Int) = 6 ∨ (k : Int) = 7 ∨ (k : Int) = 8 ∨ (k : Int) = 9 ∨ (k : Int) = 10 ∨ (k : Int) = 11 := by decide
theorem d11 : ∀ k : Nat, k < 11 → (k : Int) = 0 ∨ (k : Int) = 1 ∨ (k : Int) = 2 ∨ (k : Int) = 3 ∨ (k : Int) = 4 ∨ (k : Int) = 5 ∨ (k : Int) = 6 ∨ (k : Int) = 7 ∨ (k : Int) = 8 ∨ (k : Int) = 9 ∨ (k : Int) = 10 := by decide
set_option synthInstance.maxSize 4000 in
set_option synthInstance.maxHeartbeats 0 in
theorem d16 : ∀ k : Nat, k < 27 → 11 ≤ k → (k : Int) = 11 ∨ (k : Int) = 12 ∨ (k : Int) = 13 ∨ (k : Int) = 14 ∨ (k : Int) = 15 ∨ (k : Int) = 16 ∨ (k : Int) = 17 ∨ (k : Int) = 18 ∨ (k : Int) = 19 ∨ (k : Int) = 20 ∨ (k : Int) = 21 ∨ (k : Int) = 22 ∨ (k : Int) = 23 ∨ (k : Int) = 24 ∨ (k : Int) = 25 ∨ (k : Int) = 26 := by decide
set_option synthInstance.maxSize 4000 in
set_option synthInstance.maxHeartbeats 0 in
theorem tyAll (n : Int) (M : List PO) : GoodT n M := by
  obtain ⟨q, hq⟩ : ∃ q, n.fdiv 12 = q := ⟨_, rfl⟩
  obtain ⟨r, r1, hr⟩ := natOf (n := 12) (Int.fmod_nonneg_of_pos n (by decide)) (Int.fmod_lt_of_pos n (by decide))
  obtain ⟨f, f1, hf⟩ := natOf (n := 12) (Int.fmod_nonneg_of_pos q (by decide)) (Int.fmod_lt_of_pos q (by decide))
  obtain ⟨u, u1, hu⟩ := natOf (n := 27) (Int.fmod_nonneg_of_pos q (by decide)) (Int.fmod_lt_of_pos q (by decide))
  have h0 := ty0 n q M r hr hq
  have hstart : ∀ {v : PV} {σ' : PS}, seqs [typF_1, typF_2, typF_3, typF_4, typF_5] (tyS n r q none none none M) = some (.ret v, σ') → typF ⟨[some (.int n), none, none, none, none, none], M⟩ = some (.ret v, σ') := fun h => (fseq_next h0).trans h
  clear h0
  by_cases hlow : r < 4
  · have t1 := ty1 n q r M (d4 r hlow)
    by_cases hf2 : f < 2
    · have t2 := tyLow n q M r f (d4 r hlow) (show (f : Int) = 0 ∨ (f : Int) = 1 by omega) hf
      exact ⟨_, _, _, hstart (fseq_ret (t1.trans (fseq_ret t2))), rfl, (by decide +kernel : ∀ a : Nat, a < 4 → ∀ b : Nat, b < 2 → (([97, 98, 107, 109].getD (a : Int).toNat 0 - 32 * (b : Int).toNat : Nat), [([97, 98, 107, 109].getD (a : Int).toNat 0 : Nat)]) ∈ pairsT) r hlow f hf2⟩
    · have hff := d10 f f1 (by omega)
      have t2 := tyHigh1 n q M r f hff hf
      have t3 := tyHigh2 n q M r f hff hf
      have t4 := tyHigh3 n q M r f (d4 r hlow) hff
      exact ⟨_, _, _, hstart (fseq_ret (t1.trans ((fseq_next t2).trans ((fseq_next t3).trans (fseq_ret t4))))), rfl, (by decide +kernel : ∀ a : Nat, a < 4 → ∀ b : Nat, b < 12 → 2 ≤ b → ((119711 + 52 * [0, 1, 2, 4, 7, 8, 9, 10, 11, 12].getD ((b : Int).toNat - 2) 0 + [97, 98, 107, 109].getD (a : Int).toNat 0 : Nat), [([97, 98, 107, 109].getD (a : Int).toNat 0 : Nat)]) ∈ pairsT) r hlow f f1 (by omega)⟩
  · by_cases hmid : r < 10
    · exact ⟨_, _, _, hstart (seqs_ret (l₂ := [typF_3, typF_4, typF_5]) (tyMid n q M r (d6 r hmid (by omega)))), rfl, (by decide +kernel : ∀ a : Nat, a < 10 → 4 ≤ a → (([13187, 13188, 13189, 13190, 13262, 13261].getD ((a : Int).toNat - 4) 0 : Nat), (([[109, 97], [107, 97], [107, 98], [109, 98], [107, 109], [107, 107]] : List (List Nat)).getD ((a : Int).toNat - 4) [])) ∈ pairsT) r hmid (by omega)⟩
    · by_cases hdot : r = 10
      · subst hdot
        exact ⟨_, _, _, hstart (seqs_ret (l₂ := [typF_4, typF_5]) (tyDot n q M)), rfl, by decide +kernel⟩
      · have h11 : r = 11 := by omega
        subst h11
        have t0 := tyB0 n q M
        by_cases hu11 : u < 11
        · exact ⟨_, _, _, hstart ((seqs_app (l₂ := [typF_4, typF_5]) t0).trans (fseq_ret (tyB1 n q M u (d11 u hu11) hu))), rfl, (by decide +kernel : ∀ a : Nat, a < 11 → (([173, 847, 6150, 6155, 6156, 6157, 8203, 8204, 8205, 8288, 65279].getD (a : Int).toNat 0 : Nat), ([] : List Nat)) ∈ pairsT) u hu11⟩
        · have huu := d16 u u1 (by omega)
          exact ⟨_, _, _, hstart ((seqs_app (l₂ := [typF_4, typF_5]) t0).trans ((fseq_next (tyB2 n q M u huu hu)).trans (fseq_ret (tyB3 n q M u huu hu)))), rfl, (by decide +kernel : ∀ a : Nat, a < 27 → 11 ≤ a → (65013 + (a : Int).toNat, ([] : List Nat)) ∈ pairsT) u u1 (by omega)⟩
end Mine
end
section
open PySem PySem.W PyProof.Rows PySem.Calls
set_option maxHeartbeats 400000
namespace Mine
theorem b1_all (vs : List (Option PV)) (M : List PO) : (pairsT.map fun p => cB1 [.str [p.1]] ⟨vs, M⟩) = pairsT.map fun p => some (.bool (p.2.isEmpty), ⟨vs, M⟩) := by kernel_rfl
theorem b3_all (vs : List (Option PV)) (M : List PO) : ((pairsT.filter fun p => !p.2.isEmpty).map fun p => cB3 [.str [p.1]] ⟨vs, M⟩) = (pairsT.filter fun p => !p.2.isEmpty).map fun p => some (.str p.2, ⟨vs, M⟩) := by kernel_rfl
end Mine
end
section
open PySem PySem.W PyProof.Rows PySem.Calls
set_option maxHeartbeats 400000
namespace Mine
theorem b1_p {p : Nat × List Nat} (h : p ∈ pairsT) (vs : List (Option PV)) (M : List PO) : cB1 [.str [p.1]] ⟨vs, M⟩ = some (.bool (p.2.isEmpty), ⟨vs, M⟩) := List.map_inj_left.mp (b1_all vs M) p h
theorem b3_p {p : Nat × List Nat} (h : p ∈ pairsT) (hn : p.2.isEmpty = false) (vs : List (Option PV)) (M : List PO) : cB3 [.str [p.1]] ⟨vs, M⟩ = some (.str p.2, ⟨vs, M⟩) := List.map_inj_left.mp (b3_all vs M) p (List.mem_filter.mpr ⟨h, by rw [hn]; rfl⟩)
end Mine
end
section
open PySem PySem.W PyProof.Rows PySem.Calls
set_option maxHeartbeats 400000
namespace Mine
theorem cTyp_ok (n : Int) (vs : List (Option PV)) (M : List PO) : ∃ p ∈ pairsT, cTyp [.int n] ⟨vs, M⟩ = some (.tup [.str [p.1], .str p.2], ⟨vs, M⟩) := by
  obtain ⟨c, m, σ', h1, h2, h3⟩ := tyAll n M
  refine ⟨(c, m), h3, ?_⟩
  have := fcall_ret (d := dTyp .none .none .none) (F := typF) (vs := [.int n]) (σ := ⟨vs, M⟩) rfl h1
  rw [h2] at this
  exact this
end Mine
end
section
open PySem PySem.W PyProof.Rows PySem.Calls
set_option maxHeartbeats 400000
namespace Mine
noncomputable def stL (typed line : List Nat) (x y z : Option PV) (M : List PO) : PS := ⟨[none, some (.ref 2), none, none, some (.str typed), some (.str line), x, y, z] ++ List.replicate 31 none, M⟩
section
variable (typed line : List Nat) (y z : Option PV) (M : List PO) (n : Int) (p : Nat × List Nat)
theorem l30 (h : cTyp [.int n] (stL typed line (some (.int n)) y z M) = some (.tup [.str [p.1], .str p.2], stL typed line (some (.int n)) y z M)) :
    lawF_3b_0 (stL typed line (some (.int n)) y z M) = some (.next, stL typed line (some (.int n)) (some (.str [p.1])) (some (.str p.2)) M) := by
  refine (fb_eq (a := PV.tup [.str [p.1], .str p.2]) (σ := stL typed line (some (.int n)) y z M) ?_).trans rfl
  exact (fb_eq (a := [PV.int n]) (σ := stL typed line (some (.int n)) y z M) rfl).trans h
theorem l31 (h : cB1 [.str [p.1]] (stL typed line (some (.int n)) (some (.str [p.1])) (some (.str p.2)) M) = some (.bool (p.2.isEmpty), stL typed line (some (.int n)) (some (.str [p.1])) (some (.str p.2)) M)) (hc : ffinC [] M.length (stL typed line (some (.int n)) (some (.str [p.1])) (some (.str p.2)) M) = some (stL typed line (some (.int n)) (some (.str [p.1])) (some (.str p.2)) M)) : lawF_3b_1 (stL typed line (some (.int n)) (some (.str [p.1])) (some (.str p.2)) M) = some (.next, stL typed line (some (.int n)) (some (.str [p.1])) (some (.str p.2)) M) := by
  refine ffin_next (σ₁ := stL typed line (some (.int n)) (some (.str [p.1])) (some (.str p.2)) M) ?_ hc
  refine (fb_eq (a := false) (σ := stL typed line (some (.int n)) (some (.str [p.1])) (some (.str p.2)) M) ?_).trans rfl
  refine (fb_eq (a := PV.bool (p.2.isEmpty)) (σ := stL typed line (some (.int n)) (some (.str [p.1])) (some (.str p.2)) M) ?_).trans ?_
  · exact (fb_eq (a := [PV.str [p.1]]) (σ := stL typed line (some (.int n)) (some (.str [p.1])) (some (.str p.2)) M) rfl).trans h
  · refine (fb_eq (a := PV.bool (p.2 == [])) (σ := stL typed line (some (.int n)) (some (.str [p.1])) (some (.str p.2)) M) rfl).trans ?_
    show some ((p.2.isEmpty != (p.2 == [])), _) = _
    cases p.2 <;> rfl
theorem l32 (hl : (typed ++ [p.1]).length ≤ 4096) (hc : ffinC [] M.length (stL (typed ++ [p.1]) (line) (some (.int n)) (some (.str [p.1])) (some (.str p.2)) M) = some (stL (typed ++ [p.1]) (line) (some (.int n)) (some (.str [p.1])) (some (.str p.2)) M)) : lawF_3b_2 (stL (typed) (line) (some (.int n)) (some (.str [p.1])) (some (.str p.2)) M) = some (.next, stL (typed ++ [p.1]) (line) (some (.int n)) (some (.str [p.1])) (some (.str p.2)) M) := by
  refine ffin_next (σ₁ := stL (typed ++ [p.1]) (line) (some (.int n)) (some (.str [p.1])) (some (.str p.2)) M) ?_ hc
  refine (fb_eq (a := PV.str typed) (σ := stL (typed) (line) (some (.int n)) (some (.str [p.1])) (some (.str p.2)) M) rfl).trans ?_
  refine (fb_eq (a := PV.str [p.1]) (σ := stL (typed) (line) (some (.int n)) (some (.str [p.1])) (some (.str p.2)) M) rfl).trans ?_
  exact (fb_eq (a := PV.str (typed ++ [p.1])) (σ := stL (typed) (line) (some (.int n)) (some (.str [p.1])) (some (.str p.2)) M) (if_pos hl)).trans rfl
theorem l33 (hl : (line ++ p.2).length ≤ 4096) (hc : ffinC [] M.length (stL (typed) (line ++ p.2) (some (.int n)) (some (.str [p.1])) (some (.str p.2)) M) = some (stL (typed) (line ++ p.2) (some (.int n)) (some (.str [p.1])) (some (.str p.2)) M)) : lawF_3b_3 (stL (typed) (line) (some (.int n)) (some (.str [p.1])) (some (.str p.2)) M) = some (.next, stL (typed) (line ++ p.2) (some (.int n)) (some (.str [p.1])) (some (.str p.2)) M) := by
  refine ffin_next (σ₁ := stL (typed) (line ++ p.2) (some (.int n)) (some (.str [p.1])) (some (.str p.2)) M) ?_ hc
  refine (fb_eq (a := PV.str line) (σ := stL (typed) (line) (some (.int n)) (some (.str [p.1])) (some (.str p.2)) M) rfl).trans ?_
  refine (fb_eq (a := PV.str p.2) (σ := stL (typed) (line) (some (.int n)) (some (.str [p.1])) (some (.str p.2)) M) rfl).trans ?_
  exact (fb_eq (a := PV.str (line ++ p.2)) (σ := stL (typed) (line) (some (.int n)) (some (.str [p.1])) (some (.str p.2)) M) (if_pos hl)).trans rfl
end
end Mine
end
section
open PySem PySem.W PyProof.Rows PySem.Calls
set_option maxHeartbeats 400000
namespace Mine
theorem belowL_ints (n : Nat) : ∀ xs : List Int, belowL n (pvi xs) = true
  | [] => rfl
  | _ :: r => by
    show (true && belowL n (pvi r)) = true
    rw [belowL_ints n r]; rfl
theorem fenum_step {l a b n i : Nat} {f : PS → Option (Fl × PS)} {σ σ' : PS} {vs : List PV} {v : PV} (h1 : σ.mem[l]? = some (.list vs)) (h2 : vs[i]? = some v) (hb : f (fset b v (fset a (.int i) σ)) = some (.next, σ')) :
    fenum l a b f (n + 1) i σ = fenum l a b f n (i + 1) σ' := by
  rw [fenum, h1]; dsimp only; rw [h2]; dsimp only; rw [fb_eq hb]
theorem fenum_done {l a b n i : Nat} {f : PS → Option (Fl × PS)} {σ : PS} {vs : List PV} (h1 : σ.mem[l]? = some (.list vs)) (h2 : vs[i]? = none) : fenum l a b f (n + 1) i σ = some (.next, σ) := by
  rw [fenum, h1]; dsimp only; rw [h2]
noncomputable def stI (fl : PV) (k x : Option PV) (ns : List Int) (r : List PO) : PS := ⟨[some fl, some (.ref 2), k, x] ++ List.replicate 36 none, [.tab 69, .tab 76, .list (pvi ns)] ++ r⟩
noncomputable def stJ (ns : List Int) : PS := ⟨[none, some (.ref 2), none, none] ++ List.replicate 36 none, [.tab 69, .tab 76, .list (pvi ns)]⟩
theorem law0 (xs : List Int) : lawF_0 (st1 xs) = some (.next, stI (.flist (pvi xs)) none none [8, 13, 24, 11, 5, 10, 3, 6, 134, 37] []) := by kernel_rfl
theorem len10 : ∀ {l : List Int}, l.length = 10 → ∃ a b c d e f g h i j, l = [a, b, c, d, e, f, g, h, i, j]
  | [a, b, c, d, e, f, g, h, i, j], _ => ⟨a, b, c, d, e, f, g, h, i, j, rfl⟩
  | [], h => by simp at h
  | [_], h => by simp at h
  | [_, _], h => by simp at h
  | [_, _, _], h => by simp at h
  | [_, _, _, _], h => by simp at h
  | [_, _, _, _, _], h => by simp at h
  | [_, _, _, _, _, _], h => by simp at h
  | [_, _, _, _, _, _, _], h => by simp at h
  | [_, _, _, _, _, _, _, _], h => by simp at h
  | [_, _, _, _, _, _, _, _, _], h => by simp at h
  | _ :: _ :: _ :: _ :: _ :: _ :: _ :: _ :: _ :: _ :: _ :: _, h => by simp at h
theorem cutI (fl : PV) (vs : List PV) (hf : belowV 4 fl = true) (hv : belowL 4 vs = true) (i x n0 n1 n2 n3 n4 n5 n6 n7 n8 n9 : Int) :
    ffinC [] 4 (stI fl (some (.int i)) (some (.int x)) [n0, n1, n2, n3, n4, n5, n6, n7, n8, n9] [.list vs]) = some (stI fl (some (.int i)) (some (.int x)) [n0, n1, n2, n3, n4, n5, n6, n7, n8, n9] [.list vs]) := by
  have h1 : (((stI fl (some (.int i)) (some (.int x)) [n0, n1, n2, n3, n4, n5, n6, n7, n8, n9] [.list vs]).mem.take 4).all (belowO 4)) = true := by
    refine Eq.trans (b := (belowL 4 vs && true)) (by kernel_rfl) (by rw [hv]; rfl)
  unfold ffinC
  rw [if_pos h1]
  refine congrArg some ?_
  refine Eq.trans (b := ⟨[if belowV 4 fl = true then some fl else none, some (.ref 2), some (.int i), some (.int x)] ++ List.replicate 36 none, (stI fl (some (.int i)) (some (.int x)) [n0, n1, n2, n3, n4, n5, n6, n7, n8, n9] [.list vs]).mem⟩) (by kernel_rfl) ?_
  rw [if_pos hf]
  rfl
theorem d9 : ∀ k : Nat, k < 10 → ((k : Int) = 0 ∨ (k : Int) = 1 ∨ (k : Int) = 2 ∨ (k : Int) = 3 ∨ (k : Int) = 4 ∨ (k : Int) = 5 ∨ (k : Int) = 6 ∨ (k : Int) = 7 ∨ (k : Int) = 8 ∨ (k : Int) = 9) := by decide
theorem l1b (fl : PV) (vs : List PV) (hf : belowV 4 fl = true) (hv : belowL 4 vs = true) (i : Nat) (x n0 n1 n2 n3 n4 n5 n6 n7 n8 n9 : Int) :
    ∃ ns', ns'.length = 10 ∧ fseq lawF_1b_0 (fun σ => some (Fl.next, σ)) (stI fl (some (.int i)) (some (.int x)) [n0, n1, n2, n3, n4, n5, n6, n7, n8, n9] [.list vs]) = some (.next, stI fl (some (.int i)) (some (.int x)) ns' [.list vs]) := by
  obtain ⟨k, hk, hkk⟩ : ∃ k : Int, (i : Int).fmod 10 = k ∧ (k = 0 ∨ k = 1 ∨ k = 2 ∨ k = 3 ∨ k = 4 ∨ k = 5 ∨ k = 6 ∨ k = 7 ∨ k = 8 ∨ k = 9) := by
    obtain ⟨j, hj, hk⟩ := natOf (n := 10) (Int.fmod_nonneg_of_pos (i : Int) (by decide)) (Int.fmod_lt_of_pos (i : Int) (by decide))
    exact ⟨j, hk, d9 j hj⟩
  refine ⟨[n0, n1, n2, n3, n4, n5, n6, n7, n8, n9].set k.toNat ([n0, n1, n2, n3, n4, n5, n6, n7, n8, n9].getD k.toNat 0 + x.fmod 1000000), by simp, ?_⟩
  have key : ∀ ns' : List Int, ns'.length = 10 → ns' = [n0, n1, n2, n3, n4, n5, n6, n7, n8, n9].set k.toNat ([n0, n1, n2, n3, n4, n5, n6, n7, n8, n9].getD k.toNat 0 + x.fmod 1000000) → lawF_1b_0 (stI fl (some (.int i)) (some (.int x)) [n0, n1, n2, n3, n4, n5, n6, n7, n8, n9] [.list vs]) = some (.next, stI fl (some (.int i)) (some (.int x)) ns' [.list vs]) := by
    intro ns' hl he
    refine ffin_next (σ₁ := stI fl (some (.int i)) (some (.int x)) ns' [.list vs]) ?_ ?_
    · refine (fb_eq (a := PV.ref 2) (σ := stI fl (some (.int i)) (some (.int x)) [n0, n1, n2, n3, n4, n5, n6, n7, n8, n9] [.list vs]) rfl).trans ?_
      refine (fb_eq (a := PV.int k) (σ := stI fl (some (.int i)) (some (.int x)) [n0, n1, n2, n3, n4, n5, n6, n7, n8, n9] [.list vs]) ?_).trans ?_
      · refine Eq.trans (b := some (PV.int ((i : Int).fmod 10), stI fl (some (.int i)) (some (.int x)) [n0, n1, n2, n3, n4, n5, n6, n7, n8, n9] [.list vs])) (by kernel_rfl) (by rw [hk])
      · subst he
        rcases hkk with rfl | rfl | rfl | rfl | rfl | rfl | rfl | rfl | rfl | rfl <;> kernel_rfl
    · obtain ⟨a0, a1, a2, a3, a4, a5, a6, a7, a8, a9, rfl⟩ := len10 hl
      exact cutI fl vs hf hv _ _ _ _ _ _ _ _ _ _ _ _
  unfold fseq
  rw [key _ (by simp) rfl]
theorem enumL (fl : PV) (xs : List Int) (hf : belowV 4 fl = true) : ∀ (m i n : Nat) (k x : Option PV) (ns : List Int), ns.length = 10 → i + m = xs.length →
    ∃ ns' k' x', ns'.length = 10 ∧ fenum 3 2 3 (fseq lawF_1b_0 fun σ => some (Fl.next, σ)) (n + m + 1) i (stI fl k x ns [.list (pvi xs)]) = some (.next, stI fl k' x' ns' [.list (pvi xs)]) := by
  intro m
  induction m with
  | zero => exact fun i n k x ns hn hi => ⟨ns, k, x, hn, fenum_done (vs := pvi xs) rfl (by simp [pvi]; omega)⟩
  | succ m ih =>
    intro i n k x ns hn hi
    obtain ⟨n0, n1, n2, n3, n4, n5, n6, n7, n8, n9, rfl⟩ := len10 hn
    have hlt : i < xs.length := by omega
    obtain ⟨ns', hl', hb⟩ := l1b fl (pvi xs) hf (belowL_ints 4 xs) i xs[i] n0 n1 n2 n3 n4 n5 n6 n7 n8 n9
    obtain ⟨ns2, k2, x2, h2, h3⟩ := ih (i + 1) n (some (.int i)) (some (.int xs[i])) ns' hl' (by omega)
    refine ⟨ns2, k2, x2, h2, ?_⟩
    rw [show n + (m + 1) + 1 = (n + m + 1) + 1 by omega]
    exact (fenum_step (vs := pvi xs) (v := .int xs[i]) rfl (by simp [pvi, hlt]) hb).trans h3
theorem fidx63 : ∀ n, n < 64 → fidx n none (some 63) = List.range n := by decide +kernel
theorem take63 (xs : List Int) (h : xs.length ≤ 63) : (fidx (pvi xs).length none (some 63)).filterMap ((pvi xs)[·]?) = pvi xs := by
  rw [fidx63 _ (by simp [pvi]; omega)]
  have := StrLaws.picks (pvi xs) (pvi xs).length 0 (by omega)
  simpa using this
theorem law1 (xs : List Int) (h : xs.length ≤ 63) : ∃ ns, ns.length = 10 ∧ lawF_1 (stI (.flist (pvi xs)) none none [8, 13, 24, 11, 5, 10, 3, 6, 134, 37] []) = some (.next, stJ ns) := by
  obtain ⟨ns', k', x', hl, he⟩ := enumL (.flist (pvi xs)) xs (belowL_ints 4 xs) xs.length 0 (199 - xs.length) none none [8, 13, 24, 11, 5, 10, 3, 6, 134, 37] rfl (by omega)
  rw [show 199 - xs.length + xs.length + 1 = 200 by omega] at he
  refine ⟨ns', hl, ffin_next (σ₁ := stI (.flist (pvi xs)) k' x' ns' [.list (pvi xs)]) ?_ ?_⟩
  · refine (fb_eq (a := PV.ref 3) (σ := stI (.flist (pvi xs)) none none [8, 13, 24, 11, 5, 10, 3, 6, 134, 37] [.list (pvi xs)]) ?_).trans he
    have : fsl (.flist (pvi xs)) none (some 63) none (stI (.flist (pvi xs)) none none [8, 13, 24, 11, 5, 10, 3, 6, 134, 37] []) = some (PV.ref 3, stI (.flist (pvi xs)) none none [8, 13, 24, 11, 5, 10, 3, 6, 134, 37] [.list (pvi xs)]) := by
      show (if (pvi xs).length ≤ 4096 then fnew (.list ((fidx (pvi xs).length none (some 63)).filterMap ((pvi xs)[·]?))) (stI (.flist (pvi xs)) none none [8, 13, 24, 11, 5, 10, 3, 6, 134, 37] []) else none) = _
      rw [if_pos (by simp [pvi]; omega), take63 xs h]
      rfl
    exact this
  · obtain ⟨a0, a1, a2, a3, a4, a5, a6, a7, a8, a9, rfl⟩ := len10 hl
    kernel_rfl
theorem law2 (ns : List Int) : lawF_2 (stJ ns) = some (.next, stL [] [] none none none [.tab 69, .tab 76, .list (pvi ns)]) := by kernel_rfl
end Mine
end
section
open PySem PySem.W PyProof.Rows PySem.Calls
set_option maxHeartbeats 400000
namespace Mine
noncomputable def txtOf (ps : List (Nat × List Nat)) : List Nat := ps.map (·.1)
noncomputable def lineOf (ps : List (Nat × List Nat)) : List Nat := ps.flatMap (·.2)
theorem pairs_short : ∀ p ∈ pairsT, p.2.length ≤ 2 := by decide +kernel
theorem line_len : ∀ ps : List (Nat × List Nat), (∀ p ∈ ps, p ∈ pairsT) → (lineOf ps).length ≤ 2 * ps.length
  | [], _ => by simp [lineOf]
  | p :: r, h => by
    have h1 := pairs_short p (h p (.head _))
    have h2 := line_len r fun q hq => h q (.tail _ hq)
    unfold lineOf at h2 ⊢
    simp only [List.flatMap_cons, List.length_append, List.length_cons]
    omega
theorem txt_snoc (ps : List (Nat × List Nat)) (p : Nat × List Nat) : txtOf ps ++ [p.1] = txtOf (ps ++ [p]) := by simp [txtOf]
theorem line_snoc (ps : List (Nat × List Nat)) (p : Nat × List Nat) : lineOf ps ++ p.2 = lineOf (ps ++ [p]) := by simp [lineOf]
section
variable (n0 n1 n2 n3 n4 n5 n6 n7 n8 n9 : Int)
noncomputable def M4 : List PO := [.tab 69, .tab 76, .list [.int n0, .int n1, .int n2, .int n3, .int n4, .int n5, .int n6, .int n7, .int n8, .int n9], .list [.int n0, .int n1, .int n2, .int n3, .int n4, .int n5, .int n6, .int n7, .int n8]]
noncomputable def nAt (i : Nat) : Int := [n0, n1, n2, n3, n4, n5, n6, n7, n8].getD i 0
theorem cut3 (typed line : List Nat) (n : Int) (s m : List Nat) : ffinC [] 4 (stL typed line (some (.int n)) (some (.str s)) (some (.str m)) (M4 n0 n1 n2 n3 n4 n5 n6 n7 n8 n9)) = some (stL typed line (some (.int n)) (some (.str s)) (some (.str m)) (M4 n0 n1 n2 n3 n4 n5 n6 n7 n8 n9)) := by kernel_rfl
theorem l3 (ps : List (Nat × List Nat)) (hps : ∀ p ∈ ps, p ∈ pairsT) (hl : ps.length ≤ 9) (y z : Option PV) (n : Int) :
    ∃ p ∈ pairsT, seqs [lawF_3b_0, lawF_3b_1, lawF_3b_2, lawF_3b_3] (stL (txtOf ps) (lineOf ps) (some (.int n)) y z (M4 n0 n1 n2 n3 n4 n5 n6 n7 n8 n9)) =
      some (.next, stL (txtOf (ps ++ [p])) (lineOf (ps ++ [p])) (some (.int n)) (some (.str [p.1])) (some (.str p.2)) (M4 n0 n1 n2 n3 n4 n5 n6 n7 n8 n9)) := by
  obtain ⟨p, hp, h⟩ := cTyp_ok n (stL (txtOf ps) (lineOf ps) (some (.int n)) y z (M4 n0 n1 n2 n3 n4 n5 n6 n7 n8 n9)).vars (M4 n0 n1 n2 n3 n4 n5 n6 n7 n8 n9)
  refine ⟨p, hp, ?_⟩
  have hb := b1_p hp (stL (txtOf ps) (lineOf ps) (some (.int n)) (some (.str [p.1])) (some (.str p.2)) (M4 n0 n1 n2 n3 n4 n5 n6 n7 n8 n9)).vars (M4 n0 n1 n2 n3 n4 n5 n6 n7 n8 n9)
  have hlen := line_len ps hps
  have hs := pairs_short p hp
  refine (fseq_next (l30 _ _ y z _ n p h)).trans ?_
  refine (fseq_next (l31 _ _ _ n p hb (cut3 _ _ _ _ _ _ _ _ _ _ _ _ _ _ _))).trans ?_
  refine (fseq_next (l32 (txtOf ps) (lineOf ps) (M4 n0 n1 n2 n3 n4 n5 n6 n7 n8 n9) n p (by simp [txtOf]; omega) (cut3 _ _ _ _ _ _ _ _ _ _ _ _ _ _ _))).trans ?_
  refine (fseq_next (l33 (txtOf ps ++ [p.1]) (lineOf ps) (M4 n0 n1 n2 n3 n4 n5 n6 n7 n8 n9) n p (by simp; omega) (cut3 _ _ _ _ _ _ _ _ _ _ _ _ _ _ _))).trans ?_
  rw [txt_snoc, line_snoc]
  rfl
theorem loop3 : ∀ (m i : Nat) (ps : List (Nat × List Nat)) (x y z : Option PV), i + m = 9 → ps.length = i → (∀ p ∈ ps, p ∈ pairsT) →
    ∃ ps' x' y' z', ps'.length = 9 ∧ (∀ p ∈ ps', p ∈ pairsT) ∧ fforC [] 4 (nxOf (.ref 3)) (fun v σ => some (fset 6 v σ)) (seqs [lawF_3b_0, lawF_3b_1, lawF_3b_2, lawF_3b_3]) (190 + m + 1) i (stL (txtOf ps) (lineOf ps) x y z (M4 n0 n1 n2 n3 n4 n5 n6 n7 n8 n9)) =
      some (.next, stL (txtOf ps') (lineOf ps') x' y' z' (M4 n0 n1 n2 n3 n4 n5 n6 n7 n8 n9)) := by
  intro m
  induction m with
  | zero =>
    intro i ps x y z hi hl hps
    have h9 : i = 9 := by omega
    subst h9
    exact ⟨ps, x, y, z, hl, hps, fforC_done (by kernel_rfl)⟩
  | succ m ih =>
    intro i ps x y z hi hl hps
    obtain ⟨p, hp, h⟩ := l3 n0 n1 n2 n3 n4 n5 n6 n7 n8 n9 ps hps (by omega) y z (nAt n0 n1 n2 n3 n4 n5 n6 n7 n8 i)
    obtain ⟨ps', x', y', z', h1, h2, h3⟩ := ih (i + 1) (ps ++ [p]) (some (.int (nAt n0 n1 n2 n3 n4 n5 n6 n7 n8 i))) (some (.str [p.1])) (some (.str p.2)) (by omega) (by simp [hl]) (fun q hq => by
      rcases List.mem_append.mp hq with hq | hq
      · exact hps q hq
      · rw [List.mem_singleton.mp hq]; exact hp)
    refine ⟨ps', x', y', z', h1, h2, Eq.trans ?_ h3⟩
    refine fforC_step (v := .int (nAt n0 n1 n2 n3 n4 n5 n6 n7 n8 i)) (σ₁ := stL (txtOf ps) (lineOf ps) (some (.int (nAt n0 n1 n2 n3 n4 n5 n6 n7 n8 i))) y z (M4 n0 n1 n2 n3 n4 n5 n6 n7 n8 n9)) ?_ rfl h (cut3 _ _ _ _ _ _ _ _ _ _ _ _ _ _ _)
    have hc : i = 0 ∨ i = 1 ∨ i = 2 ∨ i = 3 ∨ i = 4 ∨ i = 5 ∨ i = 6 ∨ i = 7 ∨ i = 8 := (by decide : ∀ i : Nat, i < 9 → i = 0 ∨ i = 1 ∨ i = 2 ∨ i = 3 ∨ i = 4 ∨ i = 5 ∨ i = 6 ∨ i = 7 ∨ i = 8) i (by omega)
    rcases hc with rfl | rfl | rfl | rfl | rfl | rfl | rfl | rfl | rfl <;> kernel_rfl
theorem law3 : ∃ ps, ps.length = 9 ∧ (∀ p ∈ ps, p ∈ pairsT) ∧ lawF_3 (stL [] [] none none none [.tab 69, .tab 76, .list (pvi [n0, n1, n2, n3, n4, n5, n6, n7, n8, n9])]) = some (.next, stS (txtOf ps) (lineOf ps) [n0, n1, n2, n3, n4, n5, n6, n7, n8, n9]) := by
  obtain ⟨ps, x, y, z, h1, h2, h3⟩ := loop3 n0 n1 n2 n3 n4 n5 n6 n7 n8 n9 9 0 [] none none none rfl rfl (by simp)
  refine ⟨ps, h1, h2, ffin_next (σ₁ := stL (txtOf ps) (lineOf ps) x y z (M4 n0 n1 n2 n3 n4 n5 n6 n7 n8 n9)) ?_ (by kernel_rfl)⟩
  refine (fb_eq (a := PV.ref 3) (σ := stL [] [] none none none (M4 n0 n1 n2 n3 n4 n5 n6 n7 n8 n9)) (by kernel_rfl)).trans ?_
  exact h3
end
end Mine
end
section
open PySem PySem.W PyProof.Rows PySem.Calls
set_option maxHeartbeats 400000
namespace Mine
theorem join_flat : ∀ ss : List (List Nat), (Str.join (mkS' []) (ss.map mkS')).cps.toList = ss.flatten
  | [] => rfl
  | [a] => by simp [Str.join, mkS']
  | a :: b :: r => by
    have ih := join_flat (b :: r)
    simp only [List.map_cons] at ih ⊢
    rw [Str.join]
    · rw [Str.cps_append, Str.cps_append, Array.toList_append, Array.toList_append, ih]
      simp [mkS']
    · intro h; cases h
theorem join_flat' (ss : List (List Nat)) : (Txt.join (mkS' []) (ss.map mkS')).cps.toList = ss.flatten := by
  unfold Txt.join
  rw [StrLaws.glued_eq_join]
  exact join_flat ss
theorem pStrs_map : ∀ ss : List (List Nat), pStrs (ss.map .str) = some ss
  | [] => rfl
  | a :: r => by
    show (pStrs (r.map .str)).map (a :: ·) = _
    rw [pStrs_map r]; rfl
noncomputable def nonE (ps : List (Nat × List Nat)) : List (List Nat) := (ps.filter fun p => !p.2.isEmpty).map (·.2)
theorem nonE_flat : ∀ ps, (nonE ps).flatten = lineOf ps
  | [] => rfl
  | (c, m) :: r => by
    have ih := nonE_flat r
    unfold nonE lineOf at *
    cases m with
    | nil => simpa using ih
    | cons x y => simp [ih]
theorem nonE_len (ps) : (nonE ps).length ≤ ps.length := by
  unfold nonE
  rw [List.length_map]
  exact List.length_filter_le ..
theorem nonE_sum : ∀ ps, ((nonE ps).map List.length).sum = (lineOf ps).length
  | [] => rfl
  | (c, m) :: r => by
    have ih := nonE_sum r
    unfold nonE lineOf at *
    cases m with
    | nil => simpa using ih
    | cons x y => simp at ih ⊢; omega
noncomputable abbrev ts4 : PV → PS → Option (Bool × PS) := fun v σ => fb (fb (fb (fb (some (v, σ)) fun v σ => fb (some ([], σ)) fun vs σ => some (v :: vs, σ)) fun vs σ => cB1 vs σ) fTruth) fun b σ => some (!b, σ)
noncomputable abbrev el4 : PV → PS → Option (PV × PS) := fun v σ => fb (fb (some (v, σ)) fun v σ => fb (some ([], σ)) fun vs σ => some (v :: vs, σ)) fun vs σ => cB3 vs σ
theorem comp4 (ps : List (Nat × List Nat)) (hps : ∀ p ∈ ps, p ∈ pairsT) (h9 : ps.length ≤ 9) (σ : PS) : ∀ (qs pre : List (Nat × List Nat)) (n : Nat), pre ++ qs = ps →
    fcomp (nxOf (.str (txtOf ps))) ts4 el4 (n + qs.length + 1) pre.length ((nonE pre).map .str) σ = some ((nonE ps).map .str, σ) := by
  intro qs
  induction qs with
  | nil =>
    intro pre n h
    have e : ps = pre := by simpa using h.symm
    subst e
    refine fcomp_done ?_
    show some ((txtOf ps)[ps.length]?.map fun c => PV.str [c]) = some none
    rw [List.getElem?_eq_none (by simp [txtOf])]; rfl
  | cons p qs ih =>
    intro pre n h
    have hp : p ∈ pairsT := hps p (h ▸ List.mem_append_right _ (.head _))
    have hl : pre.length < ps.length := by rw [← h]; simp
    have ih := ih (pre ++ [p]) n (by rw [← h]; simp)
    rw [List.length_append, List.length_singleton] at ih
    have hn : nxOf (.str (txtOf ps)) pre.length σ = some (some (.str [p.1])) := by
      show some ((txtOf ps)[pre.length]?.map fun c => PV.str [c]) = _
      rw [← h]; simp [txtOf]
    obtain ⟨vs, M⟩ := σ
    have hb := b1_p hp vs M
    rw [show n + (p :: qs).length + 1 = (n + qs.length + 1) + 1 by simp; omega]
    obtain ⟨c, m⟩ := p
    cases hm : m.isEmpty with
    | true =>
      have e : nonE (pre ++ [(c, m)]) = nonE pre := by unfold nonE; simp [hm]
      rw [e] at ih
      refine (fcomp_skip hn ?_).trans ih
      show fb (fb (cB1 [.str [c]] ⟨vs, M⟩) fTruth) _ = _
      rw [hb, hm]; rfl
    | false =>
      have e : nonE (pre ++ [(c, m)]) = nonE pre ++ [m] := by unfold nonE; simp [hm]
      rw [e, List.map_append] at ih
      refine (fcomp_el (y := .str m) hn ?_ ?_ ?_).trans ih
      · show fb (fb (cB1 [.str [c]] ⟨vs, M⟩) fTruth) _ = _
        rw [hb, hm]; rfl
      · exact b3_p hp hm vs M
      · rw [List.length_map]
        have := nonE_len pre
        omega
theorem law4 (ps : List (Nat × List Nat)) (hps : ∀ p ∈ ps, p ∈ pairsT) (h9 : ps.length = 9) (n0 n1 n2 n3 n4 n5 n6 n7 n8 n9 : Int) :
    lawF_4 (stS (txtOf ps) (lineOf ps) [n0, n1, n2, n3, n4, n5, n6, n7, n8, n9]) = some (.next, stS (txtOf ps) (lineOf ps) [n0, n1, n2, n3, n4, n5, n6, n7, n8, n9]) := by
  have hc := comp4 ps hps (by omega) (stS (txtOf ps) (lineOf ps) [n0, n1, n2, n3, n4, n5, n6, n7, n8, n9]) ps [] 190 rfl
  rw [h9] at hc
  let σ₂ : PS := ⟨(stS (txtOf ps) (lineOf ps) [n0, n1, n2, n3, n4, n5, n6, n7, n8, n9]).vars, [.tab 69, .tab 76, .list (pvi [n0, n1, n2, n3, n4, n5, n6, n7, n8, n9]), .list ((nonE ps).map .str)]⟩
  refine ffin_next (σ₁ := σ₂) ?_ (by kernel_rfl)
  refine (fb_eq (a := false) (σ := σ₂) ?_).trans rfl
  refine (fb_eq (a := PV.str (lineOf ps)) (σ := σ₂) ?_).trans ?_
  · refine (fb_eq (a := [PV.ref 3]) (σ := σ₂) ?_).trans ?_
    · refine (fb_eq (a := PV.ref 3) (σ := σ₂) ?_).trans rfl
      refine (fb_eq (a := PV.str (txtOf ps)) (σ := stS (txtOf ps) (lineOf ps) [n0, n1, n2, n3, n4, n5, n6, n7, n8, n9]) rfl).trans ?_
      exact (fb_eq hc).trans rfl
    · show (pStrs ((nonE ps).map .str)).bind (fun ss => if JoinOk (mkS' []) (ss.map mkS') = true then some (PV.str (Txt.join (mkS' []) (ss.map mkS')).cps.toList, σ₂) else none) = _
      rw [pStrs_map]
      show (if JoinOk (mkS' []) ((nonE ps).map mkS') = true then some (PV.str (Txt.join (mkS' []) ((nonE ps).map mkS')).cps.toList, σ₂) else none) = _
      rw [if_pos, join_flat', nonE_flat]
      refine joinOk_of_weight ?_ (by simp)
      rw [List.map_map, show (Str.length ∘ mkS') = List.length from funext fun s => mkS'_len s, nonE_sum, List.length_map]
      have := nonE_len ps
      have := line_len ps hps
      omega
  · refine (fb_eq (a := PV.str (lineOf ps)) (σ := σ₂) rfl).trans ?_
    refine (fb_eq (a := PV.bool (!(lineOf ps == lineOf ps))) (σ := σ₂) rfl).trans ?_
    rw [show (lineOf ps == lineOf ps) = true from beq_self_eq_true _]
    rfl
end Mine
end
section
open PySem PySem.W PyProof.Rows PySem.Calls
set_option maxHeartbeats 400000
namespace Mine
theorem belowL_strs (n : Nat) : ∀ xs : List (List Nat), belowL n (xs.map .str) = true
  | [] => rfl
  | _ :: r => by
    show (true && belowL n (r.map .str)) = true
    rw [belowL_strs n r]; rfl
theorem or_two {f g : PS → Option (Bool × PS)} {σ : PS} {x y : Bool} (hf : f σ = some (x, σ)) (hg : g σ = some (y, σ)) : ffor' [f, g] σ = some (x || y, σ) := by
  refine (fb_eq hf).trans ?_
  cases x
  · refine (fb_eq hg).trans ?_
    cases y <;> rfl
  · rfl
theorem and_three {f g h : PS → Option (Bool × PS)} {σ : PS} {x y z : Bool} (hf : f σ = some (x, σ)) (hg : g σ = some (y, σ)) (hh : h σ = some (z, σ)) : fand [f, g, h] σ = some (x && (y && z), σ) := by
  refine (fb_eq hf).trans ?_
  cases x
  · rfl
  · refine (fb_eq hg).trans ?_
    cases y
    · rfl
    · refine (fb_eq hh).trans ?_
      cases z <;> rfl
section
variable (typed line : List Nat) (a b c : Bool) (n0 n1 n2 n3 n4 n5 n6 n7 n8 n9 : Int)
noncomputable def stU (ps : List (List Nat)) (i j : Option PV) : PS := ⟨[none, some (.ref 2), none, none, some (.str typed), some (.str line), none, none, none, some (.str (dot a)), some (.str (dot b)), some (.str (dot c)), some (.ref 4), i, j] ++ List.replicate 25 none, [.tab 69, .tab 76, .list (pvi [n0, n1, n2, n3, n4, n5, n6, n7, n8, n9]), .list [.str (dot a), .str (dot b), .str (dot c)], .list (ps.map .str)]⟩
theorem cutU (ps : List (List Nat)) (i : Int) (j : Option PV) (hj : j = none ∨ ∃ k : Int, j = some (.int k)) : ffinC [] 5 (stU typed line a b c n0 n1 n2 n3 n4 n5 n6 n7 n8 n9 ps (some (.int i)) j) = some (stU typed line a b c n0 n1 n2 n3 n4 n5 n6 n7 n8 n9 ps (some (.int i)) j) := by
  have h1 : (((stU typed line a b c n0 n1 n2 n3 n4 n5 n6 n7 n8 n9 ps (some (.int i)) j).mem.take 5).all (belowO 5)) = true := by
    refine Eq.trans (b := (belowL 5 (ps.map .str) && true)) (by kernel_rfl) (by rw [belowL_strs]; rfl)
  unfold ffinC
  rw [if_pos h1]
  rcases hj with rfl | ⟨k, rfl⟩ <;> kernel_rfl
theorem cutU14 (ps : List (List Nat)) (i : Int) (j : Option PV) : ffinC [14] 5 (stU typed line a b c n0 n1 n2 n3 n4 n5 n6 n7 n8 n9 ps (some (.int i)) j) = some (stU typed line a b c n0 n1 n2 n3 n4 n5 n6 n7 n8 n9 ps (some (.int i)) none) := by
  have h1 : (((stU typed line a b c n0 n1 n2 n3 n4 n5 n6 n7 n8 n9 ps (some (.int i)) j).mem.take 5).all (belowO 5)) = true := by
    refine Eq.trans (b := (belowL 5 (ps.map .str) && true)) (by kernel_rfl) (by rw [belowL_strs]; rfl)
  unfold ffinC
  rw [if_pos h1]
  kernel_rfl
theorem cutU7 (ps : List (List Nat)) (i j : Option PV) : ffinC [13, 14] 5 (stU typed line a b c n0 n1 n2 n3 n4 n5 n6 n7 n8 n9 ps i j) = some (stU typed line a b c n0 n1 n2 n3 n4 n5 n6 n7 n8 n9 ps none none) := by
  have h1 : (((stU typed line a b c n0 n1 n2 n3 n4 n5 n6 n7 n8 n9 ps i j).mem.take 5).all (belowO 5)) = true := by
    refine Eq.trans (b := (belowL 5 (ps.map .str) && true)) (by kernel_rfl) (by rw [belowL_strs]; rfl)
  unfold ffinC
  rw [if_pos h1]
  kernel_rfl
noncomputable def okIJ (i j : Nat) : Bool := (a || i == 0) && ((b || j == i + 1) && (c || j + 1 == line.length))
theorem beq_int (x y : Int) (p : Bool) (h : (x = y) ↔ p = true) : (x == y) = p := by
  cases p
  · simp only [Bool.false_eq_true, iff_false] at h
    exact beq_eq_false_iff_ne.mpr h
  · rw [beq_iff_eq]; exact h.mpr rfl
theorem lenA (hl : line.length ≤ 4096) (σ : PS) : fLenA [.str line] σ = some (.int line.length, σ) := if_pos hl
theorem test7 (ps : List (List Nat)) (i j : Nat) (hl : line.length ≤ 4096) (σ : PS) (hσ : σ = stU typed line a b c n0 n1 n2 n3 n4 n5 n6 n7 n8 n9 ps (some (.int i)) (some (.int j))) :
    fand [ffor' [fun σ => fb (fvar 9 σ) fTruth, fun σ => fb (fvar 13 σ) fun a σ => fb (some (PV.int 0, σ)) fun b σ => fb (oEqA a b σ) fTruth],
        ffor' [fun σ => fb (fvar 10 σ) fTruth, fun σ => fb (fvar 14 σ) fun a σ => fb (fb (fvar 13 σ) fun a σ => fb (some (PV.int 1, σ)) fun b σ => oAdd a b σ) fun b σ => fb (oEqA a b σ) fTruth],
        ffor' [fun σ => fb (fvar 11 σ) fTruth, fun σ => fb (fvar 14 σ) fun a σ => fb (fb (fb (fb (fvar 5 σ) fun v σ => fb (some ([], σ)) fun vs σ => some (v :: vs, σ)) fun vs σ => fLenA vs σ) fun a σ => fb (some (PV.int 1, σ)) fun b σ => oSub a b σ) fun b σ => fb (oEqA a b σ) fTruth]]
      σ = some (okIJ line a b c i j, σ) := by
  subst hσ
  refine and_three (or_two ?_ ?_) (or_two ?_ ?_) (or_two ?_ ?_)
  · cases a <;> kernel_rfl
  · refine (fb_eq (a := PV.int i) (σ := stU typed line a b c n0 n1 n2 n3 n4 n5 n6 n7 n8 n9 ps (some (.int i)) (some (.int j))) rfl).trans ?_
    show some (((i : Int) == 0), _) = _
    rw [beq_int (i : Int) 0 (i == 0) (by rw [beq_iff_eq]; omega)]
  · cases b <;> kernel_rfl
  · refine (fb_eq (a := PV.int j) (σ := stU typed line a b c n0 n1 n2 n3 n4 n5 n6 n7 n8 n9 ps (some (.int i)) (some (.int j))) rfl).trans ?_
    show some (((j : Int) == (i : Int) + 1), _) = _
    rw [beq_int (j : Int) ((i : Int) + 1) (j == i + 1) (by rw [beq_iff_eq]; omega)]
  · cases c <;> kernel_rfl
  · refine (fb_eq (a := PV.int j) (σ := stU typed line a b c n0 n1 n2 n3 n4 n5 n6 n7 n8 n9 ps (some (.int i)) (some (.int j))) rfl).trans ?_
    refine (fb_eq (a := PV.int ((line.length : Int) - 1)) (σ := stU typed line a b c n0 n1 n2 n3 n4 n5 n6 n7 n8 n9 ps (some (.int i)) (some (.int j))) ?_).trans ?_
    · refine (fb_eq (a := PV.int (line.length : Int)) (σ := stU typed line a b c n0 n1 n2 n3 n4 n5 n6 n7 n8 n9 ps (some (.int i)) (some (.int j))) ?_).trans rfl
      exact lenA line hl _
    · show some (((j : Int) == (line.length : Int) - 1), _) = _
      rw [beq_int (j : Int) ((line.length : Int) - 1) (j + 1 == line.length) (by rw [beq_iff_eq]; omega)]
theorem item_str (x : List Nat) (i : Nat) (hi : i < x.length) (h : x.length ≤ 4096) (σ : PS) : fgi (.str x) (.int i) σ = some (.str [x[i]], σ) := by
  show (if idxOk (i : Int) = true then (seqIndex? (i : Int) x.length).bind fun j => x[j]?.map fun c => (PV.str [c], σ) else none) = _
  rw [if_pos (by unfold idxOk; simp; omega), StrLaws.seqIndex_nonneg (by omega) (by omega)]
  simp [hi]
theorem app7 (ps : List (List Nat)) (i j : Nat) (hi : i < line.length) (hj : j < line.length) (hl : line.length ≤ 4096) (hp : ps.length ≤ 4096) :
    lawF_7b_0b_0t_0 (stU typed line a b c n0 n1 n2 n3 n4 n5 n6 n7 n8 n9 ps (some (.int i)) (some (.int j))) = some (.next, stU typed line a b c n0 n1 n2 n3 n4 n5 n6 n7 n8 n9 (ps ++ [[line[i], line[j]]]) (some (.int i)) (some (.int j))) := by
  refine ffin_next (σ₁ := stU typed line a b c n0 n1 n2 n3 n4 n5 n6 n7 n8 n9 (ps ++ [[line[i], line[j]]]) (some (.int i)) (some (.int j))) ?_ (cutU _ _ _ _ _ _ _ _ _ _ _ _ _ _ _ _ _ _ (.inr ⟨_, rfl⟩))
  refine (fb_eq (a := PV.none) (σ := stU typed line a b c n0 n1 n2 n3 n4 n5 n6 n7 n8 n9 (ps ++ [[line[i], line[j]]]) (some (.int i)) (some (.int j))) ?_).trans rfl
  refine (fb_eq (a := [PV.str [line[i], line[j]]]) (σ := stU typed line a b c n0 n1 n2 n3 n4 n5 n6 n7 n8 n9 ps (some (.int i)) (some (.int j))) ?_).trans ?_
  · refine (fb_eq (a := PV.str [line[i], line[j]]) (σ := stU typed line a b c n0 n1 n2 n3 n4 n5 n6 n7 n8 n9 ps (some (.int i)) (some (.int j))) ?_).trans rfl
    refine (fb_eq (a := PV.str [line[i]]) (σ := stU typed line a b c n0 n1 n2 n3 n4 n5 n6 n7 n8 n9 ps (some (.int i)) (some (.int j))) (item_str line i hi hl _)).trans ?_
    exact (fb_eq (a := PV.str [line[j]]) (σ := stU typed line a b c n0 n1 n2 n3 n4 n5 n6 n7 n8 n9 ps (some (.int i)) (some (.int j))) (item_str line j hj hl _)).trans rfl
  · show (if (ps.map PV.str).length ≤ 4096 then some (PV.none, (⟨(stU typed line a b c n0 n1 n2 n3 n4 n5 n6 n7 n8 n9 ps (some (.int i)) (some (.int j))).vars, [.tab 69, .tab 76, .list (pvi [n0, n1, n2, n3, n4, n5, n6, n7, n8, n9]), .list [.str (dot a), .str (dot b), .str (dot c)], .list (ps.map .str ++ [.str [line[i], line[j]]])]⟩ : PS)) else none) = _
    rw [if_pos (by simpa using hp)]
    unfold stU
    rw [List.map_append]
    rfl
noncomputable def putIJ (ps : List (List Nat)) (i j : Nat) : List (List Nat) := if okIJ line a b c i j = true then ps ++ [[line.getD i 0, line.getD j 0]] else ps
theorem body7 (ps : List (List Nat)) (i j : Nat) (hi : i < line.length) (hj : j < line.length) (hl : line.length ≤ 4096) (hp : ps.length ≤ 4096) :
    seqs [lawF_7b_0b_0] (stU typed line a b c n0 n1 n2 n3 n4 n5 n6 n7 n8 n9 ps (some (.int i)) (some (.int j))) = some (.next, stU typed line a b c n0 n1 n2 n3 n4 n5 n6 n7 n8 n9 (putIJ line a b c ps i j) (some (.int i)) (some (.int j))) := by
  refine seqs_one (ffin_next (σ₁ := stU typed line a b c n0 n1 n2 n3 n4 n5 n6 n7 n8 n9 (putIJ line a b c ps i j) (some (.int i)) (some (.int j))) ?_ (cutU _ _ _ _ _ _ _ _ _ _ _ _ _ _ _ _ _ _ (.inr ⟨_, rfl⟩)))
  refine (fb_eq (test7 typed line a b c n0 n1 n2 n3 n4 n5 n6 n7 n8 n9 ps i j hl _ rfl)).trans ?_
  unfold putIJ
  cases hc : okIJ line a b c i j with
  | false => rfl
  | true =>
    refine (fseq_next (app7 typed line a b c n0 n1 n2 n3 n4 n5 n6 n7 n8 n9 ps i j hi hj hl hp)).trans ?_
    rw [if_pos rfl, show line.getD i 0 = line[i] by simp [hi], show line.getD j 0 = line[j] by simp [hj]]
end
end Mine
end
section
open PySem PySem.W PyProof.Rows PySem.Calls
set_option maxHeartbeats 400000
namespace Mine
section
variable (typed line : List Nat) (a b c : Bool) (n0 n1 n2 n3 n4 n5 n6 n7 n8 n9 : Int)
theorem put_len (ps : List (List Nat)) (i j : Nat) : (putIJ line a b c ps i j).length ≤ ps.length + 1 := by
  unfold putIJ
  split <;> simp
noncomputable def innerP (i j m : Nat) (ps : List (List Nat)) : List (List Nat) := (List.range' j m).foldl (fun ps j => putIJ line a b c ps i j) ps
theorem inner_len (i : Nat) : ∀ (m j : Nat) (ps : List (List Nat)), (innerP line a b c i j m ps).length ≤ ps.length + m
  | 0, _, _ => Nat.le_refl _
  | m + 1, j, ps => by
    have := inner_len i m (j + 1) (putIJ line a b c ps i j)
    have h := put_len line a b c ps i j
    unfold innerP at this ⊢
    rw [List.range'_succ, List.foldl_cons]
    omega
noncomputable def outerP (i m : Nat) (ps : List (List Nat)) : List (List Nat) := (List.range' i m).foldl (fun ps i => innerP line a b c i (i + 1) (line.length - (i + 1)) ps) ps
theorem loop7b (i : Nat) (hl : line.length ≤ 60) (hi : i < line.length) : ∀ (m j N : Nat) (ps : List (List Nat)) (jv : Option PV), j + m = line.length → i < j → ps.length + m ≤ 4096 →
    ∃ jv', fforC [] 5 (nxOf (.rng ((i : Int) + 1) line.length 1)) (fun v σ => some (fset 14 v σ)) (seqs [lawF_7b_0b_0]) (N + m + 1) (j - (i + 1)) (stU typed line a b c n0 n1 n2 n3 n4 n5 n6 n7 n8 n9 ps (some (.int i)) jv) =
      some (.next, stU typed line a b c n0 n1 n2 n3 n4 n5 n6 n7 n8 n9 (innerP line a b c i j m ps) (some (.int i)) jv') := by
  intro m
  induction m with
  | zero => exact fun j N ps jv hj hij hp => ⟨jv, fforC_done (by rw [nx_rng (small_one (by omega) (by omega) (by omega) (by omega)), if_neg (by omega)])⟩
  | succ m ih =>
    intro j N ps jv hj hij hp
    have hlen := put_len line a b c ps i j
    obtain ⟨jv', h⟩ := ih (j + 1) N (putIJ line a b c ps i j) (some (.int j)) (by omega) (by omega) (by omega)
    refine ⟨jv', ?_⟩
    rw [show N + (m + 1) + 1 = (N + m + 1) + 1 by omega]
    refine (fforC_step (v := .int j) (σ₁ := stU typed line a b c n0 n1 n2 n3 n4 n5 n6 n7 n8 n9 ps (some (.int i)) (some (.int j))) ?_ rfl (body7 typed line a b c n0 n1 n2 n3 n4 n5 n6 n7 n8 n9 ps i j hi (by omega) (by omega) (by omega)) (cutU _ _ _ _ _ _ _ _ _ _ _ _ _ _ _ _ _ _ (.inr ⟨_, rfl⟩))).trans ?_
    · rw [nx_rng (small_one (by omega) (by omega) (by omega) (by omega)), if_pos (by omega), show ((i : Int) + 1) + ((j - (i + 1) : Nat) : Int) = j by omega]
    · rw [show j - (i + 1) + 1 = j + 1 - (i + 1) by omega]
      exact h
theorem body7o (i : Nat) (hl : line.length ≤ 60) (hi : i < line.length) (ps : List (List Nat)) (hp : ps.length + 60 ≤ 4096) :
    seqs [lawF_7b_0] (stU typed line a b c n0 n1 n2 n3 n4 n5 n6 n7 n8 n9 ps (some (.int i)) none) = some (.next, stU typed line a b c n0 n1 n2 n3 n4 n5 n6 n7 n8 n9 (innerP line a b c i (i + 1) (line.length - (i + 1)) ps) (some (.int i)) none) := by
  obtain ⟨jv', h⟩ := loop7b typed line a b c n0 n1 n2 n3 n4 n5 n6 n7 n8 n9 i hl hi (line.length - (i + 1)) (i + 1) (199 - (line.length - (i + 1))) ps none (by omega) (by omega) (by omega)
  rw [show 199 - (line.length - (i + 1)) + (line.length - (i + 1)) + 1 = 200 by omega, Nat.sub_self] at h
  refine seqs_one (ffin_next (σ₁ := stU typed line a b c n0 n1 n2 n3 n4 n5 n6 n7 n8 n9 (innerP line a b c i (i + 1) (line.length - (i + 1)) ps) (some (.int i)) jv') ?_ (cutU14 _ _ _ _ _ _ _ _ _ _ _ _ _ _ _ _ _ _))
  refine (fb_eq (a := PV.rng ((i : Int) + 1) line.length 1) (σ := stU typed line a b c n0 n1 n2 n3 n4 n5 n6 n7 n8 n9 ps (some (.int i)) none) ?_).trans ((if_pos (by kernel_rfl)).trans h)
  refine (fb_eq (a := [PV.int ((i : Int) + 1), PV.int line.length]) (σ := stU typed line a b c n0 n1 n2 n3 n4 n5 n6 n7 n8 n9 ps (some (.int i)) none) ?_).trans rfl
  refine (fb_eq (a := PV.int ((i : Int) + 1)) (σ := stU typed line a b c n0 n1 n2 n3 n4 n5 n6 n7 n8 n9 ps (some (.int i)) none) rfl).trans ?_
  refine (fb_eq (a := [PV.int line.length]) (σ := stU typed line a b c n0 n1 n2 n3 n4 n5 n6 n7 n8 n9 ps (some (.int i)) none) ?_).trans rfl
  refine (fb_eq (a := PV.int line.length) (σ := stU typed line a b c n0 n1 n2 n3 n4 n5 n6 n7 n8 n9 ps (some (.int i)) none) ?_).trans rfl
  exact lenA line (by omega) _
theorem loop7 (hl : line.length ≤ 60) : ∀ (m i N : Nat) (ps : List (List Nat)) (iv : Option PV), i + m = line.length → ps.length + 60 * m ≤ 4000 →
    ∃ iv', fforC [] 5 (nxOf (.rng 0 line.length 1)) (fun v σ => some (fset 13 v σ)) (seqs [lawF_7b_0]) (N + m + 1) i (stU typed line a b c n0 n1 n2 n3 n4 n5 n6 n7 n8 n9 ps iv none) =
      some (.next, stU typed line a b c n0 n1 n2 n3 n4 n5 n6 n7 n8 n9 (outerP line a b c i m ps) iv' none) := by
  intro m
  induction m with
  | zero => exact fun i N ps iv hi hp => ⟨iv, fforC_done (by rw [nx_rng (small_one (by omega) (by omega) (by omega) (by omega)), if_neg (by omega)])⟩
  | succ m ih =>
    intro i N ps iv hi hp
    have hlen := inner_len line a b c i (line.length - (i + 1)) (i + 1) ps
    obtain ⟨iv', h⟩ := ih (i + 1) N (innerP line a b c i (i + 1) (line.length - (i + 1)) ps) (some (.int i)) (by omega) (by omega)
    refine ⟨iv', ?_⟩
    rw [show N + (m + 1) + 1 = (N + m + 1) + 1 by omega]
    refine (fforC_step (v := .int i) (σ₁ := stU typed line a b c n0 n1 n2 n3 n4 n5 n6 n7 n8 n9 ps (some (.int i)) none) ?_ rfl (body7o typed line a b c n0 n1 n2 n3 n4 n5 n6 n7 n8 n9 i hl (by omega) ps (by omega)) (cutU _ _ _ _ _ _ _ _ _ _ _ _ _ _ _ _ _ _ (.inl rfl))).trans ?_
    · rw [nx_rng (small_one (by omega) (by omega) (by omega) (by omega)), if_pos (by omega), Int.zero_add]
    · exact h
noncomputable def pairsP : List (List Nat) := outerP line a b c 0 line.length []
theorem law7 (hl : line.length ≤ 60) : lawF_7 (stS6 typed line (dot a) (dot b) (dot c) [n0, n1, n2, n3, n4, n5, n6, n7, n8, n9] []) = some (.next, stS6 typed line (dot a) (dot b) (dot c) [n0, n1, n2, n3, n4, n5, n6, n7, n8, n9] (pairsP line a b c)) := by
  obtain ⟨iv', h⟩ := loop7 typed line a b c n0 n1 n2 n3 n4 n5 n6 n7 n8 n9 hl line.length 0 (199 - line.length) [] none (by omega) (by simp; omega)
  rw [show 199 - line.length + line.length + 1 = 200 by omega] at h
  refine ffin_next (σ₁ := stU typed line a b c n0 n1 n2 n3 n4 n5 n6 n7 n8 n9 (pairsP line a b c) iv' none) ?_ (cutU7 _ _ _ _ _ _ _ _ _ _ _ _ _ _ _ _ _ _)
  refine (fb_eq (a := PV.rng 0 line.length 1) (σ := stU typed line a b c n0 n1 n2 n3 n4 n5 n6 n7 n8 n9 [] none none) ?_).trans ((if_pos (by kernel_rfl)).trans h)
  refine (fb_eq (a := [PV.int line.length]) (σ := stU typed line a b c n0 n1 n2 n3 n4 n5 n6 n7 n8 n9 [] none none) ?_).trans rfl
  refine (fb_eq (a := PV.int line.length) (σ := stU typed line a b c n0 n1 n2 n3 n4 n5 n6 n7 n8 n9 [] none none) ?_).trans rfl
  exact lenA line (by omega) _
theorem mem_put (ps : List (List Nat)) (i j : Nat) (z : List Nat) : z ∈ putIJ line a b c ps i j ↔ z ∈ ps ∨ (okIJ line a b c i j = true ∧ z = [line.getD i 0, line.getD j 0]) := by
  unfold putIJ
  split
  · rename_i h; simp [h]
  · rename_i h; simp [h]
theorem mem_inner (i : Nat) (z : List Nat) : ∀ (m j : Nat) (ps : List (List Nat)), z ∈ innerP line a b c i j m ps ↔ z ∈ ps ∨ ∃ k, j ≤ k ∧ k < j + m ∧ okIJ line a b c i k = true ∧ z = [line.getD i 0, line.getD k 0] := by
  intro m
  induction m with
  | zero =>
    intro j ps
    constructor
    · exact .inl
    · rintro (h | ⟨k, h1, h2, _⟩)
      · exact h
      · omega
  | succ m ih =>
    intro j ps
    have ih := ih (j + 1) (putIJ line a b c ps i j)
    unfold innerP at ih ⊢
    rw [List.range'_succ, List.foldl_cons, ih, mem_put]
    constructor
    · rintro ((h | h) | ⟨k, h1, h2, h3⟩)
      · exact .inl h
      · exact .inr ⟨j, Nat.le_refl _, by omega, h⟩
      · exact .inr ⟨k, by omega, by omega, h3⟩
    · rintro (h | ⟨k, h1, h2, h3⟩)
      · exact .inl (.inl h)
      · rcases Nat.eq_or_lt_of_le h1 with rfl | h1
        · exact .inl (.inr h3)
        · exact .inr ⟨k, by omega, by omega, h3⟩
theorem mem_outer (z : List Nat) : ∀ (m i : Nat) (ps : List (List Nat)), z ∈ outerP line a b c i m ps ↔ z ∈ ps ∨ ∃ k j, i ≤ k ∧ k < i + m ∧ k < j ∧ j < line.length ∧ okIJ line a b c k j = true ∧ z = [line.getD k 0, line.getD j 0] := by
  intro m
  induction m with
  | zero =>
    intro i ps
    constructor
    · exact .inl
    · rintro (h | ⟨k, j, h1, h2, _⟩)
      · exact h
      · omega
  | succ m ih =>
    intro i ps
    have ih := ih (i + 1) (innerP line a b c i (i + 1) (line.length - (i + 1)) ps)
    unfold outerP at ih ⊢
    rw [List.range'_succ, List.foldl_cons, ih, mem_inner]
    constructor
    · rintro ((h | ⟨j, h1, h2, h3⟩) | ⟨k, j, h1, h2, h3⟩)
      · exact .inl h
      · exact .inr ⟨i, j, Nat.le_refl _, by omega, by omega, by omega, h3⟩
      · exact .inr ⟨k, j, by omega, by omega, h3⟩
    · rintro (h | ⟨k, j, h1, h2, h3, h4, h5⟩)
      · exact .inl (.inl h)
      · rcases Nat.eq_or_lt_of_le h1 with rfl | h1
        · exact .inl (.inr ⟨j, by omega, by omega, h5⟩)
        · exact .inr ⟨k, j, by omega, by omega, h3, h4, h5⟩
theorem mem_pairs (x y : Nat) : [x, y] ∈ pairsP line a b c ↔ ∃ i j, i < j ∧ line[i]? = some x ∧ line[j]? = some y ∧ okIJ line a b c i j = true := by
  unfold pairsP
  rw [mem_outer]
  constructor
  · rintro (h | ⟨i, j, _, _, h1, h2, h3, h4⟩)
    · cases h
    · obtain ⟨e1, e2⟩ : x = line.getD i 0 ∧ y = line.getD j 0 := by simpa using h4
      refine ⟨i, j, h1, ?_, ?_, h3⟩
      · rw [e1]; simp [show i < line.length by omega]
      · rw [e2]; simp [h2]
  · rintro ⟨i, j, h1, h2, h3, h4⟩
    have l1 := (List.getElem?_eq_some_iff.mp h2).1
    have l2 := (List.getElem?_eq_some_iff.mp h3).1
    refine .inr ⟨i, j, by omega, by omega, h1, l2, h4, ?_⟩
    simp [List.getD, h2, h3]
end
end Mine
end
section
open PySem PySem.W PyProof.Rows PySem.Calls
open PySem.Builtin PySem.Builtin.Str
set_option maxHeartbeats 400000
namespace Mine
noncomputable def atB (L w : List Nat) (hi k : Nat) : Bool := decide (k + w.length ≤ hi) && ((L.drop k).take w.length == w)
noncomputable def firstO (L w : List Nat) (lo hi : Nat) : Option Nat := (List.range' lo (hi + 1 - lo)).find? (atB L w hi)
theorem at_is (L w : List Nat) (hi k : Nat) : StrLaws.At (mkS' L) (mkS' w) hi k ↔ atB L w hi k = true := by
  unfold StrLaws.At atB
  rw [StrLaws.subAt_eq]
  simp
theorem find4_is (L w : List Nat) (lo hi : Nat) (h : hi ≤ L.length) : find4 (mkS' L) (mkS' w) lo hi = match firstO L w lo hi with | some k => (k : Int) | none => -1 := by
  have e1 : fromIndex (mkS' L).length (lo : Int) = lo := by unfold fromIndex; omega
  have e2 : min (fromIndex (mkS' L).length (hi : Int)) (mkS' L).length = hi := by
    have : fromIndex (mkS' L).length (hi : Int) = hi := by unfold fromIndex; omega
    rw [this, mkS'_len]; omega
  unfold find4
  rw [e1, e2, StrLaws.occ_eq]
  rcases StrLaws.occ_first (mkS' L) (mkS' w) hi 1 (Nat.le_refl 1) (List.range' lo (hi + 1 - lo)) lo (fun i hi => by have := List.mem_range'_1.mp hi; omega) with ⟨h0, hn⟩ | ⟨pre, k, post, e, h0, ha, hn⟩
  · have : firstO L w lo hi = none := by
      unfold firstO
      rw [List.find?_eq_none]
      intro i him
      rw [← at_is]
      exact hn i him
    rw [h0, this]
  · have : firstO L w lo hi = some k := by
      unfold firstO
      rw [List.find?_eq_some_iff_append]
      refine ⟨(at_is L w hi k).mp ha, pre, post, e, fun i hip => ?_⟩
      have := hn i hip
      rw [at_is] at this
      simpa using this
    rw [this]
    generalize (forIn (List.range' lo (hi + 1 - lo)) ((#[] : Array Nat), lo) (StrLaws.occBody (mkS' L) (mkS' w) hi 1)).run.fst = arr at h0
    have h1 : arr.toList[0]? = some k := by simpa using h0
    cases hL : arr.toList with
    | nil => rw [hL] at h1; cases h1
    | cons b t => rw [hL] at h1; simp at h1; rw [h1]
theorem first_some {L w : List Nat} {lo hi k : Nat} (h : firstO L w lo hi = some k) : lo ≤ k ∧ atB L w hi k = true ∧ ∀ m, lo ≤ m → m < k → atB L w hi m = false := by
  unfold firstO at h
  rw [List.find?_eq_some_iff_append] at h
  obtain ⟨hk, pre, post, e, hn⟩ := h
  have hs := StrLaws.range'_split_from e
  exact ⟨hs.1, hk, fun m h1 h2 => by simpa using hn m (hs.2 m h1 h2)⟩
theorem first_none {L w : List Nat} {lo hi : Nat} (h : firstO L w lo hi = none) : ∀ m, lo ≤ m → atB L w hi m = false := by
  intro m hm
  unfold firstO at h
  rw [List.find?_eq_none] at h
  by_cases hc : m ≤ hi
  · have := h m (by rw [List.mem_range'_1]; omega)
    simpa using this
  · unfold atB
    rw [show decide (m + w.length ≤ hi) = false by simp; omega]
    rfl
theorem at_nil (L : List Nat) {hi k : Nat} (h : k ≤ hi) : atB L [] hi k = true := by simp [atB, h]
theorem at_one {L : List Nat} {x hi k : Nat} : atB L [x] hi k = true ↔ k + 1 ≤ hi ∧ L[k]? = some x := by
  unfold atB
  rw [Bool.and_eq_true, decide_eq_true_eq]
  show _ ∧ ((L.drop k).take 1 == [x]) = true ↔ _
  rw [StrLaws.take1_drop]
  rfl
theorem at_two {L : List Nat} {x y hi k : Nat} : atB L [x, y] hi k = true ↔ k + 2 ≤ hi ∧ L[k]? = some x ∧ L[k + 1]? = some y := by
  unfold atB
  rw [Bool.and_eq_true, decide_eq_true_eq]
  show _ ∧ ((L.drop k).take 2 == [x, y]) = true ↔ _
  have e : L[k]? = (L.drop k)[0]? := by rw [List.getElem?_drop]; rfl
  have e2 : L[k + 1]? = (L.drop k)[1]? := by rw [List.getElem?_drop]
  rw [e, e2, beq_iff_eq]
  have hlen : (([x, y] : List Nat).length) = 2 := rfl
  rw [hlen]
  match L.drop k with
  | [] => simp
  | [a] => simp
  | a :: b :: r => simp
noncomputable def findsP (L : List Nat) : List (List Nat) → Nat → Nat → Bool
  | [], _, _ => true
  | w :: ws, lo, hi => match firstO L w lo hi with
    | some k => findsP L ws (k + w.length) hi
    | none => false
theorem starts_is (L w : List Nat) : Txt.startswith (mkS' L) (mkS' w) = atB L w L.length 0 := by
  unfold Txt.startswith atB
  rw [StrLaws.subAt_eq]
  simp
theorem ends_is (L w : List Nat) : Txt.endswith (mkS' L) (mkS' w) = (decide (w.length ≤ L.length) && atB L w L.length (L.length - w.length)) := by
  unfold Txt.endswith atB
  rw [StrLaws.subAt_eq]
  simp only [mkS'_len, mkS'_cps, Nat.zero_add]
  by_cases h : w.length ≤ L.length
  · rw [show decide (L.length - w.length + w.length ≤ L.length) = true by simp; omega]
    simp [h]
  · simp [h]
end Mine
end
section
open PySem PySem.W PyProof.Rows PySem.Calls
open PySem.Builtin PySem.Builtin.Str
set_option maxHeartbeats 400000
namespace Mine
theorem ffor_step {nx : Nat → PS → Option (Option PV)} {st : PV → PS → Option PS} {b : PS → Option (Fl × PS)} {n i : Nat} {σ σ₁ σ₂ : PS} {v : PV} (hn : nx i σ = some (some v)) (hs : st v σ = some σ₁) (hb : b σ₁ = some (.next, σ₂)) :
    ffor nx st b (n + 1) i σ = ffor nx st b n (i + 1) σ₂ := by
  rw [ffor, hn]; dsimp only; rw [hs]; dsimp only; rw [fb_eq hb]
theorem ffor_ret {nx : Nat → PS → Option (Option PV)} {st : PV → PS → Option PS} {b : PS → Option (Fl × PS)} {n i : Nat} {σ σ₁ σ₂ : PS} {v r : PV} (hn : nx i σ = some (some v)) (hs : st v σ = some σ₁) (hb : b σ₁ = some (.ret r, σ₂)) :
    ffor nx st b (n + 1) i σ = some (.ret r, σ₂) := by
  rw [ffor, hn]; dsimp only; rw [hs]; dsimp only; rw [fb_eq hb]
theorem ffor_done {nx : Nat → PS → Option (Option PV)} {st : PV → PS → Option PS} {b : PS → Option (Fl × PS)} {n i : Nat} {σ : PS} (hn : nx i σ = some none) : ffor nx st b (n + 1) i σ = some (.next, σ) := by
  rw [ffor, hn]
noncomputable def fOr : Option Nat → Int
  | some k => k
  | none => -1
theorem find4_fOr (L w : List Nat) (lo hi : Nat) (h : hi ≤ L.length) : find4 (mkS' L) (mkS' w) lo hi = fOr (firstO L w lo hi) := by
  rw [find4_is L w lo hi h]
  cases firstO L w lo hi <;> rfl
section
variable (want L : List Nat) (m0 m1 m2 m3 m4 m5 : PO)
noncomputable def stEl (sp ep w : Option PV) (ws : List (List Nat)) : PS := ⟨[some (.str want), some (.str L), some (.ref 6), sp, ep, w], [m0, m1, m2, m3, m4, m5, .list (ws.map .str)]⟩
noncomputable def bodyE : List (PS → Option (Fl × PS)) := [ellF_9b_0, ellF_9b_1, ellF_9b_2]
theorem elb0 (lo hi : Nat) (hh : hi ≤ L.length) (w : List Nat) (ws : List (List Nat)) (r : Int) (hr : fOr (firstO L w lo hi) = r) :
    ellF_9b_0 (stEl want L m0 m1 m2 m3 m4 m5 (some (.int lo)) (some (.int hi)) (some (.str w)) ws) = some (.next, stEl want L m0 m1 m2 m3 m4 m5 (some (.int r)) (some (.int hi)) (some (.str w)) ws) := by
  delta ellF_9b_0; refine (fb_eq (a := PV.int r) (σ := stEl want L m0 m1 m2 m3 m4 m5 (some (.int lo)) (some (.int hi)) (some (.str w)) ws) ?_).trans rfl
  show some (PV.int (find4 (mkS' L) (mkS' w) lo hi), _) = _
  rw [find4_fOr L w lo hi hh, hr]
theorem elb1n (k hi : Nat) (w : List Nat) (ws : List (List Nat)) :
    ellF_9b_1 (stEl want L m0 m1 m2 m3 m4 m5 (some (.int k)) (some (.int hi)) (some (.str w)) ws) = some (.next, stEl want L m0 m1 m2 m3 m4 m5 (some (.int k)) (some (.int hi)) (some (.str w)) ws) := by
  delta ellF_9b_1; refine (fb_eq (a := false) (σ := stEl want L m0 m1 m2 m3 m4 m5 (some (.int k)) (some (.int hi)) (some (.str w)) ws) ?_).trans rfl
  show some (decide ((k : Int) < 0), _) = _
  rw [decide_eq_false (by omega)]
theorem elb1r (hi : Nat) (w : List Nat) (ws : List (List Nat)) :
    ellF_9b_1 (stEl want L m0 m1 m2 m3 m4 m5 (some (.int (-1))) (some (.int hi)) (some (.str w)) ws) = some (.ret (.bool false), stEl want L m0 m1 m2 m3 m4 m5 (some (.int (-1))) (some (.int hi)) (some (.str w)) ws) := by kernel_rfl
theorem elb2 (k hi : Nat) (w : List Nat) (hw : w.length ≤ 4096) (ws : List (List Nat)) :
    ellF_9b_2 (stEl want L m0 m1 m2 m3 m4 m5 (some (.int k)) (some (.int hi)) (some (.str w)) ws) = some (.next, stEl want L m0 m1 m2 m3 m4 m5 (some (.int (k + w.length : Nat))) (some (.int hi)) (some (.str w)) ws) := by
  refine (fb_eq (a := PV.int k) (σ := stEl want L m0 m1 m2 m3 m4 m5 (some (.int k)) (some (.int hi)) (some (.str w)) ws) rfl).trans ?_
  refine (fb_eq (a := PV.int w.length) (σ := stEl want L m0 m1 m2 m3 m4 m5 (some (.int k)) (some (.int hi)) (some (.str w)) ws) ?_).trans rfl
  exact if_pos hw
theorem ellLoop (ws : List (List Nat)) (hws : ∀ w ∈ ws, w.length ≤ 4096) (hi : Nat) (hh : hi ≤ L.length) : ∀ (rest pre : List (List Nat)) (n lo : Nat) (w0 : Option PV), pre ++ rest = ws →
    ∃ σ', σ'.mem = (stEl want L m0 m1 m2 m3 m4 m5 none none none ws).mem ∧ ffor (nxOf (.ref 6)) (fun v σ => some (fset 5 v σ)) (seqs bodyE) (n + rest.length + 1) pre.length (stEl want L m0 m1 m2 m3 m4 m5 (some (.int lo)) (some (.int hi)) w0 ws) =
      some (cond (findsP L rest lo hi) Fl.next (.ret (.bool false)), σ') := by
  intro rest
  induction rest with
  | nil =>
    intro pre n lo w0 h
    have e : ws = pre := by simpa using h.symm
    subst e
    exact ⟨stEl want L m0 m1 m2 m3 m4 m5 (some (.int lo)) (some (.int hi)) w0 ws, rfl, ffor_done (by
      show some ((ws.map PV.str)[ws.length]?) = some none
      rw [List.getElem?_eq_none (by simp)])⟩
  | cons w rest ih =>
    intro pre n lo w0 h
    have hw : w.length ≤ 4096 := hws w (h ▸ List.mem_append_right _ (.head _))
    have hn : nxOf (.ref 6) pre.length (stEl want L m0 m1 m2 m3 m4 m5 (some (.int lo)) (some (.int hi)) w0 ws) = some (some (.str w)) := by
      show some ((ws.map PV.str)[pre.length]?) = _
      rw [← h]; simp
    rw [show n + (w :: rest).length + 1 = (n + rest.length + 1) + 1 by simp; omega]
    unfold findsP
    cases hf : firstO L w lo hi with
    | none =>
      refine ⟨stEl want L m0 m1 m2 m3 m4 m5 (some (.int (-1))) (some (.int hi)) (some (.str w)) ws, rfl, ?_⟩
      refine ffor_ret (r := .bool false) hn rfl ?_
      refine (fseq_next (elb0 want L m0 m1 m2 m3 m4 m5 lo hi hh w ws (-1) (by rw [hf]; rfl))).trans ?_
      exact fseq_ret (elb1r want L m0 m1 m2 m3 m4 m5 hi w ws)
    | some k =>
      obtain ⟨σ', h1, h2⟩ := ih (pre ++ [w]) n (k + w.length) (some (.str w)) (by rw [← h]; simp)
      refine ⟨σ', h1, ?_⟩
      rw [List.length_append, List.length_singleton] at h2
      refine Eq.trans ?_ h2
      refine ffor_step hn rfl ?_
      refine (fseq_next (elb0 want L m0 m1 m2 m3 m4 m5 lo hi hh w ws k (by rw [hf]; rfl))).trans ?_
      refine (fseq_next (elb1n want L m0 m1 m2 m3 m4 m5 k hi w ws)).trans ?_
      exact (fseq_next (elb2 want L m0 m1 m2 m3 m4 m5 k hi w hw ws)).trans rfl
theorem ell8 (lo hi : Nat) (h : lo ≤ hi) (w0 : Option PV) (ws : List (List Nat)) : ellF_8 (stEl want L m0 m1 m2 m3 m4 m5 (some (.int lo)) (some (.int hi)) w0 ws) = some (.next, stEl want L m0 m1 m2 m3 m4 m5 (some (.int lo)) (some (.int hi)) w0 ws) := by
  delta ellF_8; refine (fb_eq (a := false) (σ := stEl want L m0 m1 m2 m3 m4 m5 (some (.int lo)) (some (.int hi)) w0 ws) ?_).trans rfl
  show some (decide ((hi : Int) < lo), _) = _
  rw [decide_eq_false (by omega)]
theorem ellTail (ws : List (List Nat)) (hws : ∀ w ∈ ws, w.length ≤ 4096) (hwl : ws.length ≤ 100) (lo hi : Nat) (hh : hi ≤ L.length) (h : lo ≤ hi) (w0 : Option PV) :
    ∃ σ', σ'.mem = (stEl want L m0 m1 m2 m3 m4 m5 none none none ws).mem ∧ seqs [ellF_8, ellF_9, ellF_10] (stEl want L m0 m1 m2 m3 m4 m5 (some (.int lo)) (some (.int hi)) w0 ws) = some (.ret (.bool (findsP L ws lo hi)), σ') := by
  obtain ⟨σ', h1, h2⟩ := ellLoop want L m0 m1 m2 m3 m4 m5 ws hws hi hh ws [] (199 - ws.length) lo w0 rfl
  rw [show 199 - ws.length + ws.length + 1 = 200 by omega] at h2
  refine ⟨σ', h1, ?_⟩
  refine (fseq_next (ell8 want L m0 m1 m2 m3 m4 m5 lo hi h w0 ws)).trans ?_
  have h9 : ellF_9 (stEl want L m0 m1 m2 m3 m4 m5 (some (.int lo)) (some (.int hi)) w0 ws) = some (cond (findsP L ws lo hi) Fl.next (.ret (.bool false)), σ') := by delta ellF_9; exact (fb_eq (a := PV.ref 6) (σ := stEl want L m0 m1 m2 m3 m4 m5 (some (.int lo)) (some (.int hi)) w0 ws) rfl).trans h2
  cases hf : findsP L ws lo hi with
  | true => rw [hf] at h9; exact (fseq_next h9).trans rfl
  | false => rw [hf] at h9; exact fseq_ret h9
theorem ell3 (hl : L.length ≤ 4096) (ws : List (List Nat)) : ellF_3 (stEl want L m0 m1 m2 m3 m4 m5 none none none ws) = some (.next, stEl want L m0 m1 m2 m3 m4 m5 (some (.int 0)) (some (.int L.length)) none ws) := by
  refine (fb_eq (a := PV.tup [.int 0, .int L.length]) (σ := stEl want L m0 m1 m2 m3 m4 m5 none none none ws) ?_).trans rfl
  refine (fb_eq (a := [PV.int 0, PV.int L.length]) (σ := stEl want L m0 m1 m2 m3 m4 m5 none none none ws) ?_).trans rfl
  refine (fb_eq (a := PV.int 0) (σ := stEl want L m0 m1 m2 m3 m4 m5 none none none ws) rfl).trans ?_
  refine (fb_eq (a := [PV.int L.length]) (σ := stEl want L m0 m1 m2 m3 m4 m5 none none none ws) ?_).trans rfl
  refine (fb_eq (a := PV.int L.length) (σ := stEl want L m0 m1 m2 m3 m4 m5 none none none ws) ?_).trans rfl
  exact if_pos hl
end
end Mine
end
section
open PySem PySem.W PyProof.Rows PySem.Calls
open PySem.Builtin PySem.Builtin.Str
set_option maxHeartbeats 400000
namespace Mine
noncomputable def wantP (a b c : Bool) (x y : Nat) : List Nat := dot a ++ [x] ++ dot b ++ [y] ++ dot c
noncomputable def LetC (x : Nat) : Prop := x = 97 ∨ x = 98 ∨ x = 107 ∨ x = 109
noncomputable def enB (L w : List Nat) : Bool := decide (w.length ≤ L.length) && atB L w L.length (L.length - w.length)
noncomputable def stB' (L w : List Nat) : Bool := atB L w L.length 0
theorem two_len {L : List Nat} {x y : Nat} (h5 : stB' L [x] = true) (h7 : enB L [y] = true) (hxy : x ≠ y) : 2 ≤ L.length := by
  have h1 := at_one.mp h5
  unfold enB at h7
  rw [Bool.and_eq_true] at h7
  have h2 := at_one.mp h7.2
  have e : ([y] : List Nat).length = 1 := rfl
  rw [e] at h2
  rcases Nat.lt_or_ge L.length 2 with h | h
  · have e : L.length - 1 = 0 := by omega
    rw [e, h1.2] at h2
    exact absurd (Option.some.inj h2.2) hxy
  · exact h
section
variable (L : List Nat) (m0 m1 m2 m3 m4 m5 : PO) (x y : Nat)
include L m0 m1 m2 m3 m4 m5 x y
set_option linter.unusedVariables false
set_option linter.unusedSectionVars false
noncomputable def stE0 (want : List Nat) : PS := ⟨[some (.str want), some (.str L), none, none, none, none], [m0, m1, m2, m3, m4, m5]⟩
theorem ellPre_a (hx : LetC x) (hy : LetC y) : seqs [ellF_0, ellF_1, ellF_2] (stE0 L m0 m1 m2 m3 m4 m5 (wantP true false false x y)) = some (.next, stEl (wantP true false false x y) L m0 m1 m2 m3 m4 m5 none none none [[], [x, y]]) := by
  rcases hx with rfl | rfl | rfl | rfl <;> rcases hy with rfl | rfl | rfl | rfl <;> kernel_rfl
theorem e4_a (want : List Nat) : ellF_4 (stEl want L m0 m1 m2 m3 m4 m5 (some (.int 0)) (some (.int L.length)) none [[], [x, y]]) = some (.next, (stEl want L m0 m1 m2 m3 m4 m5 (some (.int 0)) (some (.int L.length)) (some (.str [])) [[], [x, y]])) := by kernel_rfl
theorem e5_a (want : List Nat) : ellF_5 (stEl want L m0 m1 m2 m3 m4 m5 (some (.int 0)) (some (.int L.length)) (some (.str [])) [[], [x, y]]) = some (.next, (stEl want L m0 m1 m2 m3 m4 m5 (some (.int 0)) (some (.int L.length)) (some (.str [])) [[], [x, y]])) := by kernel_rfl
theorem e6_a (want : List Nat) : ellF_6 (stEl want L m0 m1 m2 m3 m4 m5 (some (.int 0)) (some (.int L.length)) (some (.str [])) [[], [x, y]]) = some (.next, (stEl want L m0 m1 m2 m3 m4 m5 (some (.int 0)) (some (.int L.length)) (some (.str [x, y])) [[], [x, y]])) := by kernel_rfl
theorem e7t_a (want : List Nat) (hs : Txt.endswith (mkS' L) (mkS' [x, y]) = true) : ellF_7 (stEl want L m0 m1 m2 m3 m4 m5 (some (.int 0)) (some (.int L.length)) (some (.str [x, y])) [[], [x, y]]) = some (.next, (stEl want L m0 m1 m2 m3 m4 m5 (some (.int 0)) (some (.int ((L.length : Int) - 2))) (some (.str [x, y])) [[]])) := by
  delta ellF_7; refine (fb_eq (a := true) (σ := (stEl want L m0 m1 m2 m3 m4 m5 (some (.int 0)) (some (.int L.length)) (some (.str [x, y])) [[], [x, y]])) (by kernel_rfl)).trans ?_
  have h0 : ellF_7t_0 (stEl want L m0 m1 m2 m3 m4 m5 (some (.int 0)) (some (.int L.length)) (some (.str [x, y])) [[], [x, y]]) = some (.next, (stEl want L m0 m1 m2 m3 m4 m5 (some (.int 0)) (some (.int ((L.length : Int) - 2))) (some (.str [x, y])) [[]])) := by delta ellF_7t_0; exact (fb_eq (a := true) (σ := (stEl want L m0 m1 m2 m3 m4 m5 (some (.int 0)) (some (.int L.length)) (some (.str [x, y])) [[], [x, y]])) (Eq.trans (b := some (Txt.endswith (mkS' L) (mkS' [x, y]), (stEl want L m0 m1 m2 m3 m4 m5 (some (.int 0)) (some (.int L.length)) (some (.str [x, y])) [[], [x, y]]))) (by kernel_rfl) (by rw [hs]))).trans (by kernel_rfl)
  exact (fseq_next h0).trans rfl
theorem e7f_a (want : List Nat) (hs : Txt.endswith (mkS' L) (mkS' [x, y]) = false) : ellF_7 (stEl want L m0 m1 m2 m3 m4 m5 (some (.int 0)) (some (.int L.length)) (some (.str [x, y])) [[], [x, y]]) = some (.ret (.bool false), (stEl want L m0 m1 m2 m3 m4 m5 (some (.int 0)) (some (.int L.length)) (some (.str [x, y])) [[], [x, y]])) := by
  delta ellF_7; refine (fb_eq (a := true) (σ := (stEl want L m0 m1 m2 m3 m4 m5 (some (.int 0)) (some (.int L.length)) (some (.str [x, y])) [[], [x, y]])) (by kernel_rfl)).trans ?_
  have h0 : ellF_7t_0 (stEl want L m0 m1 m2 m3 m4 m5 (some (.int 0)) (some (.int L.length)) (some (.str [x, y])) [[], [x, y]]) = some (.ret (.bool false), (stEl want L m0 m1 m2 m3 m4 m5 (some (.int 0)) (some (.int L.length)) (some (.str [x, y])) [[], [x, y]])) := by delta ellF_7t_0; exact (fb_eq (a := false) (σ := (stEl want L m0 m1 m2 m3 m4 m5 (some (.int 0)) (some (.int L.length)) (some (.str [x, y])) [[], [x, y]])) (Eq.trans (b := some (Txt.endswith (mkS' L) (mkS' [x, y]), (stEl want L m0 m1 m2 m3 m4 m5 (some (.int 0)) (some (.int L.length)) (some (.str [x, y])) [[], [x, y]]))) (by kernel_rfl) (by rw [hs]))).trans (by kernel_rfl)
  exact fseq_ret h0
noncomputable def res_a (L : List Nat) (x y : Nat) : Bool := enB L [x, y] && (findsP L [[]] 0 (L.length - 2))
theorem ell_a (hl : L.length ≤ 4096) (hxy : x ≠ y) (want : List Nat) : ∃ X σ', σ'.mem = [m0, m1, m2, m3, m4, m5] ++ X ∧ seqs [ellF_3, ellF_4, ellF_5, ellF_6, ellF_7, ellF_8, ellF_9, ellF_10] (stEl want L m0 m1 m2 m3 m4 m5 none none none [[], [x, y]]) = some (.ret (.bool (res_a L x y)), σ') := by
  unfold res_a
  have b7 : Txt.endswith (mkS' L) (mkS' [x, y]) = enB L [x, y] := ends_is L [x, y]
  cases h7 : enB L [x, y] with
  | false =>
    rw [h7] at b7
    refine ⟨[.list ([[], [x, y]].map .str)], (stEl want L m0 m1 m2 m3 m4 m5 (some (.int 0)) (some (.int L.length)) (some (.str [x, y])) [[], [x, y]]), rfl, ?_⟩
    refine (fseq_next (ell3 want L m0 m1 m2 m3 m4 m5 hl [[], [x, y]])).trans ?_
    refine (fseq_next (e4_a L m0 m1 m2 m3 m4 m5 x y want)).trans ?_
    refine (fseq_next (e5_a L m0 m1 m2 m3 m4 m5 x y want)).trans ?_
    refine (fseq_next (e6_a L m0 m1 m2 m3 m4 m5 x y want)).trans ?_
    exact fseq_ret (e7f_a L m0 m1 m2 m3 m4 m5 x y want b7)
  | true =>
    rw [h7] at b7
    have hc : 2 ≤ L.length := by unfold enB at h7; simp at h7; omega
    obtain ⟨σ', h1, h2⟩ := ellTail want L m0 m1 m2 m3 m4 m5 [[]] (by simp) (by simp) 0 (L.length - 2) (by omega) (by omega) (some (.str [x, y]))
    refine ⟨_, σ', h1, ?_⟩
    refine (fseq_next (ell3 want L m0 m1 m2 m3 m4 m5 hl [[], [x, y]])).trans ?_
    refine (fseq_next (e4_a L m0 m1 m2 m3 m4 m5 x y want)).trans ?_
    refine (fseq_next (e5_a L m0 m1 m2 m3 m4 m5 x y want)).trans ?_
    refine (fseq_next (e6_a L m0 m1 m2 m3 m4 m5 x y want)).trans ?_
    refine (fseq_next (e7t_a L m0 m1 m2 m3 m4 m5 x y want b7)).trans ?_
    rw [show ((L.length : Int) - 2) = ((L.length - 2 : Nat) : Int) by omega]
    exact h2
theorem ellPre_ab (hx : LetC x) (hy : LetC y) : seqs [ellF_0, ellF_1, ellF_2] (stE0 L m0 m1 m2 m3 m4 m5 (wantP true true false x y)) = some (.next, stEl (wantP true true false x y) L m0 m1 m2 m3 m4 m5 none none none [[], [x], [y]]) := by
  rcases hx with rfl | rfl | rfl | rfl <;> rcases hy with rfl | rfl | rfl | rfl <;> kernel_rfl
theorem e4_ab (want : List Nat) : ellF_4 (stEl want L m0 m1 m2 m3 m4 m5 (some (.int 0)) (some (.int L.length)) none [[], [x], [y]]) = some (.next, (stEl want L m0 m1 m2 m3 m4 m5 (some (.int 0)) (some (.int L.length)) (some (.str [])) [[], [x], [y]])) := by kernel_rfl
theorem e5_ab (want : List Nat) : ellF_5 (stEl want L m0 m1 m2 m3 m4 m5 (some (.int 0)) (some (.int L.length)) (some (.str [])) [[], [x], [y]]) = some (.next, (stEl want L m0 m1 m2 m3 m4 m5 (some (.int 0)) (some (.int L.length)) (some (.str [])) [[], [x], [y]])) := by kernel_rfl
theorem e6_ab (want : List Nat) : ellF_6 (stEl want L m0 m1 m2 m3 m4 m5 (some (.int 0)) (some (.int L.length)) (some (.str [])) [[], [x], [y]]) = some (.next, (stEl want L m0 m1 m2 m3 m4 m5 (some (.int 0)) (some (.int L.length)) (some (.str [y])) [[], [x], [y]])) := by kernel_rfl
theorem e7t_ab (want : List Nat) (hs : Txt.endswith (mkS' L) (mkS' [y]) = true) : ellF_7 (stEl want L m0 m1 m2 m3 m4 m5 (some (.int 0)) (some (.int L.length)) (some (.str [y])) [[], [x], [y]]) = some (.next, (stEl want L m0 m1 m2 m3 m4 m5 (some (.int 0)) (some (.int ((L.length : Int) - 1))) (some (.str [y])) [[], [x]])) := by
  delta ellF_7; refine (fb_eq (a := true) (σ := (stEl want L m0 m1 m2 m3 m4 m5 (some (.int 0)) (some (.int L.length)) (some (.str [y])) [[], [x], [y]])) (by kernel_rfl)).trans ?_
  have h0 : ellF_7t_0 (stEl want L m0 m1 m2 m3 m4 m5 (some (.int 0)) (some (.int L.length)) (some (.str [y])) [[], [x], [y]]) = some (.next, (stEl want L m0 m1 m2 m3 m4 m5 (some (.int 0)) (some (.int ((L.length : Int) - 1))) (some (.str [y])) [[], [x]])) := by delta ellF_7t_0; exact (fb_eq (a := true) (σ := (stEl want L m0 m1 m2 m3 m4 m5 (some (.int 0)) (some (.int L.length)) (some (.str [y])) [[], [x], [y]])) (Eq.trans (b := some (Txt.endswith (mkS' L) (mkS' [y]), (stEl want L m0 m1 m2 m3 m4 m5 (some (.int 0)) (some (.int L.length)) (some (.str [y])) [[], [x], [y]]))) (by kernel_rfl) (by rw [hs]))).trans (by kernel_rfl)
  exact (fseq_next h0).trans rfl
theorem e7f_ab (want : List Nat) (hs : Txt.endswith (mkS' L) (mkS' [y]) = false) : ellF_7 (stEl want L m0 m1 m2 m3 m4 m5 (some (.int 0)) (some (.int L.length)) (some (.str [y])) [[], [x], [y]]) = some (.ret (.bool false), (stEl want L m0 m1 m2 m3 m4 m5 (some (.int 0)) (some (.int L.length)) (some (.str [y])) [[], [x], [y]])) := by
  delta ellF_7; refine (fb_eq (a := true) (σ := (stEl want L m0 m1 m2 m3 m4 m5 (some (.int 0)) (some (.int L.length)) (some (.str [y])) [[], [x], [y]])) (by kernel_rfl)).trans ?_
  have h0 : ellF_7t_0 (stEl want L m0 m1 m2 m3 m4 m5 (some (.int 0)) (some (.int L.length)) (some (.str [y])) [[], [x], [y]]) = some (.ret (.bool false), (stEl want L m0 m1 m2 m3 m4 m5 (some (.int 0)) (some (.int L.length)) (some (.str [y])) [[], [x], [y]])) := by delta ellF_7t_0; exact (fb_eq (a := false) (σ := (stEl want L m0 m1 m2 m3 m4 m5 (some (.int 0)) (some (.int L.length)) (some (.str [y])) [[], [x], [y]])) (Eq.trans (b := some (Txt.endswith (mkS' L) (mkS' [y]), (stEl want L m0 m1 m2 m3 m4 m5 (some (.int 0)) (some (.int L.length)) (some (.str [y])) [[], [x], [y]]))) (by kernel_rfl) (by rw [hs]))).trans (by kernel_rfl)
  exact fseq_ret h0
noncomputable def res_ab (L : List Nat) (x y : Nat) : Bool := enB L [y] && (findsP L [[], [x]] 0 (L.length - 1))
theorem ell_ab (hl : L.length ≤ 4096) (hxy : x ≠ y) (want : List Nat) : ∃ X σ', σ'.mem = [m0, m1, m2, m3, m4, m5] ++ X ∧ seqs [ellF_3, ellF_4, ellF_5, ellF_6, ellF_7, ellF_8, ellF_9, ellF_10] (stEl want L m0 m1 m2 m3 m4 m5 none none none [[], [x], [y]]) = some (.ret (.bool (res_ab L x y)), σ') := by
  unfold res_ab
  have b7 : Txt.endswith (mkS' L) (mkS' [y]) = enB L [y] := ends_is L [y]
  cases h7 : enB L [y] with
  | false =>
    rw [h7] at b7
    refine ⟨[.list ([[], [x], [y]].map .str)], (stEl want L m0 m1 m2 m3 m4 m5 (some (.int 0)) (some (.int L.length)) (some (.str [y])) [[], [x], [y]]), rfl, ?_⟩
    refine (fseq_next (ell3 want L m0 m1 m2 m3 m4 m5 hl [[], [x], [y]])).trans ?_
    refine (fseq_next (e4_ab L m0 m1 m2 m3 m4 m5 x y want)).trans ?_
    refine (fseq_next (e5_ab L m0 m1 m2 m3 m4 m5 x y want)).trans ?_
    refine (fseq_next (e6_ab L m0 m1 m2 m3 m4 m5 x y want)).trans ?_
    exact fseq_ret (e7f_ab L m0 m1 m2 m3 m4 m5 x y want b7)
  | true =>
    rw [h7] at b7
    have hc : 1 ≤ L.length := by unfold enB at h7; simp at h7; omega
    obtain ⟨σ', h1, h2⟩ := ellTail want L m0 m1 m2 m3 m4 m5 [[], [x]] (by simp) (by simp) 0 (L.length - 1) (by omega) (by omega) (some (.str [y]))
    refine ⟨_, σ', h1, ?_⟩
    refine (fseq_next (ell3 want L m0 m1 m2 m3 m4 m5 hl [[], [x], [y]])).trans ?_
    refine (fseq_next (e4_ab L m0 m1 m2 m3 m4 m5 x y want)).trans ?_
    refine (fseq_next (e5_ab L m0 m1 m2 m3 m4 m5 x y want)).trans ?_
    refine (fseq_next (e6_ab L m0 m1 m2 m3 m4 m5 x y want)).trans ?_
    refine (fseq_next (e7t_ab L m0 m1 m2 m3 m4 m5 x y want b7)).trans ?_
    rw [show ((L.length : Int) - 1) = ((L.length - 1 : Nat) : Int) by omega]
    exact h2
theorem ellPre_ac (hx : LetC x) (hy : LetC y) : seqs [ellF_0, ellF_1, ellF_2] (stE0 L m0 m1 m2 m3 m4 m5 (wantP true false true x y)) = some (.next, stEl (wantP true false true x y) L m0 m1 m2 m3 m4 m5 none none none [[], [x, y], []]) := by
  rcases hx with rfl | rfl | rfl | rfl <;> rcases hy with rfl | rfl | rfl | rfl <;> kernel_rfl
theorem e4_ac (want : List Nat) : ellF_4 (stEl want L m0 m1 m2 m3 m4 m5 (some (.int 0)) (some (.int L.length)) none [[], [x, y], []]) = some (.next, (stEl want L m0 m1 m2 m3 m4 m5 (some (.int 0)) (some (.int L.length)) (some (.str [])) [[], [x, y], []])) := by kernel_rfl
theorem e5_ac (want : List Nat) : ellF_5 (stEl want L m0 m1 m2 m3 m4 m5 (some (.int 0)) (some (.int L.length)) (some (.str [])) [[], [x, y], []]) = some (.next, (stEl want L m0 m1 m2 m3 m4 m5 (some (.int 0)) (some (.int L.length)) (some (.str [])) [[], [x, y], []])) := by kernel_rfl
theorem e6_ac (want : List Nat) : ellF_6 (stEl want L m0 m1 m2 m3 m4 m5 (some (.int 0)) (some (.int L.length)) (some (.str [])) [[], [x, y], []]) = some (.next, (stEl want L m0 m1 m2 m3 m4 m5 (some (.int 0)) (some (.int L.length)) (some (.str [])) [[], [x, y], []])) := by kernel_rfl
theorem e7_ac (want : List Nat) : ellF_7 (stEl want L m0 m1 m2 m3 m4 m5 (some (.int 0)) (some (.int L.length)) (some (.str [])) [[], [x, y], []]) = some (.next, (stEl want L m0 m1 m2 m3 m4 m5 (some (.int 0)) (some (.int L.length)) (some (.str [])) [[], [x, y], []])) := by kernel_rfl
noncomputable def res_ac (L : List Nat) (x y : Nat) : Bool := findsP L [[], [x, y], []] 0 L.length
theorem ell_ac (hl : L.length ≤ 4096) (hxy : x ≠ y) (want : List Nat) : ∃ X σ', σ'.mem = [m0, m1, m2, m3, m4, m5] ++ X ∧ seqs [ellF_3, ellF_4, ellF_5, ellF_6, ellF_7, ellF_8, ellF_9, ellF_10] (stEl want L m0 m1 m2 m3 m4 m5 none none none [[], [x, y], []]) = some (.ret (.bool (res_ac L x y)), σ') := by
  unfold res_ac
  have hc : True := trivial
  obtain ⟨σ', h1, h2⟩ := ellTail want L m0 m1 m2 m3 m4 m5 [[], [x, y], []] (by simp) (by simp) 0 L.length (by omega) (by omega) (some (.str []))
  refine ⟨_, σ', h1, ?_⟩
  refine (fseq_next (ell3 want L m0 m1 m2 m3 m4 m5 hl [[], [x, y], []])).trans ?_
  refine (fseq_next (e4_ac L m0 m1 m2 m3 m4 m5 x y want)).trans ?_
  refine (fseq_next (e5_ac L m0 m1 m2 m3 m4 m5 x y want)).trans ?_
  refine (fseq_next (e6_ac L m0 m1 m2 m3 m4 m5 x y want)).trans ?_
  refine (fseq_next (e7_ac L m0 m1 m2 m3 m4 m5 x y want)).trans ?_
  exact h2
theorem ellPre_abc (hx : LetC x) (hy : LetC y) : seqs [ellF_0, ellF_1, ellF_2] (stE0 L m0 m1 m2 m3 m4 m5 (wantP true true true x y)) = some (.next, stEl (wantP true true true x y) L m0 m1 m2 m3 m4 m5 none none none [[], [x], [y], []]) := by
  rcases hx with rfl | rfl | rfl | rfl <;> rcases hy with rfl | rfl | rfl | rfl <;> kernel_rfl
theorem e4_abc (want : List Nat) : ellF_4 (stEl want L m0 m1 m2 m3 m4 m5 (some (.int 0)) (some (.int L.length)) none [[], [x], [y], []]) = some (.next, (stEl want L m0 m1 m2 m3 m4 m5 (some (.int 0)) (some (.int L.length)) (some (.str [])) [[], [x], [y], []])) := by kernel_rfl
theorem e5_abc (want : List Nat) : ellF_5 (stEl want L m0 m1 m2 m3 m4 m5 (some (.int 0)) (some (.int L.length)) (some (.str [])) [[], [x], [y], []]) = some (.next, (stEl want L m0 m1 m2 m3 m4 m5 (some (.int 0)) (some (.int L.length)) (some (.str [])) [[], [x], [y], []])) := by kernel_rfl
theorem e6_abc (want : List Nat) : ellF_6 (stEl want L m0 m1 m2 m3 m4 m5 (some (.int 0)) (some (.int L.length)) (some (.str [])) [[], [x], [y], []]) = some (.next, (stEl want L m0 m1 m2 m3 m4 m5 (some (.int 0)) (some (.int L.length)) (some (.str [])) [[], [x], [y], []])) := by kernel_rfl
theorem e7_abc (want : List Nat) : ellF_7 (stEl want L m0 m1 m2 m3 m4 m5 (some (.int 0)) (some (.int L.length)) (some (.str [])) [[], [x], [y], []]) = some (.next, (stEl want L m0 m1 m2 m3 m4 m5 (some (.int 0)) (some (.int L.length)) (some (.str [])) [[], [x], [y], []])) := by kernel_rfl
noncomputable def res_abc (L : List Nat) (x y : Nat) : Bool := findsP L [[], [x], [y], []] 0 L.length
theorem ell_abc (hl : L.length ≤ 4096) (hxy : x ≠ y) (want : List Nat) : ∃ X σ', σ'.mem = [m0, m1, m2, m3, m4, m5] ++ X ∧ seqs [ellF_3, ellF_4, ellF_5, ellF_6, ellF_7, ellF_8, ellF_9, ellF_10] (stEl want L m0 m1 m2 m3 m4 m5 none none none [[], [x], [y], []]) = some (.ret (.bool (res_abc L x y)), σ') := by
  unfold res_abc
  have hc : True := trivial
  obtain ⟨σ', h1, h2⟩ := ellTail want L m0 m1 m2 m3 m4 m5 [[], [x], [y], []] (by simp) (by simp) 0 L.length (by omega) (by omega) (some (.str []))
  refine ⟨_, σ', h1, ?_⟩
  refine (fseq_next (ell3 want L m0 m1 m2 m3 m4 m5 hl [[], [x], [y], []])).trans ?_
  refine (fseq_next (e4_abc L m0 m1 m2 m3 m4 m5 x y want)).trans ?_
  refine (fseq_next (e5_abc L m0 m1 m2 m3 m4 m5 x y want)).trans ?_
  refine (fseq_next (e6_abc L m0 m1 m2 m3 m4 m5 x y want)).trans ?_
  refine (fseq_next (e7_abc L m0 m1 m2 m3 m4 m5 x y want)).trans ?_
  exact h2
theorem ellPre_b (hx : LetC x) (hy : LetC y) : seqs [ellF_0, ellF_1, ellF_2] (stE0 L m0 m1 m2 m3 m4 m5 (wantP false true false x y)) = some (.next, stEl (wantP false true false x y) L m0 m1 m2 m3 m4 m5 none none none [[x], [y]]) := by
  rcases hx with rfl | rfl | rfl | rfl <;> rcases hy with rfl | rfl | rfl | rfl <;> kernel_rfl
theorem e4_b (want : List Nat) : ellF_4 (stEl want L m0 m1 m2 m3 m4 m5 (some (.int 0)) (some (.int L.length)) none [[x], [y]]) = some (.next, (stEl want L m0 m1 m2 m3 m4 m5 (some (.int 0)) (some (.int L.length)) (some (.str [x])) [[x], [y]])) := by kernel_rfl
theorem e5t_b (want : List Nat) (hs : Txt.startswith (mkS' L) (mkS' [x]) = true) : ellF_5 (stEl want L m0 m1 m2 m3 m4 m5 (some (.int 0)) (some (.int L.length)) (some (.str [x])) [[x], [y]]) = some (.next, (stEl want L m0 m1 m2 m3 m4 m5 (some (.int 1)) (some (.int L.length)) (some (.str [x])) [[y]])) := by
  delta ellF_5; refine (fb_eq (a := true) (σ := (stEl want L m0 m1 m2 m3 m4 m5 (some (.int 0)) (some (.int L.length)) (some (.str [x])) [[x], [y]])) (by kernel_rfl)).trans ?_
  have h0 : ellF_5t_0 (stEl want L m0 m1 m2 m3 m4 m5 (some (.int 0)) (some (.int L.length)) (some (.str [x])) [[x], [y]]) = some (.next, (stEl want L m0 m1 m2 m3 m4 m5 (some (.int 1)) (some (.int L.length)) (some (.str [x])) [[y]])) := by delta ellF_5t_0; exact (fb_eq (a := true) (σ := (stEl want L m0 m1 m2 m3 m4 m5 (some (.int 0)) (some (.int L.length)) (some (.str [x])) [[x], [y]])) (Eq.trans (b := some (Txt.startswith (mkS' L) (mkS' [x]), (stEl want L m0 m1 m2 m3 m4 m5 (some (.int 0)) (some (.int L.length)) (some (.str [x])) [[x], [y]]))) (by kernel_rfl) (by rw [hs]))).trans (by kernel_rfl)
  exact (fseq_next h0).trans rfl
theorem e5f_b (want : List Nat) (hs : Txt.startswith (mkS' L) (mkS' [x]) = false) : ellF_5 (stEl want L m0 m1 m2 m3 m4 m5 (some (.int 0)) (some (.int L.length)) (some (.str [x])) [[x], [y]]) = some (.ret (.bool false), (stEl want L m0 m1 m2 m3 m4 m5 (some (.int 0)) (some (.int L.length)) (some (.str [x])) [[x], [y]])) := by
  delta ellF_5; refine (fb_eq (a := true) (σ := (stEl want L m0 m1 m2 m3 m4 m5 (some (.int 0)) (some (.int L.length)) (some (.str [x])) [[x], [y]])) (by kernel_rfl)).trans ?_
  have h0 : ellF_5t_0 (stEl want L m0 m1 m2 m3 m4 m5 (some (.int 0)) (some (.int L.length)) (some (.str [x])) [[x], [y]]) = some (.ret (.bool false), (stEl want L m0 m1 m2 m3 m4 m5 (some (.int 0)) (some (.int L.length)) (some (.str [x])) [[x], [y]])) := by delta ellF_5t_0; exact (fb_eq (a := false) (σ := (stEl want L m0 m1 m2 m3 m4 m5 (some (.int 0)) (some (.int L.length)) (some (.str [x])) [[x], [y]])) (Eq.trans (b := some (Txt.startswith (mkS' L) (mkS' [x]), (stEl want L m0 m1 m2 m3 m4 m5 (some (.int 0)) (some (.int L.length)) (some (.str [x])) [[x], [y]]))) (by kernel_rfl) (by rw [hs]))).trans (by kernel_rfl)
  exact fseq_ret h0
theorem e6_b (want : List Nat) : ellF_6 (stEl want L m0 m1 m2 m3 m4 m5 (some (.int 1)) (some (.int L.length)) (some (.str [x])) [[y]]) = some (.next, (stEl want L m0 m1 m2 m3 m4 m5 (some (.int 1)) (some (.int L.length)) (some (.str [y])) [[y]])) := by kernel_rfl
theorem e7t_b (want : List Nat) (hs : Txt.endswith (mkS' L) (mkS' [y]) = true) : ellF_7 (stEl want L m0 m1 m2 m3 m4 m5 (some (.int 1)) (some (.int L.length)) (some (.str [y])) [[y]]) = some (.next, (stEl want L m0 m1 m2 m3 m4 m5 (some (.int 1)) (some (.int ((L.length : Int) - 1))) (some (.str [y])) [])) := by
  delta ellF_7; refine (fb_eq (a := true) (σ := (stEl want L m0 m1 m2 m3 m4 m5 (some (.int 1)) (some (.int L.length)) (some (.str [y])) [[y]])) (by kernel_rfl)).trans ?_
  have h0 : ellF_7t_0 (stEl want L m0 m1 m2 m3 m4 m5 (some (.int 1)) (some (.int L.length)) (some (.str [y])) [[y]]) = some (.next, (stEl want L m0 m1 m2 m3 m4 m5 (some (.int 1)) (some (.int ((L.length : Int) - 1))) (some (.str [y])) [])) := by delta ellF_7t_0; exact (fb_eq (a := true) (σ := (stEl want L m0 m1 m2 m3 m4 m5 (some (.int 1)) (some (.int L.length)) (some (.str [y])) [[y]])) (Eq.trans (b := some (Txt.endswith (mkS' L) (mkS' [y]), (stEl want L m0 m1 m2 m3 m4 m5 (some (.int 1)) (some (.int L.length)) (some (.str [y])) [[y]]))) (by kernel_rfl) (by rw [hs]))).trans (by kernel_rfl)
  exact (fseq_next h0).trans rfl
theorem e7f_b (want : List Nat) (hs : Txt.endswith (mkS' L) (mkS' [y]) = false) : ellF_7 (stEl want L m0 m1 m2 m3 m4 m5 (some (.int 1)) (some (.int L.length)) (some (.str [y])) [[y]]) = some (.ret (.bool false), (stEl want L m0 m1 m2 m3 m4 m5 (some (.int 1)) (some (.int L.length)) (some (.str [y])) [[y]])) := by
  delta ellF_7; refine (fb_eq (a := true) (σ := (stEl want L m0 m1 m2 m3 m4 m5 (some (.int 1)) (some (.int L.length)) (some (.str [y])) [[y]])) (by kernel_rfl)).trans ?_
  have h0 : ellF_7t_0 (stEl want L m0 m1 m2 m3 m4 m5 (some (.int 1)) (some (.int L.length)) (some (.str [y])) [[y]]) = some (.ret (.bool false), (stEl want L m0 m1 m2 m3 m4 m5 (some (.int 1)) (some (.int L.length)) (some (.str [y])) [[y]])) := by delta ellF_7t_0; exact (fb_eq (a := false) (σ := (stEl want L m0 m1 m2 m3 m4 m5 (some (.int 1)) (some (.int L.length)) (some (.str [y])) [[y]])) (Eq.trans (b := some (Txt.endswith (mkS' L) (mkS' [y]), (stEl want L m0 m1 m2 m3 m4 m5 (some (.int 1)) (some (.int L.length)) (some (.str [y])) [[y]]))) (by kernel_rfl) (by rw [hs]))).trans (by kernel_rfl)
  exact fseq_ret h0
noncomputable def res_b (L : List Nat) (x y : Nat) : Bool := stB' L [x] && (enB L [y] && (findsP L [] 1 (L.length - 1)))
theorem ell_b (hl : L.length ≤ 4096) (hxy : x ≠ y) (want : List Nat) : ∃ X σ', σ'.mem = [m0, m1, m2, m3, m4, m5] ++ X ∧ seqs [ellF_3, ellF_4, ellF_5, ellF_6, ellF_7, ellF_8, ellF_9, ellF_10] (stEl want L m0 m1 m2 m3 m4 m5 none none none [[x], [y]]) = some (.ret (.bool (res_b L x y)), σ') := by
  unfold res_b
  have b5 : Txt.startswith (mkS' L) (mkS' [x]) = stB' L [x] := starts_is L [x]
  cases h5 : stB' L [x] with
  | false =>
    rw [h5] at b5
    refine ⟨[.list ([[x], [y]].map .str)], (stEl want L m0 m1 m2 m3 m4 m5 (some (.int 0)) (some (.int L.length)) (some (.str [x])) [[x], [y]]), rfl, ?_⟩
    refine (fseq_next (ell3 want L m0 m1 m2 m3 m4 m5 hl [[x], [y]])).trans ?_
    refine (fseq_next (e4_b L m0 m1 m2 m3 m4 m5 x y want)).trans ?_
    exact fseq_ret (e5f_b L m0 m1 m2 m3 m4 m5 x y want b5)
  | true =>
    rw [h5] at b5
    have b7 : Txt.endswith (mkS' L) (mkS' [y]) = enB L [y] := ends_is L [y]
    cases h7 : enB L [y] with
    | false =>
      rw [h7] at b7
      refine ⟨[.list ([[y]].map .str)], (stEl want L m0 m1 m2 m3 m4 m5 (some (.int 1)) (some (.int L.length)) (some (.str [y])) [[y]]), rfl, ?_⟩
      refine (fseq_next (ell3 want L m0 m1 m2 m3 m4 m5 hl [[x], [y]])).trans ?_
      refine (fseq_next (e4_b L m0 m1 m2 m3 m4 m5 x y want)).trans ?_
      refine (fseq_next (e5t_b L m0 m1 m2 m3 m4 m5 x y want b5)).trans ?_
      refine (fseq_next (e6_b L m0 m1 m2 m3 m4 m5 x y want)).trans ?_
      exact fseq_ret (e7f_b L m0 m1 m2 m3 m4 m5 x y want b7)
    | true =>
      rw [h7] at b7
      have hc : 2 ≤ L.length := two_len h5 h7 hxy
      obtain ⟨σ', h1, h2⟩ := ellTail want L m0 m1 m2 m3 m4 m5 [] (by simp) (by simp) 1 (L.length - 1) (by omega) (by omega) (some (.str [y]))
      refine ⟨_, σ', h1, ?_⟩
      refine (fseq_next (ell3 want L m0 m1 m2 m3 m4 m5 hl [[x], [y]])).trans ?_
      refine (fseq_next (e4_b L m0 m1 m2 m3 m4 m5 x y want)).trans ?_
      refine (fseq_next (e5t_b L m0 m1 m2 m3 m4 m5 x y want b5)).trans ?_
      refine (fseq_next (e6_b L m0 m1 m2 m3 m4 m5 x y want)).trans ?_
      refine (fseq_next (e7t_b L m0 m1 m2 m3 m4 m5 x y want b7)).trans ?_
      rw [show ((L.length : Int) - 1) = ((L.length - 1 : Nat) : Int) by omega]
      exact h2
theorem ellPre_c (hx : LetC x) (hy : LetC y) : seqs [ellF_0, ellF_1, ellF_2] (stE0 L m0 m1 m2 m3 m4 m5 (wantP false false true x y)) = some (.next, stEl (wantP false false true x y) L m0 m1 m2 m3 m4 m5 none none none [[x, y], []]) := by
  rcases hx with rfl | rfl | rfl | rfl <;> rcases hy with rfl | rfl | rfl | rfl <;> kernel_rfl
theorem e4_c (want : List Nat) : ellF_4 (stEl want L m0 m1 m2 m3 m4 m5 (some (.int 0)) (some (.int L.length)) none [[x, y], []]) = some (.next, (stEl want L m0 m1 m2 m3 m4 m5 (some (.int 0)) (some (.int L.length)) (some (.str [x, y])) [[x, y], []])) := by kernel_rfl
theorem e5t_c (want : List Nat) (hs : Txt.startswith (mkS' L) (mkS' [x, y]) = true) : ellF_5 (stEl want L m0 m1 m2 m3 m4 m5 (some (.int 0)) (some (.int L.length)) (some (.str [x, y])) [[x, y], []]) = some (.next, (stEl want L m0 m1 m2 m3 m4 m5 (some (.int 2)) (some (.int L.length)) (some (.str [x, y])) [[]])) := by
  delta ellF_5; refine (fb_eq (a := true) (σ := (stEl want L m0 m1 m2 m3 m4 m5 (some (.int 0)) (some (.int L.length)) (some (.str [x, y])) [[x, y], []])) (by kernel_rfl)).trans ?_
  have h0 : ellF_5t_0 (stEl want L m0 m1 m2 m3 m4 m5 (some (.int 0)) (some (.int L.length)) (some (.str [x, y])) [[x, y], []]) = some (.next, (stEl want L m0 m1 m2 m3 m4 m5 (some (.int 2)) (some (.int L.length)) (some (.str [x, y])) [[]])) := by delta ellF_5t_0; exact (fb_eq (a := true) (σ := (stEl want L m0 m1 m2 m3 m4 m5 (some (.int 0)) (some (.int L.length)) (some (.str [x, y])) [[x, y], []])) (Eq.trans (b := some (Txt.startswith (mkS' L) (mkS' [x, y]), (stEl want L m0 m1 m2 m3 m4 m5 (some (.int 0)) (some (.int L.length)) (some (.str [x, y])) [[x, y], []]))) (by kernel_rfl) (by rw [hs]))).trans (by kernel_rfl)
  exact (fseq_next h0).trans rfl
theorem e5f_c (want : List Nat) (hs : Txt.startswith (mkS' L) (mkS' [x, y]) = false) : ellF_5 (stEl want L m0 m1 m2 m3 m4 m5 (some (.int 0)) (some (.int L.length)) (some (.str [x, y])) [[x, y], []]) = some (.ret (.bool false), (stEl want L m0 m1 m2 m3 m4 m5 (some (.int 0)) (some (.int L.length)) (some (.str [x, y])) [[x, y], []])) := by
  delta ellF_5; refine (fb_eq (a := true) (σ := (stEl want L m0 m1 m2 m3 m4 m5 (some (.int 0)) (some (.int L.length)) (some (.str [x, y])) [[x, y], []])) (by kernel_rfl)).trans ?_
  have h0 : ellF_5t_0 (stEl want L m0 m1 m2 m3 m4 m5 (some (.int 0)) (some (.int L.length)) (some (.str [x, y])) [[x, y], []]) = some (.ret (.bool false), (stEl want L m0 m1 m2 m3 m4 m5 (some (.int 0)) (some (.int L.length)) (some (.str [x, y])) [[x, y], []])) := by delta ellF_5t_0; exact (fb_eq (a := false) (σ := (stEl want L m0 m1 m2 m3 m4 m5 (some (.int 0)) (some (.int L.length)) (some (.str [x, y])) [[x, y], []])) (Eq.trans (b := some (Txt.startswith (mkS' L) (mkS' [x, y]), (stEl want L m0 m1 m2 m3 m4 m5 (some (.int 0)) (some (.int L.length)) (some (.str [x, y])) [[x, y], []]))) (by kernel_rfl) (by rw [hs]))).trans (by kernel_rfl)
  exact fseq_ret h0
theorem e6_c (want : List Nat) : ellF_6 (stEl want L m0 m1 m2 m3 m4 m5 (some (.int 2)) (some (.int L.length)) (some (.str [x, y])) [[]]) = some (.next, (stEl want L m0 m1 m2 m3 m4 m5 (some (.int 2)) (some (.int L.length)) (some (.str [])) [[]])) := by kernel_rfl
theorem e7_c (want : List Nat) : ellF_7 (stEl want L m0 m1 m2 m3 m4 m5 (some (.int 2)) (some (.int L.length)) (some (.str [])) [[]]) = some (.next, (stEl want L m0 m1 m2 m3 m4 m5 (some (.int 2)) (some (.int L.length)) (some (.str [])) [[]])) := by kernel_rfl
noncomputable def res_c (L : List Nat) (x y : Nat) : Bool := stB' L [x, y] && (findsP L [[]] 2 L.length)
theorem ell_c (hl : L.length ≤ 4096) (hxy : x ≠ y) (want : List Nat) : ∃ X σ', σ'.mem = [m0, m1, m2, m3, m4, m5] ++ X ∧ seqs [ellF_3, ellF_4, ellF_5, ellF_6, ellF_7, ellF_8, ellF_9, ellF_10] (stEl want L m0 m1 m2 m3 m4 m5 none none none [[x, y], []]) = some (.ret (.bool (res_c L x y)), σ') := by
  unfold res_c
  have b5 : Txt.startswith (mkS' L) (mkS' [x, y]) = stB' L [x, y] := starts_is L [x, y]
  cases h5 : stB' L [x, y] with
  | false =>
    rw [h5] at b5
    refine ⟨[.list ([[x, y], []].map .str)], (stEl want L m0 m1 m2 m3 m4 m5 (some (.int 0)) (some (.int L.length)) (some (.str [x, y])) [[x, y], []]), rfl, ?_⟩
    refine (fseq_next (ell3 want L m0 m1 m2 m3 m4 m5 hl [[x, y], []])).trans ?_
    refine (fseq_next (e4_c L m0 m1 m2 m3 m4 m5 x y want)).trans ?_
    exact fseq_ret (e5f_c L m0 m1 m2 m3 m4 m5 x y want b5)
  | true =>
    rw [h5] at b5
    have hc : 2 ≤ L.length := by unfold stB' at h5; exact (at_two.mp h5).1
    obtain ⟨σ', h1, h2⟩ := ellTail want L m0 m1 m2 m3 m4 m5 [[]] (by simp) (by simp) 2 L.length (by omega) (by omega) (some (.str []))
    refine ⟨_, σ', h1, ?_⟩
    refine (fseq_next (ell3 want L m0 m1 m2 m3 m4 m5 hl [[x, y], []])).trans ?_
    refine (fseq_next (e4_c L m0 m1 m2 m3 m4 m5 x y want)).trans ?_
    refine (fseq_next (e5t_c L m0 m1 m2 m3 m4 m5 x y want b5)).trans ?_
    refine (fseq_next (e6_c L m0 m1 m2 m3 m4 m5 x y want)).trans ?_
    refine (fseq_next (e7_c L m0 m1 m2 m3 m4 m5 x y want)).trans ?_
    exact h2
theorem ellPre_bc (hx : LetC x) (hy : LetC y) : seqs [ellF_0, ellF_1, ellF_2] (stE0 L m0 m1 m2 m3 m4 m5 (wantP false true true x y)) = some (.next, stEl (wantP false true true x y) L m0 m1 m2 m3 m4 m5 none none none [[x], [y], []]) := by
  rcases hx with rfl | rfl | rfl | rfl <;> rcases hy with rfl | rfl | rfl | rfl <;> kernel_rfl
theorem e4_bc (want : List Nat) : ellF_4 (stEl want L m0 m1 m2 m3 m4 m5 (some (.int 0)) (some (.int L.length)) none [[x], [y], []]) = some (.next, (stEl want L m0 m1 m2 m3 m4 m5 (some (.int 0)) (some (.int L.length)) (some (.str [x])) [[x], [y], []])) := by kernel_rfl
theorem e5t_bc (want : List Nat) (hs : Txt.startswith (mkS' L) (mkS' [x]) = true) : ellF_5 (stEl want L m0 m1 m2 m3 m4 m5 (some (.int 0)) (some (.int L.length)) (some (.str [x])) [[x], [y], []]) = some (.next, (stEl want L m0 m1 m2 m3 m4 m5 (some (.int 1)) (some (.int L.length)) (some (.str [x])) [[y], []])) := by
  delta ellF_5; refine (fb_eq (a := true) (σ := (stEl want L m0 m1 m2 m3 m4 m5 (some (.int 0)) (some (.int L.length)) (some (.str [x])) [[x], [y], []])) (by kernel_rfl)).trans ?_
  have h0 : ellF_5t_0 (stEl want L m0 m1 m2 m3 m4 m5 (some (.int 0)) (some (.int L.length)) (some (.str [x])) [[x], [y], []]) = some (.next, (stEl want L m0 m1 m2 m3 m4 m5 (some (.int 1)) (some (.int L.length)) (some (.str [x])) [[y], []])) := by delta ellF_5t_0; exact (fb_eq (a := true) (σ := (stEl want L m0 m1 m2 m3 m4 m5 (some (.int 0)) (some (.int L.length)) (some (.str [x])) [[x], [y], []])) (Eq.trans (b := some (Txt.startswith (mkS' L) (mkS' [x]), (stEl want L m0 m1 m2 m3 m4 m5 (some (.int 0)) (some (.int L.length)) (some (.str [x])) [[x], [y], []]))) (by kernel_rfl) (by rw [hs]))).trans (by kernel_rfl)
  exact (fseq_next h0).trans rfl
theorem e5f_bc (want : List Nat) (hs : Txt.startswith (mkS' L) (mkS' [x]) = false) : ellF_5 (stEl want L m0 m1 m2 m3 m4 m5 (some (.int 0)) (some (.int L.length)) (some (.str [x])) [[x], [y], []]) = some (.ret (.bool false), (stEl want L m0 m1 m2 m3 m4 m5 (some (.int 0)) (some (.int L.length)) (some (.str [x])) [[x], [y], []])) := by
  delta ellF_5; refine (fb_eq (a := true) (σ := (stEl want L m0 m1 m2 m3 m4 m5 (some (.int 0)) (some (.int L.length)) (some (.str [x])) [[x], [y], []])) (by kernel_rfl)).trans ?_
  have h0 : ellF_5t_0 (stEl want L m0 m1 m2 m3 m4 m5 (some (.int 0)) (some (.int L.length)) (some (.str [x])) [[x], [y], []]) = some (.ret (.bool false), (stEl want L m0 m1 m2 m3 m4 m5 (some (.int 0)) (some (.int L.length)) (some (.str [x])) [[x], [y], []])) := by delta ellF_5t_0; exact (fb_eq (a := false) (σ := (stEl want L m0 m1 m2 m3 m4 m5 (some (.int 0)) (some (.int L.length)) (some (.str [x])) [[x], [y], []])) (Eq.trans (b := some (Txt.startswith (mkS' L) (mkS' [x]), (stEl want L m0 m1 m2 m3 m4 m5 (some (.int 0)) (some (.int L.length)) (some (.str [x])) [[x], [y], []]))) (by kernel_rfl) (by rw [hs]))).trans (by kernel_rfl)
  exact fseq_ret h0
theorem e6_bc (want : List Nat) : ellF_6 (stEl want L m0 m1 m2 m3 m4 m5 (some (.int 1)) (some (.int L.length)) (some (.str [x])) [[y], []]) = some (.next, (stEl want L m0 m1 m2 m3 m4 m5 (some (.int 1)) (some (.int L.length)) (some (.str [])) [[y], []])) := by kernel_rfl
theorem e7_bc (want : List Nat) : ellF_7 (stEl want L m0 m1 m2 m3 m4 m5 (some (.int 1)) (some (.int L.length)) (some (.str [])) [[y], []]) = some (.next, (stEl want L m0 m1 m2 m3 m4 m5 (some (.int 1)) (some (.int L.length)) (some (.str [])) [[y], []])) := by kernel_rfl
noncomputable def res_bc (L : List Nat) (x y : Nat) : Bool := stB' L [x] && (findsP L [[y], []] 1 L.length)
theorem ell_bc (hl : L.length ≤ 4096) (hxy : x ≠ y) (want : List Nat) : ∃ X σ', σ'.mem = [m0, m1, m2, m3, m4, m5] ++ X ∧ seqs [ellF_3, ellF_4, ellF_5, ellF_6, ellF_7, ellF_8, ellF_9, ellF_10] (stEl want L m0 m1 m2 m3 m4 m5 none none none [[x], [y], []]) = some (.ret (.bool (res_bc L x y)), σ') := by
  unfold res_bc
  have b5 : Txt.startswith (mkS' L) (mkS' [x]) = stB' L [x] := starts_is L [x]
  cases h5 : stB' L [x] with
  | false =>
    rw [h5] at b5
    refine ⟨[.list ([[x], [y], []].map .str)], (stEl want L m0 m1 m2 m3 m4 m5 (some (.int 0)) (some (.int L.length)) (some (.str [x])) [[x], [y], []]), rfl, ?_⟩
    refine (fseq_next (ell3 want L m0 m1 m2 m3 m4 m5 hl [[x], [y], []])).trans ?_
    refine (fseq_next (e4_bc L m0 m1 m2 m3 m4 m5 x y want)).trans ?_
    exact fseq_ret (e5f_bc L m0 m1 m2 m3 m4 m5 x y want b5)
  | true =>
    rw [h5] at b5
    have hc : 1 ≤ L.length := by unfold stB' at h5; exact (at_one.mp h5).1
    obtain ⟨σ', h1, h2⟩ := ellTail want L m0 m1 m2 m3 m4 m5 [[y], []] (by simp) (by simp) 1 L.length (by omega) (by omega) (some (.str []))
    refine ⟨_, σ', h1, ?_⟩
    refine (fseq_next (ell3 want L m0 m1 m2 m3 m4 m5 hl [[x], [y], []])).trans ?_
    refine (fseq_next (e4_bc L m0 m1 m2 m3 m4 m5 x y want)).trans ?_
    refine (fseq_next (e5t_bc L m0 m1 m2 m3 m4 m5 x y want b5)).trans ?_
    refine (fseq_next (e6_bc L m0 m1 m2 m3 m4 m5 x y want)).trans ?_
    refine (fseq_next (e7_bc L m0 m1 m2 m3 m4 m5 x y want)).trans ?_
    exact h2
end
end Mine
end
section
open PySem PySem.W PyProof.Rows PySem.Calls
open PySem.Builtin PySem.Builtin.Str
set_option maxHeartbeats 400000
namespace Mine
theorem first_nil {L : List Nat} {lo hi : Nat} (h : lo ≤ hi) : firstO L [] lo hi = some lo := by
  cases hf : firstO L [] lo hi with
  | none => exact absurd (at_nil L h) (by rw [first_none hf lo (Nat.le_refl _)]; decide)
  | some k =>
    obtain ⟨h1, h2, h3⟩ := first_some hf
    rcases Nat.eq_or_lt_of_le h1 with e | e
    · rw [e]
    · exact absurd (at_nil L h) (by rw [h3 lo (Nat.le_refl _) e]; decide)
theorem finds_nil {L : List Nat} {ws : List (List Nat)} {lo hi : Nat} (h : lo ≤ hi) : findsP L ([] :: ws) lo hi = findsP L ws lo hi := by
  rw [findsP, first_nil h]; rfl
theorem finds_cons {L w : List Nat} {ws : List (List Nat)} {lo hi : Nat} : findsP L (w :: ws) lo hi = true ↔ ∃ k, firstO L w lo hi = some k ∧ findsP L ws (k + w.length) hi = true := by
  rw [findsP]
  cases firstO L w lo hi with
  | none => simp
  | some k => simp
theorem first_ex {L w : List Nat} {lo hi k : Nat} (h1 : lo ≤ k) (h2 : atB L w hi k = true) : ∃ m, firstO L w lo hi = some m ∧ m ≤ k := by
  cases hf : firstO L w lo hi with
  | none => rw [first_none hf k h1] at h2; cases h2
  | some m =>
    obtain ⟨_, _, h⟩ := first_some hf
    refine ⟨m, rfl, ?_⟩
    rcases Nat.lt_or_ge k m with c | c
    · rw [h k h1 c] at h2; cases h2
    · exact c
noncomputable def stepP (L : List Nat) (a b c : Bool) (x y : Nat) : Prop := ∃ i j, i < j ∧ L[i]? = some x ∧ L[j]? = some y ∧ okIJ L a b c i j = true
theorem lt_of {L : List Nat} {i x : Nat} (h : L[i]? = some x) : i < L.length := (List.getElem?_eq_some_iff.mp h).1
theorem ok_iff (L : List Nat) (a b c : Bool) (i j : Nat) : okIJ L a b c i j = true ↔ (a = true ∨ i = 0) ∧ (b = true ∨ j = i + 1) ∧ (c = true ∨ j + 1 = L.length) := by
  unfold okIJ
  simp [Bool.and_eq_true, Bool.or_eq_true]
theorem en_one {L : List Nat} {y : Nat} : enB L [y] = true ↔ ∃ j, j + 1 = L.length ∧ L[j]? = some y := by
  unfold enB
  rw [Bool.and_eq_true, decide_eq_true_eq, at_one]
  show 1 ≤ L.length ∧ _ ∧ L[L.length - 1]? = _ ↔ _
  constructor
  · rintro ⟨h1, h2, h3⟩
    exact ⟨L.length - 1, by omega, h3⟩
  · rintro ⟨j, h1, h2⟩
    refine ⟨by omega, ?_, ?_⟩
    · show L.length - 1 + 1 ≤ _; omega
    · rw [show L.length - 1 = j by omega]; exact h2
theorem en_two {L : List Nat} {x y : Nat} : enB L [x, y] = true ↔ ∃ i, i + 2 = L.length ∧ L[i]? = some x ∧ L[i + 1]? = some y := by
  unfold enB
  rw [Bool.and_eq_true, decide_eq_true_eq, at_two]
  show 2 ≤ L.length ∧ _ ∧ L[L.length - 2]? = _ ∧ L[L.length - 2 + 1]? = _ ↔ _
  constructor
  · rintro ⟨h1, h2, h3, h4⟩
    exact ⟨L.length - 2, by omega, h3, h4⟩
  · rintro ⟨i, h1, h2, h3⟩
    have e : L.length - 2 = i := by omega
    refine ⟨by omega, ?_, ?_, ?_⟩
    · show L.length - 2 + 2 ≤ _; omega
    · rw [e]; exact h2
    · rw [e]; exact h3
theorem st_one {L : List Nat} {x : Nat} : stB' L [x] = true ↔ L[0]? = some x := by
  unfold stB'
  rw [at_one]
  exact ⟨fun h => h.2, fun h => ⟨lt_of h, h⟩⟩
theorem st_two {L : List Nat} {x y : Nat} : stB' L [x, y] = true ↔ L[0]? = some x ∧ L[1]? = some y := by
  unfold stB'
  rw [at_two]
  exact ⟨fun h => h.2, fun h => ⟨lt_of h.2, h⟩⟩
section
variable (L : List Nat) (x y : Nat)
theorem sp_a : res_a L x y = true ↔ stepP L true false false x y := by
  unfold res_a stepP
  rw [Bool.and_eq_true, en_two, finds_nil (Nat.zero_le _)]
  simp only [ok_iff]
  constructor
  · rintro ⟨⟨i, h1, h2, h3⟩, _⟩
    exact ⟨i, i + 1, by omega, h2, h3, .inl trivial, .inr rfl, .inr h1⟩
  · rintro ⟨i, j, h1, h2, h3, _, h4, h5⟩
    have e1 : j = i + 1 := by simpa using h4
    have e2 : j + 1 = L.length := by simpa using h5
    subst e1
    exact ⟨⟨i, e2, h2, h3⟩, rfl⟩
theorem sp_ab : res_ab L x y = true ↔ stepP L true true false x y := by
  unfold res_ab stepP
  rw [Bool.and_eq_true, en_one, finds_nil (Nat.zero_le _), finds_cons]
  simp only [ok_iff]
  constructor
  · rintro ⟨⟨j, h1, h2⟩, k, h3, _⟩
    obtain ⟨_, h4, _⟩ := first_some h3
    obtain ⟨h5, h6⟩ := at_one.mp h4
    exact ⟨k, j, by omega, h6, h2, .inl trivial, .inl trivial, .inr h1⟩
  · rintro ⟨i, j, h1, h2, h3, _, _, h5⟩
    have e2 : j + 1 = L.length := by simpa using h5
    obtain ⟨m, hm, _⟩ := first_ex (lo := 0) (hi := L.length - 1) (Nat.zero_le i) (at_one.mpr ⟨by omega, h2⟩)
    exact ⟨⟨j, e2, h3⟩, m, hm, rfl⟩
theorem sp_ac : res_ac L x y = true ↔ stepP L true false true x y := by
  unfold res_ac stepP
  rw [finds_nil (Nat.zero_le _), finds_cons]
  simp only [ok_iff]
  constructor
  · rintro ⟨k, h3, _⟩
    obtain ⟨_, h4, _⟩ := first_some h3
    obtain ⟨h5, h6, h7⟩ := at_two.mp h4
    exact ⟨k, k + 1, by omega, h6, h7, .inl trivial, .inr rfl, .inl trivial⟩
  · rintro ⟨i, j, h1, h2, h3, _, h4, _⟩
    have e1 : j = i + 1 := by simpa using h4
    subst e1
    have := lt_of h3
    obtain ⟨m, hm, hle⟩ := first_ex (lo := 0) (hi := L.length) (Nat.zero_le i) (at_two.mpr ⟨by omega, h2, h3⟩)
    refine ⟨m, hm, ?_⟩
    rw [finds_nil (by show m + 2 ≤ _; omega)]
    rfl
theorem sp_abc : res_abc L x y = true ↔ stepP L true true true x y := by
  unfold res_abc stepP
  rw [finds_nil (Nat.zero_le _), finds_cons]
  simp only [ok_iff]
  constructor
  · rintro ⟨k, h3, h⟩
    obtain ⟨k', h3', h'⟩ := finds_cons.mp h
    obtain ⟨_, h4, _⟩ := first_some h3
    obtain ⟨h5, h6⟩ := at_one.mp h4
    obtain ⟨h0', h4', _⟩ := first_some h3'
    obtain ⟨h5', h6'⟩ := at_one.mp h4'
    exact ⟨k, k', h0', h6, h6', .inl trivial, .inl trivial, .inl trivial⟩
  · rintro ⟨i, j, h1, h2, h3, _⟩
    have hi := lt_of h2
    have hj := lt_of h3
    obtain ⟨m, hm, hle⟩ := first_ex (lo := 0) (hi := L.length) (Nat.zero_le i) (at_one.mpr ⟨by omega, h2⟩)
    obtain ⟨m', hm', hle'⟩ := first_ex (L := L) (w := [y]) (lo := m + 1) (hi := L.length) (k := j) (by omega) (at_one.mpr ⟨by omega, h3⟩)
    refine ⟨m, hm, finds_cons.mpr ⟨m', hm', ?_⟩⟩
    rw [finds_nil (by show m' + 1 ≤ _; omega)]
    rfl
theorem sp_b (hxy : x ≠ y) : res_b L x y = true ↔ stepP L false true false x y := by
  unfold res_b stepP
  rw [Bool.and_eq_true, Bool.and_eq_true, st_one, en_one]
  simp only [ok_iff]
  constructor
  · rintro ⟨h1, ⟨j, h2, h3⟩, _⟩
    have : j ≠ 0 := by
      rintro rfl
      rw [h1] at h3
      exact hxy (Option.some.inj h3)
    exact ⟨0, j, by omega, h1, h3, .inr rfl, .inl trivial, .inr h2⟩
  · rintro ⟨i, j, h1, h2, h3, h4, _, h5⟩
    have e1 : i = 0 := by simpa using h4
    have e2 : j + 1 = L.length := by simpa using h5
    subst e1
    exact ⟨h2, ⟨j, e2, h3⟩, rfl⟩
theorem sp_c : res_c L x y = true ↔ stepP L false false true x y := by
  unfold res_c stepP
  rw [Bool.and_eq_true, st_two]
  simp only [ok_iff]
  constructor
  · rintro ⟨⟨h1, h2⟩, _⟩
    exact ⟨0, 1, by omega, h1, h2, .inr rfl, .inr rfl, .inl trivial⟩
  · rintro ⟨i, j, h1, h2, h3, h4, h5, _⟩
    have e1 : i = 0 := by simpa using h4
    have e2 : j = i + 1 := by simpa using h5
    subst e1
    subst e2
    have := lt_of h3
    refine ⟨⟨h2, h3⟩, ?_⟩
    rw [finds_nil (by omega)]
    rfl
theorem sp_bc : res_bc L x y = true ↔ stepP L false true true x y := by
  unfold res_bc stepP
  rw [Bool.and_eq_true, st_one, finds_cons]
  simp only [ok_iff]
  constructor
  · rintro ⟨h1, k, h3, _⟩
    obtain ⟨h0, h4, _⟩ := first_some h3
    obtain ⟨h5, h6⟩ := at_one.mp h4
    exact ⟨0, k, by omega, h1, h6, .inr rfl, .inl trivial, .inl trivial⟩
  · rintro ⟨i, j, h1, h2, h3, h4, _, _⟩
    have e1 : i = 0 := by simpa using h4
    subst e1
    have hj := lt_of h3
    obtain ⟨m, hm, hle⟩ := first_ex (L := L) (w := [y]) (lo := 1) (hi := L.length) (k := j) (by omega) (at_one.mpr ⟨by omega, h3⟩)
    refine ⟨h2, m, hm, ?_⟩
    rw [finds_nil (by show m + 1 ≤ _; omega)]
    rfl
theorem sp_0 : ([x, y] == L) = true ↔ stepP L false false false x y := by
  unfold stepP
  rw [beq_iff_eq]
  simp only [ok_iff]
  constructor
  · rintro rfl
    exact ⟨0, 1, by omega, rfl, rfl, .inr rfl, .inr rfl, .inr rfl⟩
  · rintro ⟨i, j, h1, h2, h3, h4, h5, h6⟩
    have e1 : i = 0 := by simpa using h4
    have e2 : j = i + 1 := by simpa using h5
    have e3 : j + 1 = L.length := by simpa using h6
    subst e1
    subst e2
    match L, h2, h3, e3 with
    | [p, q], h2, h3, _ =>
      simp at h2 h3
      rw [h2, h3]
end
noncomputable def ellRes (L : List Nat) : Bool → Bool → Bool → Nat → Nat → Bool
  | true, false, false => res_a L
  | true, true, false => res_ab L
  | true, false, true => res_ac L
  | true, true, true => res_abc L
  | false, true, false => res_b L
  | false, false, true => res_c L
  | false, true, true => res_bc L
  | false, false, false => fun x y => [x, y] == L
theorem ellRes_iff (L : List Nat) (a b c : Bool) (x y : Nat) (hxy : x ≠ y) : ellRes L a b c x y = true ↔ stepP L a b c x y := by
  cases a <;> cases b <;> cases c
  · exact sp_0 L x y
  · exact sp_c L x y
  · exact sp_b L x y hxy
  · exact sp_bc L x y
  · exact sp_a L x y
  · exact sp_ac L x y
  · exact sp_ab L x y
  · exact sp_abc L x y
section
variable (L : List Nat) (m0 m1 m2 m3 m4 m5 : PO) (x y : Nat)
theorem ell_0 (hx : LetC x) (hy : LetC y) : ellF (stE0 L m0 m1 m2 m3 m4 m5 (wantP false false false x y)) = some (.ret (.bool ([x, y] == L)), stE0 L m0 m1 m2 m3 m4 m5 (wantP false false false x y)) := by
  have h0 : ellF_0 (stE0 L m0 m1 m2 m3 m4 m5 (wantP false false false x y)) = some (.ret (.bool ([x, y] == L)), stE0 L m0 m1 m2 m3 m4 m5 (wantP false false false x y)) := by
    delta ellF_0; refine (fb_eq (a := true) (σ := stE0 L m0 m1 m2 m3 m4 m5 (wantP false false false x y)) ?_).trans rfl
    rcases hx with rfl | rfl | rfl | rfl <;> rcases hy with rfl | rfl | rfl | rfl <;> kernel_rfl
  exact fseq_ret h0
theorem ellF_is (σ : PS) : ellF σ = seqs ([ellF_0, ellF_1, ellF_2] ++ [ellF_3, ellF_4, ellF_5, ellF_6, ellF_7, ellF_8, ellF_9, ellF_10]) σ := rfl
theorem ell_all (a b c : Bool) (hx : LetC x) (hy : LetC y) (hxy : x ≠ y) (hl : L.length ≤ 4096) : ∃ X σ', σ'.mem = [m0, m1, m2, m3, m4, m5] ++ X ∧ ellF (stE0 L m0 m1 m2 m3 m4 m5 (wantP a b c x y)) = some (.ret (.bool (ellRes L a b c x y)), σ') := by
  cases a <;> cases b <;> cases c
  · exact ⟨[], _, rfl, ell_0 L m0 m1 m2 m3 m4 m5 x y hx hy⟩
  · obtain ⟨X, σ', h1, h2⟩ := ell_c L m0 m1 m2 m3 m4 m5 x y hl hxy (wantP false false true x y)
    exact ⟨X, σ', h1, (ellF_is _).trans ((seqs_app (ellPre_c L m0 m1 m2 m3 m4 m5 x y hx hy)).trans h2)⟩
  · obtain ⟨X, σ', h1, h2⟩ := ell_b L m0 m1 m2 m3 m4 m5 x y hl hxy (wantP false true false x y)
    exact ⟨X, σ', h1, (ellF_is _).trans ((seqs_app (ellPre_b L m0 m1 m2 m3 m4 m5 x y hx hy)).trans h2)⟩
  · obtain ⟨X, σ', h1, h2⟩ := ell_bc L m0 m1 m2 m3 m4 m5 x y hl hxy (wantP false true true x y)
    exact ⟨X, σ', h1, (ellF_is _).trans ((seqs_app (ellPre_bc L m0 m1 m2 m3 m4 m5 x y hx hy)).trans h2)⟩
  · obtain ⟨X, σ', h1, h2⟩ := ell_a L m0 m1 m2 m3 m4 m5 x y hl hxy (wantP true false false x y)
    exact ⟨X, σ', h1, (ellF_is _).trans ((seqs_app (ellPre_a L m0 m1 m2 m3 m4 m5 x y hx hy)).trans h2)⟩
  · obtain ⟨X, σ', h1, h2⟩ := ell_ac L m0 m1 m2 m3 m4 m5 x y hl hxy (wantP true false true x y)
    exact ⟨X, σ', h1, (ellF_is _).trans ((seqs_app (ellPre_ac L m0 m1 m2 m3 m4 m5 x y hx hy)).trans h2)⟩
  · obtain ⟨X, σ', h1, h2⟩ := ell_ab L m0 m1 m2 m3 m4 m5 x y hl hxy (wantP true true false x y)
    exact ⟨X, σ', h1, (ellF_is _).trans ((seqs_app (ellPre_ab L m0 m1 m2 m3 m4 m5 x y hx hy)).trans h2)⟩
  · obtain ⟨X, σ', h1, h2⟩ := ell_abc L m0 m1 m2 m3 m4 m5 x y hl hxy (wantP true true true x y)
    exact ⟨X, σ', h1, (ellF_is _).trans ((seqs_app (ellPre_abc L m0 m1 m2 m3 m4 m5 x y hx hy)).trans h2)⟩
theorem cEll_ok (a b c : Bool) (hx : LetC x) (hy : LetC y) (hxy : x ≠ y) (hl : L.length ≤ 4096) (vs : List (Option PV)) :
    ∃ X, cEll [.str (wantP a b c x y), .str L] ⟨vs, [m0, m1, m2, m3, m4, m5]⟩ = some (.bool (ellRes L a b c x y), ⟨vs, [m0, m1, m2, m3, m4, m5] ++ X⟩) := by
  obtain ⟨X, σ', h1, h2⟩ := ell_all L m0 m1 m2 m3 m4 m5 x y a b c hx hy hxy hl
  refine ⟨X, ?_⟩
  have := fcall_ret (d := dEll .none .none .none) (F := ellF) (vs := [.str (wantP a b c x y), .str L]) (σ := ⟨vs, [m0, m1, m2, m3, m4, m5]⟩) rfl h2
  rw [h1] at this
  exact this
end
end Mine
end
section
open PySem PySem.W PyProof.Rows PySem.Calls
open PySem.Builtin PySem.Builtin.Str
set_option maxHeartbeats 400000
namespace Mine
theorem anyEq_strs (z : List Nat) : ∀ ps : List (List Nat), anyEq (.str z) (ps.map .str) = some (ps.any (· == z))
  | [] => rfl
  | p :: r => by
    show (some (p == z)).bind (fun b => (anyEq (.str z) (r.map .str)).map (b || ·)) = _
    rw [anyEq_strs z r]; rfl
theorem ffinC_of {ds : List Nat} {n : Nat} {σ σ' : PS} (h : ((σ.mem.take n).all (belowO n)) = true) (hd : dropS ds (cutS n σ) = σ') : ffinC ds n σ = some σ' := by
  unfold ffinC
  rw [if_pos h, hd]
section
variable (typed line : List Nat) (a b c : Bool) (n0 n1 n2 n3 n4 n5 n6 n7 n8 n9 : Int)
noncomputable def stV (ps : List (List Nat)) (es : List (List Nat × PV)) (x y : Option PV) : PS := ⟨[none, some (.ref 2), none, x, some (.str typed), some (.str line), none, none, none, some (.str (dot a)), some (.str (dot b)), some (.str (dot c)), some (.ref 4), none, none, some (.ref 5), y] ++ List.replicate 23 none, [.tab 69, .tab 76, .list (pvi [n0, n1, n2, n3, n4, n5, n6, n7, n8, n9]), .list [.str (dot a), .str (dot b), .str (dot c)], .list (ps.map .str), .dict es]⟩
theorem law8 (ps : List (List Nat)) : lawF_8 (stS6 typed line (dot a) (dot b) (dot c) [n0, n1, n2, n3, n4, n5, n6, n7, n8, n9] ps) = some (.next, stV typed line a b c n0 n1 n2 n3 n4 n5 n6 n7 n8 n9 ps [] none none) := by kernel_rfl
noncomputable def stVX (ps : List (List Nat)) (es : List (List Nat × PV)) (x y : Option PV) (X : List PO) : PS := ⟨(stV typed line a b c n0 n1 n2 n3 n4 n5 n6 n7 n8 n9 ps es x y).vars, (stV typed line a b c n0 n1 n2 n3 n4 n5 n6 n7 n8 n9 ps es x y).mem ++ X⟩
theorem memV (ps : List (List Nat)) (es : List (List Nat × PV)) (hb : belowL 6 (es.map (·.2)) = true) (vs : List (Option PV)) (X : List PO) :
    ((((⟨vs, [.tab 69, .tab 76, .list (pvi [n0, n1, n2, n3, n4, n5, n6, n7, n8, n9]), .list [.str (dot a), .str (dot b), .str (dot c)], .list (ps.map .str), .dict es] ++ X⟩ : PS).mem.take 6).all (belowO 6)) = true) := by
  refine Eq.trans (b := (belowL 6 (ps.map .str) && (belowL 6 (es.map (·.2)) && true))) (by kernel_rfl) (by rw [belowL_strs, hb]; rfl)
theorem cutV9 (ps : List (List Nat)) (es : List (List Nat × PV)) (hb : belowL 6 (es.map (·.2)) = true) (x y : List Nat) (X : List PO) :
    ffinC [] 6 (stVX typed line a b c n0 n1 n2 n3 n4 n5 n6 n7 n8 n9 ps es (some (.str x)) (some (.str y)) X) = some (stV typed line a b c n0 n1 n2 n3 n4 n5 n6 n7 n8 n9 ps es (some (.str x)) (some (.str y))) := by
  exact ffinC_of (memV a b c n0 n1 n2 n3 n4 n5 n6 n7 n8 n9 ps es hb _ X) (by kernel_rfl)
theorem cutV16 (ps : List (List Nat)) (es : List (List Nat × PV)) (hb : belowL 6 (es.map (·.2)) = true) (x : List Nat) (y : Option PV) :
    ffinC [16] 6 (stV typed line a b c n0 n1 n2 n3 n4 n5 n6 n7 n8 n9 ps es (some (.str x)) y) = some (stV typed line a b c n0 n1 n2 n3 n4 n5 n6 n7 n8 n9 ps es (some (.str x)) none) := by
  exact ffinC_of (memV a b c n0 n1 n2 n3 n4 n5 n6 n7 n8 n9 ps es hb _ []) (by kernel_rfl)
theorem cutV0 (ps : List (List Nat)) (es : List (List Nat × PV)) (hb : belowL 6 (es.map (·.2)) = true) (x : List Nat) :
    ffinC [] 6 (stV typed line a b c n0 n1 n2 n3 n4 n5 n6 n7 n8 n9 ps es (some (.str x)) none) = some (stV typed line a b c n0 n1 n2 n3 n4 n5 n6 n7 n8 n9 ps es (some (.str x)) none) := by
  exact ffinC_of (memV a b c n0 n1 n2 n3 n4 n5 n6 n7 n8 n9 ps es hb _ []) (by kernel_rfl)
theorem put9 (ps : List (List Nat)) (es es' : List (List Nat × PV)) (x y : Nat) (hx : LetC x) (hy : LetC y) (hxy : x ≠ y) (hl : line.length ≤ 4096) (r : Bool) (hr : ellRes line a b c x y = r) (hd : dstore es [x, y] (.bool r) = es') (hn : es.length ≤ 4096) (hb : belowL 6 (es'.map (·.2)) = true) :
    lawF_9b_0b_0t_0 (stV typed line a b c n0 n1 n2 n3 n4 n5 n6 n7 n8 n9 ps es (some (.str [x])) (some (.str [y]))) = some (.next, stV typed line a b c n0 n1 n2 n3 n4 n5 n6 n7 n8 n9 ps es' (some (.str [x])) (some (.str [y]))) := by
  obtain ⟨X, h⟩ := cEll_ok line (.tab 69) (.tab 76) (.list (pvi [n0, n1, n2, n3, n4, n5, n6, n7, n8, n9])) (.list [.str (dot a), .str (dot b), .str (dot c)]) (.list (ps.map .str)) (.dict es) x y a b c hx hy hxy hl (stV typed line a b c n0 n1 n2 n3 n4 n5 n6 n7 n8 n9 ps es (some (.str [x])) (some (.str [y]))).vars
  rw [hr] at h
  refine ffin_next (σ₁ := (stVX typed line a b c n0 n1 n2 n3 n4 n5 n6 n7 n8 n9 ps es' (some (.str [x])) (some (.str [y])) X)) ?_ (cutV9 _ _ _ _ _ _ _ _ _ _ _ _ _ _ _ _ _ hb _ _ X)
  refine (fb_eq (a := PV.bool r) (σ := (stVX typed line a b c n0 n1 n2 n3 n4 n5 n6 n7 n8 n9 ps es (some (.str [x])) (some (.str [y])) X)) ?_).trans ?_
  · refine (fb_eq (a := [PV.str (wantP a b c x y), PV.str line]) (σ := stV typed line a b c n0 n1 n2 n3 n4 n5 n6 n7 n8 n9 ps es (some (.str [x])) (some (.str [y]))) ?_).trans h
    refine (fb_eq (a := PV.str (wantP a b c x y)) (σ := stV typed line a b c n0 n1 n2 n3 n4 n5 n6 n7 n8 n9 ps es (some (.str [x])) (some (.str [y]))) ?_).trans rfl
    cases a <;> cases b <;> cases c <;> kernel_rfl
  · refine (fb_eq (a := PV.ref 5) (σ := (stVX typed line a b c n0 n1 n2 n3 n4 n5 n6 n7 n8 n9 ps es (some (.str [x])) (some (.str [y])) X)) rfl).trans ?_
    refine (fb_eq (a := PV.str [x, y]) (σ := (stVX typed line a b c n0 n1 n2 n3 n4 n5 n6 n7 n8 n9 ps es (some (.str [x])) (some (.str [y])) X)) rfl).trans ?_
    have hs : fsi (.ref 5) (.str [x, y]) (.bool r) (stVX typed line a b c n0 n1 n2 n3 n4 n5 n6 n7 n8 n9 ps es (some (.str [x])) (some (.str [y])) X) = some (stVX typed line a b c n0 n1 n2 n3 n4 n5 n6 n7 n8 n9 ps es' (some (.str [x])) (some (.str [y])) X) := by
      rw [← hd]
      exact if_pos hn
    show (match fsi (.ref 5) (.str [x, y]) (.bool r) (stVX typed line a b c n0 n1 n2 n3 n4 n5 n6 n7 n8 n9 ps es (some (.str [x])) (some (.str [y])) X) with | some σ => some (Fl.next, σ) | none => none) = _
    rw [hs]
theorem chk9 (ps : List (List Nat)) (es : List (List Nat × PV)) (x y : Nat) (r : Bool) (hr : ps.any (· == [x, y]) = r) (hk : es.lookup [x, y] = some (.bool r)) (hb : belowL 6 (es.map (·.2)) = true) :
    lawF_9b_0b_0t_1 (stV typed line a b c n0 n1 n2 n3 n4 n5 n6 n7 n8 n9 ps es (some (.str [x])) (some (.str [y]))) = some (.next, stV typed line a b c n0 n1 n2 n3 n4 n5 n6 n7 n8 n9 ps es (some (.str [x])) (some (.str [y]))) := by
  refine ffin_next (σ₁ := stV typed line a b c n0 n1 n2 n3 n4 n5 n6 n7 n8 n9 ps es (some (.str [x])) (some (.str [y]))) ?_ (cutV9 _ _ _ _ _ _ _ _ _ _ _ _ _ _ _ _ _ hb _ _ [])
  refine (fb_eq (a := false) (σ := stV typed line a b c n0 n1 n2 n3 n4 n5 n6 n7 n8 n9 ps es (some (.str [x])) (some (.str [y]))) ?_).trans rfl
  refine (fb_eq (a := PV.bool r) (σ := stV typed line a b c n0 n1 n2 n3 n4 n5 n6 n7 n8 n9 ps es (some (.str [x])) (some (.str [y]))) ?_).trans ?_
  · refine (fb_eq (a := PV.ref 5) (σ := stV typed line a b c n0 n1 n2 n3 n4 n5 n6 n7 n8 n9 ps es (some (.str [x])) (some (.str [y]))) rfl).trans ?_
    refine (fb_eq (a := PV.str [x, y]) (σ := stV typed line a b c n0 n1 n2 n3 n4 n5 n6 n7 n8 n9 ps es (some (.str [x])) (some (.str [y]))) rfl).trans ?_
    show (es.lookup [x, y]).map (fun v => (v, _)) = _
    rw [hk]; rfl
  · refine (fb_eq (a := PV.bool r) (σ := stV typed line a b c n0 n1 n2 n3 n4 n5 n6 n7 n8 n9 ps es (some (.str [x])) (some (.str [y]))) ?_).trans ?_
    · refine (fb_eq (a := PV.str [x, y]) (σ := stV typed line a b c n0 n1 n2 n3 n4 n5 n6 n7 n8 n9 ps es (some (.str [x])) (some (.str [y]))) rfl).trans ?_
      refine (fb_eq (a := PV.ref 4) (σ := stV typed line a b c n0 n1 n2 n3 n4 n5 n6 n7 n8 n9 ps es (some (.str [x])) (some (.str [y]))) rfl).trans ?_
      show (anyEq (.str [x, y]) (ps.map .str)).map (fun r => (PV.bool r, _)) = _
      rw [anyEq_strs, hr]; rfl
    · cases r <;> rfl
theorem body9 (ps : List (List Nat)) (es es' : List (List Nat × PV)) (x y : Nat) (hx : LetC x) (hy : LetC y) (hxy : x ≠ y) (hl : line.length ≤ 4096) (r : Bool) (hr : ellRes line a b c x y = r) (hp : ps.any (· == [x, y]) = r) (hd : dstore es [x, y] (.bool r) = es') (hn : es.length ≤ 4096) (hb : belowL 6 (es'.map (·.2)) = true) (hk : es'.lookup [x, y] = some (.bool r)) :
    seqs [lawF_9b_0b_0] (stV typed line a b c n0 n1 n2 n3 n4 n5 n6 n7 n8 n9 ps es (some (.str [x])) (some (.str [y]))) = some (.next, stV typed line a b c n0 n1 n2 n3 n4 n5 n6 n7 n8 n9 ps es' (some (.str [x])) (some (.str [y]))) := by
  refine seqs_one (ffin_next (σ₁ := stV typed line a b c n0 n1 n2 n3 n4 n5 n6 n7 n8 n9 ps es' (some (.str [x])) (some (.str [y]))) ?_ (cutV9 _ _ _ _ _ _ _ _ _ _ _ _ _ _ _ _ _ hb _ _ []))
  refine (fb_eq (a := true) (σ := stV typed line a b c n0 n1 n2 n3 n4 n5 n6 n7 n8 n9 ps es (some (.str [x])) (some (.str [y]))) ?_).trans ?_
  · show some (!(([x] : List Nat) == [y]), _) = _
    have : (([x] : List Nat) == [y]) = false := by simpa using hxy
    rw [this]; rfl
  · refine (fseq_next (put9 typed line a b c n0 n1 n2 n3 n4 n5 n6 n7 n8 n9 ps es es' x y hx hy hxy hl r hr hd hn hb)).trans ?_
    exact (fseq_next (chk9 typed line a b c n0 n1 n2 n3 n4 n5 n6 n7 n8 n9 ps es' x y r hp hk hb)).trans rfl
theorem body9e (ps : List (List Nat)) (es : List (List Nat × PV)) (x : Nat) (hb : belowL 6 (es.map (·.2)) = true) :
    seqs [lawF_9b_0b_0] (stV typed line a b c n0 n1 n2 n3 n4 n5 n6 n7 n8 n9 ps es (some (.str [x])) (some (.str [x]))) = some (.next, stV typed line a b c n0 n1 n2 n3 n4 n5 n6 n7 n8 n9 ps es (some (.str [x])) (some (.str [x]))) := by
  refine seqs_one (ffin_next (σ₁ := stV typed line a b c n0 n1 n2 n3 n4 n5 n6 n7 n8 n9 ps es (some (.str [x])) (some (.str [x]))) ?_ (cutV9 _ _ _ _ _ _ _ _ _ _ _ _ _ _ _ _ _ hb _ _ []))
  refine (fb_eq (a := false) (σ := stV typed line a b c n0 n1 n2 n3 n4 n5 n6 n7 n8 n9 ps es (some (.str [x])) (some (.str [x]))) ?_).trans rfl
  show some (!(([x] : List Nat) == [x]), _) = _
  rw [show (([x] : List Nat) == [x]) = true from beq_self_eq_true _]; rfl
noncomputable def bsOf : Bs := ⟨ellRes line a b c 97 98, ellRes line a b c 97 107, ellRes line a b c 97 109, ellRes line a b c 98 97, ellRes line a b c 98 107, ellRes line a b c 98 109, ellRes line a b c 107 97, ellRes line a b c 107 98, ellRes line a b c 107 109, ellRes line a b c 109 97, ellRes line a b c 109 98, ellRes line a b c 109 107⟩
theorem any_pairs (x y : Nat) (hxy : x ≠ y) : (pairsP line a b c).any (· == [x, y]) = ellRes line a b c x y := by
  rw [Bool.eq_iff_iff, ellRes_iff line a b c x y hxy, List.any_eq_true]
  unfold stepP
  rw [← mem_pairs]
  constructor
  · rintro ⟨z, h1, h2⟩
    rw [← eq_of_beq h2]; exact h1
  · intro h
    exact ⟨_, h, beq_self_eq_true _⟩
theorem in9_0 (hl : line.length ≤ 4096) : fforC [] 6 (nxOf (.str [97, 98, 107, 109])) (fun v σ => some (fset 16 v σ)) (seqs [lawF_9b_0b_0]) 200 0 (stV typed line a b c n0 n1 n2 n3 n4 n5 n6 n7 n8 n9 (pairsP line a b c) ((bsOf line a b c).es.take 0) (some (.str [97])) none) = some (.next, stV typed line a b c n0 n1 n2 n3 n4 n5 n6 n7 n8 n9 (pairsP line a b c) ((bsOf line a b c).es.take 3) (some (.str [97])) (some (.str [109]))) := by
  refine (fforC_step (n := 199) (v := .str [97]) (σ₁ := stV typed line a b c n0 n1 n2 n3 n4 n5 n6 n7 n8 n9 (pairsP line a b c) ((bsOf line a b c).es.take 0) (some (.str [97])) (some (.str [97]))) (σ₂ := stV typed line a b c n0 n1 n2 n3 n4 n5 n6 n7 n8 n9 (pairsP line a b c) ((bsOf line a b c).es.take 0) (some (.str [97])) (some (.str [97]))) (by kernel_rfl) rfl (body9e typed line a b c n0 n1 n2 n3 n4 n5 n6 n7 n8 n9 _ _ 97 (by kernel_rfl)) (cutV9 _ _ _ _ _ _ _ _ _ _ _ _ _ _ _ _ _ (by kernel_rfl) _ _ [])).trans ?_
  refine (fforC_step (n := 198) (v := .str [98]) (σ₁ := stV typed line a b c n0 n1 n2 n3 n4 n5 n6 n7 n8 n9 (pairsP line a b c) ((bsOf line a b c).es.take 0) (some (.str [97])) (some (.str [98]))) (σ₂ := stV typed line a b c n0 n1 n2 n3 n4 n5 n6 n7 n8 n9 (pairsP line a b c) ((bsOf line a b c).es.take 1) (some (.str [97])) (some (.str [98]))) (by kernel_rfl) rfl (body9 typed line a b c n0 n1 n2 n3 n4 n5 n6 n7 n8 n9 _ _ _ 97 98 (by unfold LetC; decide) (by unfold LetC; decide) (by decide) hl _ rfl (any_pairs line a b c 97 98 (by decide)) (by kernel_rfl) (Nat.le_of_ble_eq_true (by kernel_rfl)) (by kernel_rfl) (by kernel_rfl)) (cutV9 _ _ _ _ _ _ _ _ _ _ _ _ _ _ _ _ _ (by kernel_rfl) _ _ [])).trans ?_
  refine (fforC_step (n := 197) (v := .str [107]) (σ₁ := stV typed line a b c n0 n1 n2 n3 n4 n5 n6 n7 n8 n9 (pairsP line a b c) ((bsOf line a b c).es.take 1) (some (.str [97])) (some (.str [107]))) (σ₂ := stV typed line a b c n0 n1 n2 n3 n4 n5 n6 n7 n8 n9 (pairsP line a b c) ((bsOf line a b c).es.take 2) (some (.str [97])) (some (.str [107]))) (by kernel_rfl) rfl (body9 typed line a b c n0 n1 n2 n3 n4 n5 n6 n7 n8 n9 _ _ _ 97 107 (by unfold LetC; decide) (by unfold LetC; decide) (by decide) hl _ rfl (any_pairs line a b c 97 107 (by decide)) (by kernel_rfl) (Nat.le_of_ble_eq_true (by kernel_rfl)) (by kernel_rfl) (by kernel_rfl)) (cutV9 _ _ _ _ _ _ _ _ _ _ _ _ _ _ _ _ _ (by kernel_rfl) _ _ [])).trans ?_
  refine (fforC_step (n := 196) (v := .str [109]) (σ₁ := stV typed line a b c n0 n1 n2 n3 n4 n5 n6 n7 n8 n9 (pairsP line a b c) ((bsOf line a b c).es.take 2) (some (.str [97])) (some (.str [109]))) (σ₂ := stV typed line a b c n0 n1 n2 n3 n4 n5 n6 n7 n8 n9 (pairsP line a b c) ((bsOf line a b c).es.take 3) (some (.str [97])) (some (.str [109]))) (by kernel_rfl) rfl (body9 typed line a b c n0 n1 n2 n3 n4 n5 n6 n7 n8 n9 _ _ _ 97 109 (by unfold LetC; decide) (by unfold LetC; decide) (by decide) hl _ rfl (any_pairs line a b c 97 109 (by decide)) (by kernel_rfl) (Nat.le_of_ble_eq_true (by kernel_rfl)) (by kernel_rfl) (by kernel_rfl)) (cutV9 _ _ _ _ _ _ _ _ _ _ _ _ _ _ _ _ _ (by kernel_rfl) _ _ [])).trans ?_
  exact fforC_done (n := 195) (by kernel_rfl)
theorem bo9_0 (hl : line.length ≤ 4096) : seqs [lawF_9b_0] (stV typed line a b c n0 n1 n2 n3 n4 n5 n6 n7 n8 n9 (pairsP line a b c) ((bsOf line a b c).es.take 0) (some (.str [97])) none) = some (.next, stV typed line a b c n0 n1 n2 n3 n4 n5 n6 n7 n8 n9 (pairsP line a b c) ((bsOf line a b c).es.take 3) (some (.str [97])) none) := by
  refine seqs_one (ffin_next (σ₁ := stV typed line a b c n0 n1 n2 n3 n4 n5 n6 n7 n8 n9 (pairsP line a b c) ((bsOf line a b c).es.take 3) (some (.str [97])) (some (.str [109]))) ?_ (cutV16 _ _ _ _ _ _ _ _ _ _ _ _ _ _ _ _ _ (by kernel_rfl) _ _))
  refine (fb_eq (a := PV.str [97, 98, 107, 109]) (σ := stV typed line a b c n0 n1 n2 n3 n4 n5 n6 n7 n8 n9 (pairsP line a b c) ((bsOf line a b c).es.take 0) (some (.str [97])) none) rfl).trans ((if_pos (by kernel_rfl)).trans (in9_0 typed line a b c n0 n1 n2 n3 n4 n5 n6 n7 n8 n9 hl))
theorem in9_1 (hl : line.length ≤ 4096) : fforC [] 6 (nxOf (.str [97, 98, 107, 109])) (fun v σ => some (fset 16 v σ)) (seqs [lawF_9b_0b_0]) 200 0 (stV typed line a b c n0 n1 n2 n3 n4 n5 n6 n7 n8 n9 (pairsP line a b c) ((bsOf line a b c).es.take 3) (some (.str [98])) none) = some (.next, stV typed line a b c n0 n1 n2 n3 n4 n5 n6 n7 n8 n9 (pairsP line a b c) ((bsOf line a b c).es.take 6) (some (.str [98])) (some (.str [109]))) := by
  refine (fforC_step (n := 199) (v := .str [97]) (σ₁ := stV typed line a b c n0 n1 n2 n3 n4 n5 n6 n7 n8 n9 (pairsP line a b c) ((bsOf line a b c).es.take 3) (some (.str [98])) (some (.str [97]))) (σ₂ := stV typed line a b c n0 n1 n2 n3 n4 n5 n6 n7 n8 n9 (pairsP line a b c) ((bsOf line a b c).es.take 4) (some (.str [98])) (some (.str [97]))) (by kernel_rfl) rfl (body9 typed line a b c n0 n1 n2 n3 n4 n5 n6 n7 n8 n9 _ _ _ 98 97 (by unfold LetC; decide) (by unfold LetC; decide) (by decide) hl _ rfl (any_pairs line a b c 98 97 (by decide)) (by kernel_rfl) (Nat.le_of_ble_eq_true (by kernel_rfl)) (by kernel_rfl) (by kernel_rfl)) (cutV9 _ _ _ _ _ _ _ _ _ _ _ _ _ _ _ _ _ (by kernel_rfl) _ _ [])).trans ?_
  refine (fforC_step (n := 198) (v := .str [98]) (σ₁ := stV typed line a b c n0 n1 n2 n3 n4 n5 n6 n7 n8 n9 (pairsP line a b c) ((bsOf line a b c).es.take 4) (some (.str [98])) (some (.str [98]))) (σ₂ := stV typed line a b c n0 n1 n2 n3 n4 n5 n6 n7 n8 n9 (pairsP line a b c) ((bsOf line a b c).es.take 4) (some (.str [98])) (some (.str [98]))) (by kernel_rfl) rfl (body9e typed line a b c n0 n1 n2 n3 n4 n5 n6 n7 n8 n9 _ _ 98 (by kernel_rfl)) (cutV9 _ _ _ _ _ _ _ _ _ _ _ _ _ _ _ _ _ (by kernel_rfl) _ _ [])).trans ?_
  refine (fforC_step (n := 197) (v := .str [107]) (σ₁ := stV typed line a b c n0 n1 n2 n3 n4 n5 n6 n7 n8 n9 (pairsP line a b c) ((bsOf line a b c).es.take 4) (some (.str [98])) (some (.str [107]))) (σ₂ := stV typed line a b c n0 n1 n2 n3 n4 n5 n6 n7 n8 n9 (pairsP line a b c) ((bsOf line a b c).es.take 5) (some (.str [98])) (some (.str [107]))) (by kernel_rfl) rfl (body9 typed line a b c n0 n1 n2 n3 n4 n5 n6 n7 n8 n9 _ _ _ 98 107 (by unfold LetC; decide) (by unfold LetC; decide) (by decide) hl _ rfl (any_pairs line a b c 98 107 (by decide)) (by kernel_rfl) (Nat.le_of_ble_eq_true (by kernel_rfl)) (by kernel_rfl) (by kernel_rfl)) (cutV9 _ _ _ _ _ _ _ _ _ _ _ _ _ _ _ _ _ (by kernel_rfl) _ _ [])).trans ?_
  refine (fforC_step (n := 196) (v := .str [109]) (σ₁ := stV typed line a b c n0 n1 n2 n3 n4 n5 n6 n7 n8 n9 (pairsP line a b c) ((bsOf line a b c).es.take 5) (some (.str [98])) (some (.str [109]))) (σ₂ := stV typed line a b c n0 n1 n2 n3 n4 n5 n6 n7 n8 n9 (pairsP line a b c) ((bsOf line a b c).es.take 6) (some (.str [98])) (some (.str [109]))) (by kernel_rfl) rfl (body9 typed line a b c n0 n1 n2 n3 n4 n5 n6 n7 n8 n9 _ _ _ 98 109 (by unfold LetC; decide) (by unfold LetC; decide) (by decide) hl _ rfl (any_pairs line a b c 98 109 (by decide)) (by kernel_rfl) (Nat.le_of_ble_eq_true (by kernel_rfl)) (by kernel_rfl) (by kernel_rfl)) (cutV9 _ _ _ _ _ _ _ _ _ _ _ _ _ _ _ _ _ (by kernel_rfl) _ _ [])).trans ?_
  exact fforC_done (n := 195) (by kernel_rfl)
theorem bo9_1 (hl : line.length ≤ 4096) : seqs [lawF_9b_0] (stV typed line a b c n0 n1 n2 n3 n4 n5 n6 n7 n8 n9 (pairsP line a b c) ((bsOf line a b c).es.take 3) (some (.str [98])) none) = some (.next, stV typed line a b c n0 n1 n2 n3 n4 n5 n6 n7 n8 n9 (pairsP line a b c) ((bsOf line a b c).es.take 6) (some (.str [98])) none) := by
  refine seqs_one (ffin_next (σ₁ := stV typed line a b c n0 n1 n2 n3 n4 n5 n6 n7 n8 n9 (pairsP line a b c) ((bsOf line a b c).es.take 6) (some (.str [98])) (some (.str [109]))) ?_ (cutV16 _ _ _ _ _ _ _ _ _ _ _ _ _ _ _ _ _ (by kernel_rfl) _ _))
  refine (fb_eq (a := PV.str [97, 98, 107, 109]) (σ := stV typed line a b c n0 n1 n2 n3 n4 n5 n6 n7 n8 n9 (pairsP line a b c) ((bsOf line a b c).es.take 3) (some (.str [98])) none) rfl).trans ((if_pos (by kernel_rfl)).trans (in9_1 typed line a b c n0 n1 n2 n3 n4 n5 n6 n7 n8 n9 hl))
theorem in9_2 (hl : line.length ≤ 4096) : fforC [] 6 (nxOf (.str [97, 98, 107, 109])) (fun v σ => some (fset 16 v σ)) (seqs [lawF_9b_0b_0]) 200 0 (stV typed line a b c n0 n1 n2 n3 n4 n5 n6 n7 n8 n9 (pairsP line a b c) ((bsOf line a b c).es.take 6) (some (.str [107])) none) = some (.next, stV typed line a b c n0 n1 n2 n3 n4 n5 n6 n7 n8 n9 (pairsP line a b c) ((bsOf line a b c).es.take 9) (some (.str [107])) (some (.str [109]))) := by
  refine (fforC_step (n := 199) (v := .str [97]) (σ₁ := stV typed line a b c n0 n1 n2 n3 n4 n5 n6 n7 n8 n9 (pairsP line a b c) ((bsOf line a b c).es.take 6) (some (.str [107])) (some (.str [97]))) (σ₂ := stV typed line a b c n0 n1 n2 n3 n4 n5 n6 n7 n8 n9 (pairsP line a b c) ((bsOf line a b c).es.take 7) (some (.str [107])) (some (.str [97]))) (by kernel_rfl) rfl (body9 typed line a b c n0 n1 n2 n3 n4 n5 n6 n7 n8 n9 _ _ _ 107 97 (by unfold LetC; decide) (by unfold LetC; decide) (by decide) hl _ rfl (any_pairs line a b c 107 97 (by decide)) (by kernel_rfl) (Nat.le_of_ble_eq_true (by kernel_rfl)) (by kernel_rfl) (by kernel_rfl)) (cutV9 _ _ _ _ _ _ _ _ _ _ _ _ _ _ _ _ _ (by kernel_rfl) _ _ [])).trans ?_
  refine (fforC_step (n := 198) (v := .str [98]) (σ₁ := stV typed line a b c n0 n1 n2 n3 n4 n5 n6 n7 n8 n9 (pairsP line a b c) ((bsOf line a b c).es.take 7) (some (.str [107])) (some (.str [98]))) (σ₂ := stV typed line a b c n0 n1 n2 n3 n4 n5 n6 n7 n8 n9 (pairsP line a b c) ((bsOf line a b c).es.take 8) (some (.str [107])) (some (.str [98]))) (by kernel_rfl) rfl (body9 typed line a b c n0 n1 n2 n3 n4 n5 n6 n7 n8 n9 _ _ _ 107 98 (by unfold LetC; decide) (by unfold LetC; decide) (by decide) hl _ rfl (any_pairs line a b c 107 98 (by decide)) (by kernel_rfl) (Nat.le_of_ble_eq_true (by kernel_rfl)) (by kernel_rfl) (by kernel_rfl)) (cutV9 _ _ _ _ _ _ _ _ _ _ _ _ _ _ _ _ _ (by kernel_rfl) _ _ [])).trans ?_
  refine (fforC_step (n := 197) (v := .str [107]) (σ₁ := stV typed line a b c n0 n1 n2 n3 n4 n5 n6 n7 n8 n9 (pairsP line a b c) ((bsOf line a b c).es.take 8) (some (.str [107])) (some (.str [107]))) (σ₂ := stV typed line a b c n0 n1 n2 n3 n4 n5 n6 n7 n8 n9 (pairsP line a b c) ((bsOf line a b c).es.take 8) (some (.str [107])) (some (.str [107]))) (by kernel_rfl) rfl (body9e typed line a b c n0 n1 n2 n3 n4 n5 n6 n7 n8 n9 _ _ 107 (by kernel_rfl)) (cutV9 _ _ _ _ _ _ _ _ _ _ _ _ _ _ _ _ _ (by kernel_rfl) _ _ [])).trans ?_
  refine (fforC_step (n := 196) (v := .str [109]) (σ₁ := stV typed line a b c n0 n1 n2 n3 n4 n5 n6 n7 n8 n9 (pairsP line a b c) ((bsOf line a b c).es.take 8) (some (.str [107])) (some (.str [109]))) (σ₂ := stV typed line a b c n0 n1 n2 n3 n4 n5 n6 n7 n8 n9 (pairsP line a b c) ((bsOf line a b c).es.take 9) (some (.str [107])) (some (.str [109]))) (by kernel_rfl) rfl (body9 typed line a b c n0 n1 n2 n3 n4 n5 n6 n7 n8 n9 _ _ _ 107 109 (by unfold LetC; decide) (by unfold LetC; decide) (by decide) hl _ rfl (any_pairs line a b c 107 109 (by decide)) (by kernel_rfl) (Nat.le_of_ble_eq_true (by kernel_rfl)) (by kernel_rfl) (by kernel_rfl)) (cutV9 _ _ _ _ _ _ _ _ _ _ _ _ _ _ _ _ _ (by kernel_rfl) _ _ [])).trans ?_
  exact fforC_done (n := 195) (by kernel_rfl)
theorem bo9_2 (hl : line.length ≤ 4096) : seqs [lawF_9b_0] (stV typed line a b c n0 n1 n2 n3 n4 n5 n6 n7 n8 n9 (pairsP line a b c) ((bsOf line a b c).es.take 6) (some (.str [107])) none) = some (.next, stV typed line a b c n0 n1 n2 n3 n4 n5 n6 n7 n8 n9 (pairsP line a b c) ((bsOf line a b c).es.take 9) (some (.str [107])) none) := by
  refine seqs_one (ffin_next (σ₁ := stV typed line a b c n0 n1 n2 n3 n4 n5 n6 n7 n8 n9 (pairsP line a b c) ((bsOf line a b c).es.take 9) (some (.str [107])) (some (.str [109]))) ?_ (cutV16 _ _ _ _ _ _ _ _ _ _ _ _ _ _ _ _ _ (by kernel_rfl) _ _))
  refine (fb_eq (a := PV.str [97, 98, 107, 109]) (σ := stV typed line a b c n0 n1 n2 n3 n4 n5 n6 n7 n8 n9 (pairsP line a b c) ((bsOf line a b c).es.take 6) (some (.str [107])) none) rfl).trans ((if_pos (by kernel_rfl)).trans (in9_2 typed line a b c n0 n1 n2 n3 n4 n5 n6 n7 n8 n9 hl))
theorem in9_3 (hl : line.length ≤ 4096) : fforC [] 6 (nxOf (.str [97, 98, 107, 109])) (fun v σ => some (fset 16 v σ)) (seqs [lawF_9b_0b_0]) 200 0 (stV typed line a b c n0 n1 n2 n3 n4 n5 n6 n7 n8 n9 (pairsP line a b c) ((bsOf line a b c).es.take 9) (some (.str [109])) none) = some (.next, stV typed line a b c n0 n1 n2 n3 n4 n5 n6 n7 n8 n9 (pairsP line a b c) ((bsOf line a b c).es.take 12) (some (.str [109])) (some (.str [109]))) := by
  refine (fforC_step (n := 199) (v := .str [97]) (σ₁ := stV typed line a b c n0 n1 n2 n3 n4 n5 n6 n7 n8 n9 (pairsP line a b c) ((bsOf line a b c).es.take 9) (some (.str [109])) (some (.str [97]))) (σ₂ := stV typed line a b c n0 n1 n2 n3 n4 n5 n6 n7 n8 n9 (pairsP line a b c) ((bsOf line a b c).es.take 10) (some (.str [109])) (some (.str [97]))) (by kernel_rfl) rfl (body9 typed line a b c n0 n1 n2 n3 n4 n5 n6 n7 n8 n9 _ _ _ 109 97 (by unfold LetC; decide) (by unfold LetC; decide) (by decide) hl _ rfl (any_pairs line a b c 109 97 (by decide)) (by kernel_rfl) (Nat.le_of_ble_eq_true (by kernel_rfl)) (by kernel_rfl) (by kernel_rfl)) (cutV9 _ _ _ _ _ _ _ _ _ _ _ _ _ _ _ _ _ (by kernel_rfl) _ _ [])).trans ?_
  refine (fforC_step (n := 198) (v := .str [98]) (σ₁ := stV typed line a b c n0 n1 n2 n3 n4 n5 n6 n7 n8 n9 (pairsP line a b c) ((bsOf line a b c).es.take 10) (some (.str [109])) (some (.str [98]))) (σ₂ := stV typed line a b c n0 n1 n2 n3 n4 n5 n6 n7 n8 n9 (pairsP line a b c) ((bsOf line a b c).es.take 11) (some (.str [109])) (some (.str [98]))) (by kernel_rfl) rfl (body9 typed line a b c n0 n1 n2 n3 n4 n5 n6 n7 n8 n9 _ _ _ 109 98 (by unfold LetC; decide) (by unfold LetC; decide) (by decide) hl _ rfl (any_pairs line a b c 109 98 (by decide)) (by kernel_rfl) (Nat.le_of_ble_eq_true (by kernel_rfl)) (by kernel_rfl) (by kernel_rfl)) (cutV9 _ _ _ _ _ _ _ _ _ _ _ _ _ _ _ _ _ (by kernel_rfl) _ _ [])).trans ?_
  refine (fforC_step (n := 197) (v := .str [107]) (σ₁ := stV typed line a b c n0 n1 n2 n3 n4 n5 n6 n7 n8 n9 (pairsP line a b c) ((bsOf line a b c).es.take 11) (some (.str [109])) (some (.str [107]))) (σ₂ := stV typed line a b c n0 n1 n2 n3 n4 n5 n6 n7 n8 n9 (pairsP line a b c) ((bsOf line a b c).es.take 12) (some (.str [109])) (some (.str [107]))) (by kernel_rfl) rfl (body9 typed line a b c n0 n1 n2 n3 n4 n5 n6 n7 n8 n9 _ _ _ 109 107 (by unfold LetC; decide) (by unfold LetC; decide) (by decide) hl _ rfl (any_pairs line a b c 109 107 (by decide)) (by kernel_rfl) (Nat.le_of_ble_eq_true (by kernel_rfl)) (by kernel_rfl) (by kernel_rfl)) (cutV9 _ _ _ _ _ _ _ _ _ _ _ _ _ _ _ _ _ (by kernel_rfl) _ _ [])).trans ?_
  refine (fforC_step (n := 196) (v := .str [109]) (σ₁ := stV typed line a b c n0 n1 n2 n3 n4 n5 n6 n7 n8 n9 (pairsP line a b c) ((bsOf line a b c).es.take 12) (some (.str [109])) (some (.str [109]))) (σ₂ := stV typed line a b c n0 n1 n2 n3 n4 n5 n6 n7 n8 n9 (pairsP line a b c) ((bsOf line a b c).es.take 12) (some (.str [109])) (some (.str [109]))) (by kernel_rfl) rfl (body9e typed line a b c n0 n1 n2 n3 n4 n5 n6 n7 n8 n9 _ _ 109 (by kernel_rfl)) (cutV9 _ _ _ _ _ _ _ _ _ _ _ _ _ _ _ _ _ (by kernel_rfl) _ _ [])).trans ?_
  exact fforC_done (n := 195) (by kernel_rfl)
theorem bo9_3 (hl : line.length ≤ 4096) : seqs [lawF_9b_0] (stV typed line a b c n0 n1 n2 n3 n4 n5 n6 n7 n8 n9 (pairsP line a b c) ((bsOf line a b c).es.take 9) (some (.str [109])) none) = some (.next, stV typed line a b c n0 n1 n2 n3 n4 n5 n6 n7 n8 n9 (pairsP line a b c) ((bsOf line a b c).es.take 12) (some (.str [109])) none) := by
  refine seqs_one (ffin_next (σ₁ := stV typed line a b c n0 n1 n2 n3 n4 n5 n6 n7 n8 n9 (pairsP line a b c) ((bsOf line a b c).es.take 12) (some (.str [109])) (some (.str [109]))) ?_ (cutV16 _ _ _ _ _ _ _ _ _ _ _ _ _ _ _ _ _ (by kernel_rfl) _ _))
  refine (fb_eq (a := PV.str [97, 98, 107, 109]) (σ := stV typed line a b c n0 n1 n2 n3 n4 n5 n6 n7 n8 n9 (pairsP line a b c) ((bsOf line a b c).es.take 9) (some (.str [109])) none) rfl).trans ((if_pos (by kernel_rfl)).trans (in9_3 typed line a b c n0 n1 n2 n3 n4 n5 n6 n7 n8 n9 hl))
theorem law9 (hl : line.length ≤ 4096) : lawF_9 (stV typed line a b c n0 n1 n2 n3 n4 n5 n6 n7 n8 n9 (pairsP line a b c) ((bsOf line a b c).es.take 0) none none) = some (.next, stP typed line (dot a) (dot b) (dot c) (bsOf line a b c) [n0, n1, n2, n3, n4, n5, n6, n7, n8, n9]) := by
  refine ffin_next (σ₁ := stV typed line a b c n0 n1 n2 n3 n4 n5 n6 n7 n8 n9 (pairsP line a b c) ((bsOf line a b c).es.take 12) (some (.str [109])) none) ?_ ?_
  · refine (fb_eq (a := PV.str [97, 98, 107, 109]) (σ := stV typed line a b c n0 n1 n2 n3 n4 n5 n6 n7 n8 n9 (pairsP line a b c) ((bsOf line a b c).es.take 0) none none) rfl).trans ((if_pos (by kernel_rfl)).trans ?_)
    refine (fforC_step (n := 199) (v := .str [97]) (σ₁ := stV typed line a b c n0 n1 n2 n3 n4 n5 n6 n7 n8 n9 (pairsP line a b c) ((bsOf line a b c).es.take 0) (some (.str [97])) none) (σ₂ := stV typed line a b c n0 n1 n2 n3 n4 n5 n6 n7 n8 n9 (pairsP line a b c) ((bsOf line a b c).es.take 3) (some (.str [97])) none) (by kernel_rfl) rfl (bo9_0 typed line a b c n0 n1 n2 n3 n4 n5 n6 n7 n8 n9 hl) (cutV0 _ _ _ _ _ _ _ _ _ _ _ _ _ _ _ _ _ (by kernel_rfl) _)).trans ?_
    refine (fforC_step (n := 198) (v := .str [98]) (σ₁ := stV typed line a b c n0 n1 n2 n3 n4 n5 n6 n7 n8 n9 (pairsP line a b c) ((bsOf line a b c).es.take 3) (some (.str [98])) none) (σ₂ := stV typed line a b c n0 n1 n2 n3 n4 n5 n6 n7 n8 n9 (pairsP line a b c) ((bsOf line a b c).es.take 6) (some (.str [98])) none) (by kernel_rfl) rfl (bo9_1 typed line a b c n0 n1 n2 n3 n4 n5 n6 n7 n8 n9 hl) (cutV0 _ _ _ _ _ _ _ _ _ _ _ _ _ _ _ _ _ (by kernel_rfl) _)).trans ?_
    refine (fforC_step (n := 197) (v := .str [107]) (σ₁ := stV typed line a b c n0 n1 n2 n3 n4 n5 n6 n7 n8 n9 (pairsP line a b c) ((bsOf line a b c).es.take 6) (some (.str [107])) none) (σ₂ := stV typed line a b c n0 n1 n2 n3 n4 n5 n6 n7 n8 n9 (pairsP line a b c) ((bsOf line a b c).es.take 9) (some (.str [107])) none) (by kernel_rfl) rfl (bo9_2 typed line a b c n0 n1 n2 n3 n4 n5 n6 n7 n8 n9 hl) (cutV0 _ _ _ _ _ _ _ _ _ _ _ _ _ _ _ _ _ (by kernel_rfl) _)).trans ?_
    refine (fforC_step (n := 196) (v := .str [109]) (σ₁ := stV typed line a b c n0 n1 n2 n3 n4 n5 n6 n7 n8 n9 (pairsP line a b c) ((bsOf line a b c).es.take 9) (some (.str [109])) none) (σ₂ := stV typed line a b c n0 n1 n2 n3 n4 n5 n6 n7 n8 n9 (pairsP line a b c) ((bsOf line a b c).es.take 12) (some (.str [109])) none) (by kernel_rfl) rfl (bo9_3 typed line a b c n0 n1 n2 n3 n4 n5 n6 n7 n8 n9 hl) (cutV0 _ _ _ _ _ _ _ _ _ _ _ _ _ _ _ _ _ (by kernel_rfl) _)).trans ?_
    exact fforC_done (n := 195) (by kernel_rfl)
  · exact ffinC_of (memV a b c n0 n1 n2 n3 n4 n5 n6 n7 n8 n9 (pairsP line a b c) ((bsOf line a b c).es.take 12) (by kernel_rfl) _ []) (by kernel_rfl)
end
end Mine
end
section
open PySem PySem.W PyProof.Rows PySem.Calls
set_option maxHeartbeats 400000
namespace Mine
theorem lawF_is (σ : PS) : lawF σ = seqs [lawF_0, lawF_1, lawF_2, lawF_3, lawF_4, lawF_5, lawF_6, lawF_7, lawF_8, lawF_9, lawF_10, lawF_11, lawF_12, lawF_13, lawF_14, lawF_15, lawF_16] σ := rfl
theorem two_bi (n : Int) (k : Int) : ∃ b, (n.fdiv k).fmod 2 = bi b := by
  have h0 := Int.fmod_nonneg_of_pos (n.fdiv k) (show (0 : Int) < 2 by decide)
  have h1 := Int.fmod_lt_of_pos (n.fdiv k) (show (0 : Int) < 2 by decide)
  rcases (show (n.fdiv k).fmod 2 = 0 ∨ (n.fdiv k).fmod 2 = 1 by omega) with h | h
  · exact ⟨false, h⟩
  · exact ⟨true, h⟩
theorem three_of (n : Int) (k : Int) : (n.fdiv k).fmod 3 = 0 ∨ (n.fdiv k).fmod 3 = 1 ∨ (n.fdiv k).fmod 3 = 2 := by
  have h0 := Int.fmod_nonneg_of_pos (n.fdiv k) (show (0 : Int) < 3 by decide)
  have h1 := Int.fmod_lt_of_pos (n.fdiv k) (show (0 : Int) < 3 by decide)
  omega
theorem law16 (σ : PS) : lawF_16 σ = some (.ret (.bool true), σ) := rfl
theorem pure1 : PureL lawF := by
  intro xs hlen
  obtain ⟨ns, hn, h1⟩ := law1 xs hlen
  obtain ⟨n0, n1, n2, n3, n4, n5, n6, n7, n8, n9, rfl⟩ := len10 hn
  obtain ⟨ps, h9, hps, h3⟩ := law3 n0 n1 n2 n3 n4 n5 n6 n7 n8 n9
  have hll := line_len ps hps
  obtain ⟨a, ha⟩ := two_bi n9 1
  obtain ⟨b, hb⟩ := two_bi n9 2
  obtain ⟨c, hc⟩ := two_bi n9 4
  obtain ⟨f, hf⟩ : ∃ f, (n9.fdiv 8).fmod 3 = f := ⟨_, rfl⟩
  have hf3 : f = 0 ∨ f = 1 ∨ f = 2 := hf ▸ three_of n9 8
  obtain ⟨k, hk, hk3⟩ : ∃ k : Nat, (n9.fdiv 24).fmod 3 = k ∧ (k = 0 ∨ k = 1 ∨ k = 2) := by
    rcases three_of n9 24 with h | h | h
    · exact ⟨0, h, by omega⟩
    · exact ⟨1, h, by omega⟩
    · exact ⟨2, h, by omega⟩
  have h15 := fun o0 o1 o2 o3 w0 w1 w2 w3 w4 h => law15 (txtOf ps) (lineOf ps) (dot a) (dot b) (dot c) (blk k) (prev (blk k) 24) f (bsOf (lineOf ps) a b c) o0 o1 o2 o3 w0 w1 w2 w3 w4 h
  obtain ⟨o0, o1, o2, o3, eo⟩ := len4 (oAt_len (bsOf (lineOf ps) a b c) 24)
  obtain ⟨w0, w1, w2, w3, w4, ew⟩ := len5 (wAt_len (bsOf (lineOf ps) a b c) 24)
  have hs := law_sums (bsOf (lineOf ps) a b c)
  have h14 := law14 (txtOf ps) (lineOf ps) a (dot b) c f hf3 k hk3 (bsOf (lineOf ps) a b c)
  rw [eo, ew] at hs h14
  refine ⟨stQ (envT (txtOf ps) (lineOf ps) a (dot b) c f k 24) (bsOf (lineOf ps) a b c) 24 [o0, o1, o2, o3] [w0, w1, w2, w3, w4], ?_, rfl, rfl⟩
  rw [lawF_is]
  refine (fseq_next (law0 xs)).trans ?_
  refine (fseq_next h1).trans ?_
  refine (fseq_next (law2 _)).trans ?_
  refine (fseq_next h3).trans ?_
  refine (fseq_next (law4 ps hps h9 n0 n1 n2 n3 n4 n5 n6 n7 n8 n9)).trans ?_
  refine (fseq_next (law5 (txtOf ps) (lineOf ps) n0 n1 n2 n3 n4 n5 n6 n7 n8 n9 a b c ha hb hc)).trans ?_
  refine (fseq_next (law6 (txtOf ps) (lineOf ps) (dot a) (dot b) (dot c) n0 n1 n2 n3 n4 n5 n6 n7 n8 n9)).trans ?_
  refine (fseq_next (law7 (txtOf ps) (lineOf ps) a b c n0 n1 n2 n3 n4 n5 n6 n7 n8 n9 (by omega))).trans ?_
  refine (fseq_next (law8 (txtOf ps) (lineOf ps) a b c n0 n1 n2 n3 n4 n5 n6 n7 n8 n9 _)).trans ?_
  refine (fseq_next (law9 (txtOf ps) (lineOf ps) a b c n0 n1 n2 n3 n4 n5 n6 n7 n8 n9 (by omega))).trans ?_
  refine (fseq_next (law10 (txtOf ps) (lineOf ps) (dot a) (dot b) (dot c) (bsOf (lineOf ps) a b c) n0 n1 n2 n3 n4 n5 n6 n7 n8 n9 f k hf hk hk3)).trans ?_
  refine (seqs_app (l₁ := [lawF_11, lawF_12, lawF_13]) (l₂ := [lawF_14, lawF_15, lawF_16]) (law11 (txtOf ps) (lineOf ps) (dot a) (dot b) (dot c) (bsOf (lineOf ps) a b c) n0 n1 n2 n3 n4 n5 n6 n7 n8 n9 f hf3 k hk3)).trans ?_
  refine (fseq_next h14).trans ?_
  refine (fseq_next (h15 o0 o1 o2 o3 w0 w1 w2 w3 w4 hs)).trans ?_
  exact fseq_ret (law16 _)
end Mine
end
section
open PySem PySem.W PyProof.Rows PySem.Calls
set_option maxHeartbeats 8000000
namespace Mine
theorem said1 : OpenLaw.wellSaid Challenge.rw_wr0042_01 = true := by
  rw [PySem.W.Fast.te9446332074065402090]
  kernel_rfl
theorem chains1 : (chainsOk qv && opensWell (Challenge.rw_wr0042_01.row).prog && (frees (Challenge.rw_wr0042_01.row).toRowW && (Challenge.rw_wr0042_01.row).within.isEmpty)) = true := by kernel_rfl
theorem top1 (hp : PureL lawF) : Challenge.rw_wr0042_01.Holds := by
  refine holds_law said1 fun said => ?_
  refine PySem.W.holds_open (q := qv) (loose := lsv) (Xt := XtV) (XP := XL qv []) (Yf := hk1.obs) (Ya := hk1.val) (YP := hk1.says) (N := NN) left1 hk1.of hk1.keeps (fun s e => xl_of s (Bool.and_eq_true_iff.mp e).1) XL.keeps (d := recAt 6) (kwd := []) def1 (by rfl) (by rfl) (fun s e => recFacts_of (Bool.and_eq_true_iff.mp e).2) (by rfl) said chains1 ⟨rfl, rfl, rfl, rfl, rfl, by decide +kernel⟩ ?hw (entryL rfl lawW hp)
  w_witness2
end Mine
end
set_option Elab.async false
theorem PySem.Challenge.cw_wr0042_01_holds : PySem.Challenge.rw_wr0042_01.Holds :=
  Mine.top1 Mine.pure1
