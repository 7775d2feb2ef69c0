import PyProof.Rows.All
import Wide.All
import OpenK.AllK
import Wide.FinOn
import PySem.Challenge.RW_qh0118_01
open PySem PySem.W PyProof.Rows
set_option Elab.async false
set_option compiler.extract_closed false
set_option genSizeOf false
set_option genSizeOfSpec false
set_option genInjectivity false
namespace Mine
set_option maxRecDepth 100000 in
set_option maxHeartbeats 8000000 in
open_top hd for PySem.Challenge.rw_qh0118_01
-- M1
section

/-- plain data -/
inductive D where
  | none
  | bool (b : Bool)
  | int (i : Int)
  | str (x : Str)
  | bytes (l : List UInt8)
  | list (ds : List D)
  | tuple (ds : List D)
  | raw (v : Value)

noncomputable def D.imm : D → Bool
  | .list _ => false
  | .tuple _ => false
  | _ => true

noncomputable abbrev lobj (vs : List Value) (n : Nat) : Obj := { cls := .type "list", data := .seq vs.toArray n }
noncomputable abbrev tobj (vs : List Value) (n : Nat) : Obj := { cls := .type "tuple", data := .seq vs.toArray n }

noncomputable def isSeq (o : Obj) : Bool := match o.data with
  | .seq .. => true
  | _ => false

mutual
inductive Rep (P : Addr → Prop) (h : Heap) : Value → D → Prop
  | none : Rep P h Value.none D.none
  | bool (b : Bool) : Rep P h (Value.bool b) (D.bool b)
  | int (i : Int) (t : Tok) : Rep P h (Value.int i t) (D.int i)
  | str (x : Str) (t : Tok) : Rep P h (Value.str x t) (D.str x)
  | bytes (l : List UInt8) (t : Tok) : Rep P h (Value.bytes l.toArray t) (D.bytes l)
  | raw (v : Value) : Rep P h v (D.raw v)
  | list {a : Addr} {vs : List Value} {n : Nat} {ds : List D} : ¬ P a → h.get? a = some (lobj vs n) → Reps P h vs ds → Rep P h (Value.ref a) (D.list ds)
  | tuple {a : Addr} {vs : List Value} {n : Nat} {ds : List D} : ¬ P a → h.get? a = some (tobj vs n) → Reps P h vs ds → Rep P h (Value.ref a) (D.tuple ds)
inductive Reps (P : Addr → Prop) (h : Heap) : List Value → List D → Prop
  | nil : Reps P h [] []
  | cons {v : Value} {vs : List Value} {d : D} {ds : List D} : Rep P h v d → Reps P h vs ds → Reps P h (v :: vs) (d :: ds)
end

inductive RNone : Value → Prop
  | none : RNone Value.none
inductive RBool (b : Bool) : Value → Prop
  | bool : RBool b (Value.bool b)
inductive RInt (i : Int) : Value → Prop
  | int (t : Tok) : RInt i (Value.int i t)
inductive RStr (x : Str) : Value → Prop
  | str (t : Tok) : RStr x (Value.str x t)
inductive RBytes (l : List UInt8) : Value → Prop
  | bytes (t : Tok) : RBytes l (Value.bytes l.toArray t)
inductive RRaw (v : Value) : Value → Prop
  | raw : RRaw v v
inductive RList (P : Addr → Prop) (h : Heap) (ds : List D) : Value → Prop
  | list {a : Addr} {vs : List Value} {n : Nat} : ¬ P a → h.get? a = some (lobj vs n) → Reps P h vs ds → RList P h ds (Value.ref a)
inductive RTuple (P : Addr → Prop) (h : Heap) (ds : List D) : Value → Prop
  | tuple {a : Addr} {vs : List Value} {n : Nat} : ¬ P a → h.get? a = some (tobj vs n) → Reps P h vs ds → RTuple P h ds (Value.ref a)
noncomputable def RepK (P : Addr → Prop) (h : Heap) : D → Value → Prop
  | .none => RNone
  | .bool b => RBool b
  | .int i => RInt i
  | .str x => RStr x
  | .bytes l => RBytes l
  | .list ds => RList P h ds
  | .tuple ds => RTuple P h ds
  | .raw v => RRaw v
/-- what stands for a datum, read from the datum -/
theorem Rep.inv {P : Addr → Prop} {h : Heap} {v : Value} {d : D} (r : Rep P h v d) : RepK P h d v := by
  cases r with
  | none => exact .none
  | bool b => exact .bool
  | int i t => exact .int t
  | str x t => exact .str t
  | bytes l t => exact .bytes t
  | raw v => exact .raw
  | list n e r => exact .list n e r
  | tuple n e r => exact .tuple n e r
inductive RNil : List Value → Prop
  | nil : RNil []
inductive RCons (P : Addr → Prop) (h : Heap) (d : D) (ds : List D) : List Value → Prop
  | cons {v : Value} {vs : List Value} : Rep P h v d → Reps P h vs ds → RCons P h d ds (v :: vs)
noncomputable def RepsK (P : Addr → Prop) (h : Heap) : List D → List Value → Prop
  | [] => RNil
  | d :: ds => RCons P h d ds
theorem Reps.inv {P : Addr → Prop} {h : Heap} {vs : List Value} {ds : List D} (r : Reps P h vs ds) : RepsK P h ds vs := by
  cases r with
  | nil => exact .nil
  | cons a r => exact .cons a r

mutual
theorem Rep.mono {P P' : Addr → Prop} {h h' : Heap} (hp : ∀ a, P' a → P a) (hk : ∀ a o, ¬ P a → h.get? a = some o → isSeq o = true → h'.get? a = some o) : ∀ {v : Value} {d : D}, Rep P h v d → Rep P' h' v d
  | _, _, .none => .none
  | _, _, .bool b => .bool b
  | _, _, .int i t => .int i t
  | _, _, .str x t => .str x t
  | _, _, .bytes b t => .bytes b t
  | _, _, .raw v => .raw v
  | _, _, .list n e r => .list (fun q => n (hp _ q)) (hk _ _ n e rfl) (Reps.mono hp hk r)
  | _, _, .tuple n e r => .tuple (fun q => n (hp _ q)) (hk _ _ n e rfl) (Reps.mono hp hk r)
theorem Reps.mono {P P' : Addr → Prop} {h h' : Heap} (hp : ∀ a, P' a → P a) (hk : ∀ a o, ¬ P a → h.get? a = some o → isSeq o = true → h'.get? a = some o) : ∀ {vs : List Value} {ds : List D}, Reps P h vs ds → Reps P' h' vs ds
  | _, _, .nil => .nil
  | _, _, .cons a r => .cons (Rep.mono hp hk a) (Reps.mono hp hk r)
end

mutual
/-- nothing at the address a is looked at, when a holds nothing -/
theorem Rep.fresh {P P' : Addr → Prop} {h : Heap} (hp : ∀ a, P' a → P a ∨ h.get? a = .none) : ∀ {v : Value} {d : D}, Rep P h v d → Rep P' h v d
  | _, _, .none => .none
  | _, _, .bool b => .bool b
  | _, _, .int i t => .int i t
  | _, _, .str x t => .str x t
  | _, _, .bytes b t => .bytes b t
  | _, _, .raw v => .raw v
  | _, _, .list n e r => .list (fun q => (hp _ q).elim n fun z => by rw [z] at e; cases e) e (Reps.fresh hp r)
  | _, _, .tuple n e r => .tuple (fun q => (hp _ q).elim n fun z => by rw [z] at e; cases e) e (Reps.fresh hp r)
theorem Reps.fresh {P P' : Addr → Prop} {h : Heap} (hp : ∀ a, P' a → P a ∨ h.get? a = .none) : ∀ {vs : List Value} {ds : List D}, Reps P h vs ds → Reps P' h vs ds
  | _, _, .nil => .nil
  | _, _, .cons a r => .cons (Rep.fresh hp a) (Reps.fresh hp r)
end

theorem Rep.imm {P P' : Addr → Prop} {h h' : Heap} {v : Value} {d : D} (hd : d.imm = true) (r : Rep P h v d) : Rep P' h' v d := by
  cases r with
  | none => exact .none
  | bool b => exact .bool b
  | int i t => exact .int i t
  | str x t => exact .str x t
  | bytes b t => exact .bytes b t
  | raw v => exact .raw v
  | list _ _ _ => cases hd
  | tuple _ _ _ => cases hd

theorem Rep.keeps {P : Addr → Prop} {h h' : Heap} {v : Value} {d : D} (r : Rep P h v d) (hk : ∀ b o, h.get? b = some o → h'.get? b = some o) : Rep P h' v d :=
  r.mono (fun _ q => q) fun a o _ e _ => hk a o e
theorem Reps.keeps {P : Addr → Prop} {h h' : Heap} {vs : List Value} {ds : List D} (r : Reps P h vs ds) (hk : ∀ b o, h.get? b = some o → h'.get? b = some o) : Reps P h' vs ds :=
  r.mono (fun _ q => q) fun a o _ e _ => hk a o e

section
variable {P : Addr → Prop} {h : Heap} {v : Value} {d : D} {vs ws : List Value} {ds es : List D}
theorem Reps.length (r : Reps P h vs ds) : vs.length = ds.length := by
  induction vs generalizing ds with
  | nil => cases r; rfl
  | cons v vs ih => cases r with | cons _ r => rw [List.length_cons, List.length_cons, ih r]
theorem Reps.append (r : Reps P h vs ds) (k : Reps P h ws es) : Reps P h (vs ++ ws) (ds ++ es) := by
  induction vs generalizing ds with
  | nil => cases r; exact k
  | cons v vs ih => cases r with | cons a r => exact .cons a (ih r)
theorem Reps.one (r : Rep P h v d) : Reps P h [v] [d] := .cons r .nil
theorem Reps.get (r : Reps P h vs ds) {k : Nat} {d : D} (hk : ds[k]? = some d) : ∃ v, vs[k]? = some v ∧ Rep P h v d := by
  induction vs generalizing ds k with
  | nil => cases r; cases hk
  | cons v vs ih =>
    cases r with
    | cons a r =>
      cases k with
      | zero => cases hk; exact ⟨v, rfl, a⟩
      | succ k => exact ih r hk
theorem Reps.get' (r : Reps P h vs ds) {k : Nat} {v : Value} (hk : vs[k]? = some v) : ∃ d, ds[k]? = some d ∧ Rep P h v d := by
  induction vs generalizing ds k with
  | nil => cases hk
  | cons v vs ih =>
    cases r with
    | cons a r =>
      cases k with
      | zero => cases hk; exact ⟨_, rfl, a⟩
      | succ k => exact ih r hk
theorem Reps.drop (r : Reps P h vs ds) (k : Nat) : Reps P h (vs.drop k) (ds.drop k) := by
  induction k generalizing vs ds with
  | zero => exact r
  | succ k ih =>
    cases r with
    | nil => exact .nil
    | cons _ r => exact ih r
theorem Reps.take (r : Reps P h vs ds) (k : Nat) : Reps P h (vs.take k) (ds.take k) := by
  induction k generalizing vs ds with
  | zero => exact .nil
  | succ k ih =>
    cases r with
    | nil => exact .nil
    | cons a r => exact .cons a (ih r)
theorem Reps.replicate (r : Rep P h v d) (k : Nat) : Reps P h (List.replicate k v) (List.replicate k d) := by
  induction k with
  | zero => exact .nil
  | succ k ih => exact .cons r ih
end

/-- room on the stack -/
structure Room (z : Bool) (n : Nat) (A : Around) : Prop where
  depth : A.depth + n ≤ 900
  units : A.units + 100 * n ≤ 9000
  hand : z = true → A.handled = none

theorem Room.le {z : Bool} {n m : Nat} {A : Around} (r : Room z n A) (h : m ≤ n) : Room z m A := ⟨by have := r.depth; omega, by have := r.units; omega, r.hand⟩
theorem Room.in1 {z : Bool} {n : Nat} {A : Around} (r : Room z (n + 1) A) : Room z n A.in1 :=
  ⟨by have := r.depth; show A.depth + n ≤ 900; omega, by have := r.units; show A.units + 1 + 100 * n ≤ 9000; omega, r.hand⟩
theorem Room.deeper {z : Bool} {n : Nat} {A : Around} {env : Env} (r : Room z (n + 1) A) : Room z n (A.deeper env) :=
  ⟨by have := r.depth; show A.depth + 1 + n ≤ 900; omega, by have := r.units; show A.units + 3 + 100 * n ≤ 9000; omega, r.hand⟩
theorem Room.lim {z : Bool} {n : Nat} {A : Around} (r : Room z n A) : A.depth < recursionLimit := by have := r.depth; show A.depth < 1000; omega
theorem Room.cl {z : Bool} {n : Nat} {A : Around} (r : Room z n A) : A.units < cLine := by have := r.units; show A.units < 9900; omega
theorem Room.weak {z : Bool} {n : Nat} {A : Around} (r : Room true n A) : Room z n A := ⟨r.depth, r.units, fun _ => r.hand rfl⟩

/-- what stands from the top on -/
structure Bs (K : Frag) (h : Heap) : Prop where
  kin : K.In h
  top : ∃ p loose mg mb, TopRead p loose mg mb h
theorem Bs.keeps {K : Frag} {h h' : Heap} (x : Bs K h) (hk : ∀ b o, h.get? b = some o → h'.get? b = some o) : Bs K h' :=
  ⟨x.kin.keeps hk, let ⟨p, l, mg, mb, t⟩ := x.top; ⟨p, l, mg, mb, t.keeps hk⟩⟩

theorem krefl (s : Shared) : Keeps s s := ⟨s.heap, s.toks, rfl, fun _ _ e => e⟩
theorem ktrans {s s' s'' : Shared} (a : Keeps s s') (b : Keeps s' s'') : Keeps s s'' := by
  obtain ⟨h, tk, rfl, k⟩ := a
  obtain ⟨h', tk', rfl, k'⟩ := b
  exact ⟨h', tk', rfl, fun b o e => k' b o (k b o e)⟩
theorem ktoks (s : Shared) (n : Nat) : Keeps s { s with toks := n } := ⟨s.heap, n, rfl, fun _ _ e => e⟩
theorem kheap {s s' : Shared} (a : Keeps s s') : ∀ b o, s.heap.get? b = some o → s'.heap.get? b = some o := by
  obtain ⟨h, tk, rfl, k⟩ := a; exact k
theorem kpush (s : Shared) (o : Obj) (n : Nat) : Keeps s { s with heap := s.heap.push o, toks := n } := ⟨_, _, rfl, fun _ _ e => Heap.get?_push_of_some o e⟩

/-- a variable and its value -/
noncomputable def VarIs (env : Env) (h : Heap) (x : Str) (v : Value) : Prop :=
  (env.kindOf x = some .local ∧ ∃ m, h.Ns env.locals m ∧ m x = some v) ∨
  ((env.kindOf x = some .cell ∨ (env.kindOf x = some .free ∧ (x == ("__classdict__" : Str)) = false)) ∧ ∃ c, env.cells.lookup x = some c ∧ h.IsCell c (some v))

theorem VarIs.keeps {env : Env} {h h' : Heap} {x : Str} {v : Value} (a : VarIs env h x v) (hk : ∀ b o, h.get? b = some o → h'.get? b = some o) : VarIs env h' x v := by
  rcases a with ⟨k, m, n, e⟩ | ⟨k, c, l, e⟩
  · exact .inl ⟨k, m, n.keeps hk, e⟩
  · exact .inr ⟨k, c, l, e.keeps hk⟩

inductive PV where
  | v (d : D)
  | o (ds : List D)
noncomputable abbrev Sto := List (Str × PV)

noncomputable def Sto.set : Sto → Str → PV → Sto
  | [], x, p => [(x, p)]
  | (y, q) :: r, x, p => if x == y then (y, p) :: r else (y, q) :: Sto.set r x p

theorem Sto.set_get (σ : Sto) (x : Str) (p : PV) (y : Str) : (Sto.set σ x p).lookup y = if y = x then some p else σ.lookup y := by
  induction σ with
  | nil =>
    show (match y == x with | true => some p | false => none) = _
    by_cases h : y = x
    · subst h; simp
    · simp [h, beq_eq_false_iff_ne.mpr h]
  | cons a r ih =>
    obtain ⟨z, q⟩ := a
    unfold Sto.set
    by_cases hz : (x == z) = true
    · rw [if_pos hz]
      have : x = z := by simpa using hz
      subst this
      rw [List.lookup_cons, List.lookup_cons]
      by_cases h : y = x
      · subst h; simp
      · simp [h, beq_eq_false_iff_ne.mpr h]
    · rw [if_neg hz, List.lookup_cons, List.lookup_cons, ih]
      by_cases h : y = x
      · subst h
        have : (y == z) = false := by simpa using hz
        rw [this]
      · simp [h]

/-- the forbidden places of a frame: those from outside and its own lists that it still changes -/
noncomputable def Pf (O : Addr → Prop) (σ : Sto) (ad : Str → Addr) (a : Addr) : Prop := O a ∨ ∃ x ds, σ.lookup x = some (.o ds) ∧ ad x = a

noncomputable abbrev Kpt := Addr → Option Obj

/-- the frame as it is read -/
structure FR (K : Frag) (sE : Shared) (kp : Kpt) (O : Addr → Prop) (env : Env) (σ : Sto) (ad : Str → Addr) (s : Shared) : Prop where
  sh : ∃ h tk, s = { sE with heap := h, toks := tk }
  kept : ∀ a o, kp a = some o → s.heap.get? a = some o
  bs : ∃ hB, Bs K hB ∧ ∀ a o, hB.get? a = some o → kp a = some o
  dom : ∀ a, O a → ∃ o, kp a = some o
  kd : env.scope.kind = .function
  gl : env.globals = mainGlobals
  bi : env.builtins = builtinsNs
  vals : ∀ x d, σ.lookup x = some (.v d) → ∃ v, VarIs env s.heap x v ∧ Rep (Pf O σ ad) s.heap v d
  owns : ∀ x ds, σ.lookup x = some (.o ds) → VarIs env s.heap x (.ref (ad x)) ∧ kp (ad x) = none ∧ ∃ vs n, s.heap.get? (ad x) = some (lobj vs n) ∧ Reps (Pf O σ ad) s.heap vs ds

/-- what a store wants besides -/
structure FW (kp : Kpt) (env : Env) (σ : Sto) (ad : Str → Addr) (s : Shared) : Prop where
  ns : ∃ m, s.heap.Ns env.locals m
  new : kp env.locals = none
  cel : ∀ x c, env.kindOf x = some .cell → env.cells.lookup x = some c → kp c = none ∧ ∃ v, s.heap.IsCell c v
  inj : ∀ x y c, env.cells.lookup x = some c → env.cells.lookup y = some c → x = y
  sep : ∀ x y ds es, σ.lookup x = some (.o ds) → σ.lookup y = some (.o es) → ad x = ad y → x = y

section
variable {K : Frag} {sE : Shared} {kp : Kpt} {O : Addr → Prop} {env : Env} {σ : Sto} {ad : Str → Addr} {s s' : Shared}
theorem FR.base (F : FR K sE kp O env σ ad s) : Bs K s.heap := let ⟨_, b, k⟩ := F.bs; b.keeps fun a o e => F.kept a o (k a o e)
theorem FR.keeps (F : FR K sE kp O env σ ad s) (k : Keeps s s') : FR K sE kp O env σ ad s' where
  sh := by
    obtain ⟨h, tk, rfl⟩ := F.sh
    obtain ⟨h', tk', rfl, _⟩ := k
    exact ⟨h', tk', rfl⟩
  kept := fun a o e => (kheap k) a o (F.kept a o e)
  bs := F.bs
  dom := F.dom
  kd := F.kd
  gl := F.gl
  bi := F.bi
  vals := fun x d e => let ⟨v, a, b⟩ := F.vals x d e; ⟨v, a.keeps (kheap k), b.keeps (kheap k)⟩
  owns := fun x ds e => let ⟨a, b, vs, n, c, r⟩ := F.owns x ds e; ⟨a.keeps (kheap k), b, vs, n, (kheap k) _ _ c, r.keeps (kheap k)⟩
theorem FW.keeps (W : FW kp env σ ad s) (k : Keeps s s') : FW kp env σ ad s' where
  ns := let ⟨m, n⟩ := W.ns; ⟨m, n.keeps (kheap k)⟩
  new := W.new
  cel := fun x c e l => let ⟨a, v, b⟩ := W.cel x c e l; ⟨a, v, b.keeps (kheap k)⟩
  inj := W.inj
  sep := W.sep
/-- a place that holds nothing is not forbidden -/
theorem FR.notPf (F : FR K sE kp O env σ ad s) {a : Addr} (h : s.heap.get? a = none) : ¬ Pf O σ ad a := by
  rintro (q | ⟨x, ds, e, rfl⟩)
  · obtain ⟨o, q⟩ := F.dom _ q
    have := F.kept _ _ q
    rw [h] at this; cases this
  · obtain ⟨_, _, vs, n, c, _⟩ := F.owns x ds e
    rw [h] at c; cases c
theorem FR.notO (F : FR K sE kp O env σ ad s) {a : Addr} (h : kp a = none) : ¬ O a := fun q => by
  obtain ⟨o, q⟩ := F.dom _ q
  rw [h] at q; cases q
end

variable (prog : Program) (w : World) (K : Frag)

/-- an expression gives a datum -/
noncomputable def Ev (z : Bool) (n : Nat) (env : Env) (σ : Sto) (e : Expr) (d : D) : Prop :=
  ∀ (sE : Shared) (kp : Kpt) (O : Addr → Prop) (ad : Str → Addr) (s : Shared) (A : Around) (E : Value → Shared → Prop), FR K sE kp O env σ ad s → Room z n A →
    wpAny (model prog w) A (eval e env) (fun v s' => Keeps s s' ∧ Rep O s'.heap v d) E s

/-- a test comes out -/
noncomputable def Tr (z : Bool) (n : Nat) (env : Env) (σ : Sto) (e : Expr) (b : Bool) : Prop :=
  ∀ (sE : Shared) (kp : Kpt) (O : Addr → Prop) (ad : Str → Addr) (s : Shared) (A : Around) (E : Value → Shared → Prop), FR K sE kp O env σ ad s → Room z n A →
    wpAny (model prog w) A (isTrue e env (eval e env)) (fun c s' => c = b ∧ Keeps s s') E s

inductive Res where
  | next (σ : Sto)
  | brk (σ : Sto)
  | cont (σ : Sto)
  | ret (d : D)

noncomputable def Res.is (K : Frag) (sE : Shared) (kp : Kpt) (O : Addr → Prop) (env : Env) (s' : Shared) : Res → Flow → Prop
  | .next σ, f => f = .next ∧ ∃ ad, FR K sE kp O env σ ad s' ∧ FW kp env σ ad s'
  | .brk σ, f => f = .brk ∧ ∃ ad, FR K sE kp O env σ ad s' ∧ FW kp env σ ad s'
  | .cont σ, f => f = .cont ∧ ∃ ad, FR K sE kp O env σ ad s' ∧ FW kp env σ ad s'
  | .ret d, f => ∃ v, f = .ret v ∧ (∃ h tk, s' = { sE with heap := h, toks := tk }) ∧ (∀ a o, kp a = some o → s'.heap.get? a = some o) ∧ Rep O s'.heap v d

/-- a statement turns the frame -/
noncomputable def Ex (z : Bool) (n : Nat) (env : Env) (σ : Sto) (st : Stmt) (r : Res) : Prop :=
  ∀ (sE : Shared) (kp : Kpt) (O : Addr → Prop) (ad : Str → Addr) (s : Shared) (A : Around) (E : Value → Shared → Prop), FR K sE kp O env σ ad s → FW kp env σ ad s → Room z n A →
    wpAny (model prog w) A (exec st env) (fun f s' => r.is K sE kp O env s' f) E s
noncomputable def Exs (z : Bool) (n : Nat) (env : Env) (σ : Sto) (st : List Stmt) (r : Res) : Prop :=
  ∀ (sE : Shared) (kp : Kpt) (O : Addr → Prop) (ad : Str → Addr) (s : Shared) (A : Around) (E : Value → Shared → Prop), FR K sE kp O env σ ad s → FW kp env σ ad s → Room z n A →
    wpAny (model prog w) A (execs st env) (fun f s' => r.is K sE kp O env s' f) E s

/-- a call gives a datum -/
noncomputable def Spec (n : Nat) (f : Value) (args : List D) (kws : List (Str × D)) (r : D) : Prop :=
  ∀ (s : Shared) (A : Around) (O : Addr → Prop) (vs ks : List Value) (E : Value → Shared → Prop), Bs K s.heap → Room true n A → (∀ a, O a → ∃ o, s.heap.get? a = some o) →
    Reps O s.heap vs args → Reps O s.heap ks (kws.map (·.2)) →
    wpAny (model prog w) A (call f vs ((kws.map (·.1)).zip ks)) (fun v s' => Keeps s s' ∧ Rep O s'.heap v r) E s

end
-- M2
section

noncomputable abbrev Dom (O : Addr → Prop) (s : Shared) : Prop := ∀ a, O a → ∃ o, s.heap.get? a = some o

section
variable {K : Frag} {sE : Shared} {kp : Kpt} {O : Addr → Prop} {env : Env} {σ : Sto} {ad : Str → Addr} {s s' : Shared}
theorem FR.domS (F : FR K sE kp O env σ ad s) : Dom O s := fun a q => let ⟨o, e⟩ := F.dom a q; ⟨o, F.kept a o e⟩
theorem dom_keeps (h : Dom O s) (k : Keeps s s') : Dom O s' := fun a q => let ⟨o, e⟩ := h a q; ⟨o, kheap k a o e⟩
theorem dom_new (h : Dom O s) : ¬ O s.heap.objs.size := fun q => by
  obtain ⟨o, e⟩ := h _ q
  exact absurd (Heap.lt_size e) (Nat.lt_irrefl _)
end

variable (prog : Program) (w : World) (K : Frag)

noncomputable def Bop (z : Bool) (n : Nat) (op : Operator) (d1 d2 d : D) : Prop :=
  ∀ (s : Shared) (A : Around) (O : Addr → Prop) (v1 v2 : Value) (E : Value → Shared → Prop), Bs K s.heap → Room z n A → Dom O s → Rep O s.heap v1 d1 → Rep O s.heap v2 d2 →
    wpAny (model prog w) A (binaryOp op v1 v2) (fun v s' => Keeps s s' ∧ Rep O s'.heap v d) E s
noncomputable def Cop (z : Bool) (n : Nat) (op : CmpOp) (d1 d2 d : D) : Prop :=
  ∀ (s : Shared) (A : Around) (O : Addr → Prop) (v1 v2 : Value) (E : Value → Shared → Prop), Bs K s.heap → Room z n A → Dom O s → Rep O s.heap v1 d1 → Rep O s.heap v2 d2 →
    wpAny (model prog w) A (compareOp op v1 v2) (fun v s' => Keeps s s' ∧ Rep O s'.heap v d) E s
noncomputable def Uop (z : Bool) (n : Nat) (op : UnaryOp) (d1 d : D) : Prop :=
  ∀ (s : Shared) (A : Around) (O : Addr → Prop) (v1 : Value) (E : Value → Shared → Prop), Bs K s.heap → Room z n A → Dom O s → Rep O s.heap v1 d1 →
    wpAny (model prog w) A (unaryOp op v1) (fun v s' => Keeps s s' ∧ Rep O s'.heap v d) E s
/-- an item or a cut -/
noncomputable def Sop (z : Bool) (n : Nat) (value slice : Expr) (d1 d2 d : D) : Prop :=
  ∀ (s : Shared) (A : Around) (O : Addr → Prop) (v1 v2 : Value) (E : Value → Shared → Prop), Bs K s.heap → Room z n A → Dom O s → Rep O s.heap v1 d1 → Rep O s.heap v2 d2 →
    wpAny (model prog w) A (subscriptTail value slice v1 v2) (fun v s' => Keeps s s' ∧ Rep O s'.heap v d) E s
/-- a datum's truth -/
noncomputable def Tru (z : Bool) (n : Nat) (d : D) (b : Bool) : Prop :=
  ∀ (s : Shared) (A : Around) (O : Addr → Prop) (v : Value) (E : Value → Shared → Prop), Room z n A → Rep O s.heap v d →
    wpAny (model prog w) A (truthy v) (fun c s' => c = b ∧ Keeps s s') E s

noncomputable def notStar : Expr → Bool
  | .Starred .. => false
  | _ => true
theorem starEach_cons {e : Expr} {rest : List Expr} {env : Env} (h : notStar e = true) : starEach (e :: rest) env = (false, eval e env) :: starEach rest env := by
  cases e <;> first | rfl | cases h

noncomputable def Evs (z : Bool) (n : Nat) (env : Env) (σ : Sto) (es : List Expr) (ds : List D) : Prop :=
  ∀ (sE : Shared) (kp : Kpt) (O : Addr → Prop) (ad : Str → Addr) (s : Shared) (A : Around) (E : Value → Shared → Prop) (pos : Pos), FR K sE kp O env σ ad s → Room z n A →
    (∀ x ∈ backTo pos (starEach es env), x.1 = false) ∧ wpAny (model prog w) A (spliced (backTo pos (starEach es env))) (fun vs s' => Keeps s s' ∧ Reps O s'.heap vs ds) E s

noncomputable def Evk (z : Bool) (n : Nat) (env : Env) (σ : Sto) (ks : List Keyword) (ds : List (Str × D)) : Prop :=
  ∀ (sE : Shared) (kp : Kpt) (O : Addr → Prop) (ad : Str → Addr) (s : Shared) (A : Around) (E : Value → Shared → Prop) (pos : Pos), FR K sE kp O env σ ad s → Room z n A →
    (backToKw pos (keywordEach ks env)).map (·.1) = ds.map (fun p => some p.1) ∧
    wpAny (model prog w) A (evalAll ((backToKw pos (keywordEach ks env)).map (·.2))) (fun vs s' => Keeps s s' ∧ Reps O s'.heap vs (ds.map (·.2))) E s

variable {prog w K} {z : Bool} {n : Nat} {env : Env} {σ : Sto}

theorem Ev.val {x : Str} {pos : Pos} {d : D} (h : σ.lookup x = some (.v d)) (hd : (x == ("__debug__" : Str)) = false := by decide) : Ev prog w K z n env σ (.Name x pos) d := by
  intro sE kp O ad s A E F _
  obtain ⟨v, hv, r⟩ := F.vals x d h
  refine wpAny_Name ?_ hd
  have fin : Keeps s s ∧ Rep O s.heap v d := ⟨krefl s, r.mono (fun _ q => .inl q) fun _ _ _ e _ => e⟩
  rcases hv with ⟨k, m, hn, e⟩ | ⟨k | ⟨k, hc⟩, c, l, e⟩
  · exact wpAny_loadName_local F.kd k hn e fin
  · exact wpAny_loadName_cell F.kd k l e fin
  · exact wpAny_loadName_free F.kd k l e fin hc

theorem Ev.own {x : Str} {pos : Pos} {ds : List D} (h : σ.lookup x = some (.o ds)) (hd : (x == ("__debug__" : Str)) = false := by decide) : Ev prog w K z n env σ (.Name x pos) (.list ds) := by
  intro sE kp O ad s A E F _
  obtain ⟨hv, hk, vs, n', e, r⟩ := F.owns x ds h
  refine wpAny_Name ?_ hd
  have fin : Keeps s s ∧ Rep O s.heap (.ref (ad x)) (.list ds) := ⟨krefl s, .list (F.notO hk) e (r.mono (fun _ q => .inl q) fun _ _ _ e _ => e)⟩
  rcases hv with ⟨k, m, hn, e⟩ | ⟨k | ⟨k, hc⟩, c, l, e⟩
  · exact wpAny_loadName_local F.kd k hn e fin
  · exact wpAny_loadName_cell F.kd k l e fin
  · exact wpAny_loadName_free F.kd k l e fin hc

/-- a global name of the text -/
theorem Ev.glob {x : Str} {pos : Pos} {d : D} {v : Value} (h : nsIn K mainGlobals x = some (some v)) (hk : env.kindOf x = some .globalImplicit) (hr : ∀ P h, Rep P h v d) (hd : (x == ("__debug__" : Str)) = false := by decide) : Ev prog w K z n env σ (.Name x pos) d := by
  intro sE kp O ad s A E F _
  have B := F.base
  obtain ⟨p, l, mg, mb, T⟩ := B.top
  exact Calls.Name_function_global F.kd hk (Calls.loadGlobal_global (by rw [F.gl]; exact T.g) (mg_of B.kin T.g h) ⟨krefl s, hr _ _⟩) hd
/-- a built-in name -/
theorem Ev.blt {x : Str} {pos : Pos} {v : Value} (h : nsIn K mainGlobals x = some none) (hb : bootBuiltins x = some v) (hn : x ≠ "__name__") (hk : env.kindOf x = some .globalImplicit) (hd : (x == ("__debug__" : Str)) = false := by decide) : Ev prog w K z n env σ (.Name x pos) (.raw v) := by
  intro sE kp O ad s A E F _
  have B := F.base
  obtain ⟨p, l, mg, mb, T⟩ := B.top
  exact Calls.Name_function_global F.kd hk (Calls.loadGlobal_builtin (by rw [F.gl]; exact T.g) (mg_none_of B.kin T.g h) (by rw [F.bi]; exact T.b) ((T.builtins x hn).trans hb) ⟨krefl s, .raw _⟩) hd

theorem Ev.int {i : Int} {k pos} : Ev prog w K z n env σ (.Constant (.int i) k pos) (.int i) := fun _ _ _ _ s _ _ _ _ => wpAny_Constant_int ⟨ktoks s _, .int _ _⟩
theorem Ev.bool {i : Bool} {k pos} : Ev prog w K z n env σ (.Constant (.bool i) k pos) (.bool i) := fun _ _ _ _ s _ _ _ _ => wpAny_Constant_bool ⟨krefl s, .bool _⟩
theorem Ev.none {k pos} : Ev prog w K z n env σ (.Constant .none k pos) .none := fun _ _ _ _ s _ _ _ _ => wpAny_Constant_none ⟨krefl s, .none⟩
theorem Ev.str {i : Str} {k pos} : Ev prog w K z n env σ (.Constant (.str i) k pos) (.str i) := fun _ _ _ _ s _ _ _ _ => wpAny_Constant_str ⟨ktoks s _, .str _ _⟩
theorem Ev.bytes {i : List UInt8} {k pos} : Ev prog w K z n env σ (.Constant (.bytes i) k pos) (.bytes i) := fun _ _ _ _ s _ _ _ _ => Constant_bytes ⟨ktoks s _, .bytes _ _⟩

theorem Ev.mono {e : Expr} {d d' : D} (h : Ev prog w K z n env σ e d) (e' : d = d') : Ev prog w K z n env σ e d' := e' ▸ h
theorem Ev.le {m : Nat} {e : Expr} {d : D} (h : Ev prog w K z m env σ e d) (hm : m ≤ n) : Ev prog w K z n env σ e d :=
  fun sE kp O ad s A E F R => h sE kp O ad s A E F (R.le hm)

/-- two parts, then an operation -/
theorem two {l r : Expr} {d1 d2 : D} {α : Type} {t : Value → Value → Sem α} {Q : α → Shared → Prop} (hl : Ev prog w K z n env σ l d1) (hr : Ev prog w K z n env σ r d2) {sE : Shared} {kp : Kpt} {O : Addr → Prop} {ad : Str → Addr} {s : Shared} {A : Around} {E : Value → Shared → Prop}
    (F : FR K sE kp O env σ ad s) (R : Room z n A) (h : ∀ a b s', Keeps s s' → Rep O s'.heap a d1 → Rep O s'.heap b d2 → wpAny (model prog w) A (t a b) Q E s') :
    wpAny (model prog w) A (eval l env) (fun a s₁ => wpAny (model prog w) A (eval r env) (fun b s₂ => wpAny (model prog w) A (t a b) Q E s₂) E s₁) E s := by
  refine wpAny_mono (hl sE kp O ad s A E F R) (fun a s₁ ⟨k1, r1⟩ => ?_) fun _ _ x => x
  refine wpAny_mono (hr sE kp O ad s₁ A E (F.keeps k1) R) (fun b s₂ ⟨k2, r2⟩ => ?_) fun _ _ x => x
  exact h a b s₂ (ktrans k1 k2) (r1.keeps (kheap k2)) r2

theorem Ev.bin {l r : Expr} {op : Operator} {pos : Pos} {d1 d2 d : D} (hl : Ev prog w K z n env σ l d1) (hr : Ev prog w K z n env σ r d2) (ho : Bop prog w K z n op d1 d2 d) : Ev prog w K z n env σ (.BinOp l op r pos) d := by
  intro sE kp O ad s A E F R
  refine wpAny_BinOp (two hl hr F R fun a b s' k r1 r2 => ?_)
  exact wpAny_mono (ho s' A O a b E ((F.keeps k).base) R (F.keeps k).domS r1 r2) (fun v s'' ⟨k', r'⟩ => ⟨ktrans k k', r'⟩) fun _ _ x => x
theorem Ev.cmp {l r : Expr} {op : CmpOp} {pos : Pos} {d1 d2 d : D} (hl : Ev prog w K z n env σ l d1) (hr : Ev prog w K z n env σ r d2) (ho : Cop prog w K z n op d1 d2 d) (hm : behindInMarks op r = false) : Ev prog w K z n env σ (.Compare l [op] [r] pos) d := by
  intro sE kp O ad s A E F R
  refine wpAny_Compare1 (two hl hr F R fun a b s' k r1 r2 => ?_) hm
  exact wpAny_mono (ho s' A O a b E ((F.keeps k).base) R (F.keeps k).domS r1 r2) (fun v s'' ⟨k', r'⟩ => ⟨ktrans k k', r'⟩) fun _ _ x => x
theorem Ev.un {l : Expr} {op : UnaryOp} {pos : Pos} {d1 d : D} (hl : Ev prog w K z n env σ l d1) (ho : Uop prog w K z n op d1 d) : Ev prog w K z n env σ (.UnaryOp op l pos) d := by
  intro sE kp O ad s A E F R
  refine wpAny_UnaryOp (wpAny_mono (hl sE kp O ad s A E F R) (fun a s₁ ⟨k, r1⟩ => ?_) fun _ _ x => x)
  exact wpAny_mono (ho s₁ A O a E ((F.keeps k).base) R (F.keeps k).domS r1) (fun v s'' ⟨k', r'⟩ => ⟨ktrans k k', r'⟩) fun _ _ x => x
theorem Ev.sub {l r : Expr} {pos : Pos} {d1 d2 d : D} (hl : Ev prog w K z n env σ l d1) (hr : Ev prog w K z n env σ r d2) (ho : Sop prog w K z n l r d1 d2 d) : Ev prog w K z n env σ (.Subscript l r pos) d := by
  intro sE kp O ad s A E F R
  refine Subscript_ (two hl hr F R fun a b s' k r1 r2 => ?_)
  exact wpAny_mono (ho s' A O a b E ((F.keeps k).base) R (F.keeps k).domS r1 r2) (fun v s'' ⟨k', r'⟩ => ⟨ktrans k k', r'⟩) fun _ _ x => x
theorem Ev.ite {t a b : Expr} {pos : Pos} {d : D} {c : Bool} (ht : Tr prog w K z n env σ t c) (h1 : c = true → Ev prog w K z n env σ a d) (h2 : c = false → Ev prog w K z n env σ b d) : Ev prog w K z n env σ (.IfExp t a b pos) d := by
  intro sE kp O ad s A E F R
  refine wpAny_IfExp (wpAny_mono (ht sE kp O ad s A E F R) (fun c' s₁ ⟨e, k⟩ => ?_) fun _ _ x => x)
  subst e
  cases c' with
  | true => exact wpAny_mono (h1 rfl sE kp O ad s₁ A E (F.keeps k) R) (fun v s'' ⟨k', r'⟩ => ⟨ktrans k k', r'⟩) fun _ _ x => x
  | false => exact wpAny_mono (h2 rfl sE kp O ad s₁ A E (F.keeps k) R) (fun v s'' ⟨k', r'⟩ => ⟨ktrans k k', r'⟩) fun _ _ x => x

theorem Tr.mono {e : Expr} {d d' : Bool} (h : Tr prog w K z n env σ e d) (e' : d = d') : Tr prog w K z n env σ e d' := e' ▸ h

/-- a test by its value -/
theorem Tr.val {e : Expr} {d : D} {b : Bool} (h : Ev prog w K z n env σ e d) (ht : Tru prog w z n d b)
    (he : isTrue e env (eval e env) = (do let v ← eval e env; standAt e.pos; holding [v] (truthy v))) : Tr prog w K z n env σ e b := by
  intro sE kp O ad s A E F R
  refine wpAny_isTrue_value ?_ he
  refine wpAny_mono (h sE kp O ad s A E F R) (fun a s₁ ⟨k, r1⟩ => ?_) fun _ _ x => x
  exact wpAny_mono (ht s₁ A O a E R r1) (fun v s'' ⟨e', k'⟩ => ⟨e', ktrans k k'⟩) fun _ _ x => x
theorem Tr.cmp {l r : Expr} {op : CmpOp} {pos : Pos} {d1 d2 : D} {b : Bool} (hl : Ev prog w K z n env σ l d1) (hr : Ev prog w K z n env σ r d2) (ho : Cop prog w K z n op d1 d2 (.bool b)) (hm : behindInMarks op r = false) : Tr prog w K z n env σ (.Compare l [op] [r] pos) b := by
  intro sE kp O ad s A E F R
  refine wpAny_isTrue_Compare1 (two hl hr F R fun a b' s' k r1 r2 => ?_) hm
  refine wpAny_mono (ho s' A O a b' E ((F.keeps k).base) R (F.keeps k).domS r1 r2) (fun v s'' ⟨k', r'⟩ => ?_) fun _ _ x => x
  replace r' := r'.inv; cases r' with
  | bool => exact wpAny_truthy_bool ⟨rfl, ktrans k k'⟩
theorem Tr.not {e : Expr} {pos : Pos} {b : Bool} (h : Tr prog w K z n env σ e b) : Tr prog w K z n env σ (.UnaryOp .Not e pos) (!b) := by
  intro sE kp O ad s A E F R
  exact wpAny_isTrue_Not (wpAny_mono (h sE kp O ad s A E F R) (fun c s₁ ⟨e, k⟩ => ⟨by rw [e], k⟩) fun _ _ x => x)
/-- a row of tests -/
noncomputable def Trs (prog : Program) (w : World) (K : Frag) (z : Bool) (n : Nat) (env : Env) (σ : Sto) (op : BoolOp) (es : List Expr) (b : Bool) : Prop :=
  ∀ (sE : Shared) (kp : Kpt) (O : Addr → Prop) (ad : Str → Addr) (s : Shared) (A : Around) (E : Value → Shared → Prop), FR K sE kp O env σ ad s → Room z n A →
    wpAny (model prog w) A (allTrue op es env) (fun c s' => c = b ∧ Keeps s s') E s
theorem Trs.and_nil : Trs prog w K z n env σ .And [] true := fun _ _ _ _ s _ _ _ _ => wpAny_allTrue_And_nil ⟨rfl, krefl s⟩
theorem Trs.or_nil : Trs prog w K z n env σ .Or [] false := fun _ _ _ _ s _ _ _ _ => wpAny_allTrue_Or_nil ⟨rfl, krefl s⟩
theorem Trs.and {e : Expr} {es : List Expr} {b c : Bool} (h : Tr prog w K z n env σ e b) (hs : b = true → Trs prog w K z n env σ .And es c) : Trs prog w K z n env σ .And (e :: es) (b && c) := by
  intro sE kp O ad s A E F R
  refine wpAny_allTrue_And_cons (wpAny_mono (h sE kp O ad s A E F R) (fun c' s₁ ⟨e, k⟩ => ?_) fun _ _ x => x)
  subst e
  cases c' with
  | false => exact ⟨rfl, k⟩
  | true => exact wpAny_mono (hs rfl sE kp O ad s₁ A E (F.keeps k) R) (fun c s₂ ⟨e, k'⟩ => ⟨e, ktrans k k'⟩) fun _ _ x => x
theorem Trs.or {e : Expr} {es : List Expr} {b c : Bool} (h : Tr prog w K z n env σ e b) (hs : b = false → Trs prog w K z n env σ .Or es c) : Trs prog w K z n env σ .Or (e :: es) (b || c) := by
  intro sE kp O ad s A E F R
  refine wpAny_allTrue_Or_cons (wpAny_mono (h sE kp O ad s A E F R) (fun c' s₁ ⟨e, k⟩ => ?_) fun _ _ x => x)
  subst e
  cases c' with
  | true => exact ⟨rfl, k⟩
  | false => exact wpAny_mono (hs rfl sE kp O ad s₁ A E (F.keeps k) R) (fun c s₂ ⟨e, k'⟩ => ⟨e, ktrans k k'⟩) fun _ _ x => x
theorem Tr.bools {op : BoolOp} {es : List Expr} {pos : Pos} {b : Bool} (h : Trs prog w K z n env σ op es b) : Tr prog w K z n env σ (.BoolOp op es pos) b :=
  fun sE kp O ad s A E F R => wpAny_isTrue_BoolOp (h sE kp O ad s A E F R)

theorem Evs.nil : Evs prog w K z n env σ [] [] := by
  intro _ _ _ _ s _ _ _ _ _
  exact ⟨(fun _ h => by cases h), Calls.spliced_nil ⟨krefl s, .nil⟩⟩
theorem Evs.cons {e : Expr} {es : List Expr} {d : D} {ds : List D} (hs : notStar e = true) (h : Ev prog w K z n env σ e d) (hr : Evs prog w K z n env σ es ds) : Evs prog w K z n env σ (e :: es) (d :: ds) := by
  intro sE kp O ad s A E pos F R
  rw [starEach_cons hs]
  refine ⟨?_, Calls.spliced_cons (wpAny_mono (h sE kp O ad s A E F R) (fun v s₁ ⟨k, r⟩ => ?_) fun _ _ x => x)⟩
  · intro x hx
    rcases List.mem_cons.mp hx with rfl | hx
    · rfl
    · exact (hr sE kp O ad s A E pos F R).1 x hx
  · exact wpAny_mono (hr sE kp O ad s₁ A E pos (F.keeps k) R).2 (fun vs s₂ ⟨k', r'⟩ => ⟨ktrans k k', .cons (r.keeps (kheap k')) r'⟩) fun _ _ x => x
theorem Evk.nil : Evk prog w K z n env σ [] [] := fun _ _ _ _ s _ _ _ _ _ => ⟨rfl, wpAny_evalAll_nil ⟨krefl s, .nil⟩⟩
theorem Evk.cons {x : Str} {e : Expr} {p : Pos} {ks : List Keyword} {d : D} {ds : List (Str × D)} (h : Ev prog w K z n env σ e d) (hr : Evk prog w K z n env σ ks ds) : Evk prog w K z n env σ (⟨some x, e, p⟩ :: ks) ((x, d) :: ds) := by
  intro sE kp O ad s A E pos F R
  have h0 := hr sE kp O ad s A E pos F R
  refine ⟨?_, ?_⟩
  · have := h0.1
    show some x :: (backToKw pos (keywordEach ks env)).map (·.1) = some x :: _
    rw [this]
  · show wpAny _ _ (evalAll ((do let v ← eval e env; standAt pos; pure v) :: (backToKw pos (keywordEach ks env)).map (·.2))) _ _ _
    refine wpAny_evalAll_cons (wpAny_bind (wpAny_mono (h sE kp O ad s A E F R) (fun v s₁ ⟨k, r⟩ => wpAny_bind (wpAny_standAt (wpAny_pure ?_))) fun _ _ x => x))
    exact wpAny_mono (hr sE kp O ad s₁ A E pos (F.keeps k) R).2 (fun vs s₂ ⟨k', r'⟩ => ⟨ktrans k k', .cons (r.keeps (kheap k')) r'⟩) fun _ _ x => x

theorem Ev.list {es : List Expr} {pos : Pos} {ds : List D} (h : Evs prog w K z n env σ es ds) (hz : ds.length ≤ 1000) : Ev prog w K z n env σ (.List es pos) (.list ds) := by
  intro sE kp O ad s A E F R
  refine List_ (wpAny_mono (h sE kp O ad s A E pos F R).2 (fun vs s₁ ⟨k, r⟩ => ?_) fun _ _ x => x)
  have hl := r.length
  refine wpAny_newList ⟨ktrans k (kpush s₁ _ _), ?_⟩ (by rw [sizeLine_eq]; omega)
  exact .list (dom_new (F.keeps k).domS) (Heap.get?_push_size _ rfl) (r.keeps fun _ _ e => Heap.get?_push_of_some _ e)
theorem Ev.tuple {es : List Expr} {c : Nat} {pos : Pos} {ds : List D} (h : Evs prog w K z n env σ es ds) (hz : ds.length ≤ 1000) : Ev prog w K z n env σ (.Tuple es c pos) (.tuple ds) := by
  intro sE kp O ad s A E F R
  refine Tuple_ (wpAny_mono (h sE kp O ad s A E pos F R).2 (fun vs s₁ ⟨k, r⟩ => ?_) fun _ _ x => x)
  have hl := r.length
  refine wpAny_newTuple ⟨ktrans k (kpush s₁ _ _), ?_⟩ (by rw [sizeLine_eq]; omega)
  exact .tuple (dom_new (F.keeps k).domS) (Heap.get?_push_size _ rfl) (r.keeps fun _ _ e => Heap.get?_push_of_some _ e)

/-- who keeps the arguments of a call: a def or a built-in -/
noncomputable def Kpr (f : Value) (h : Heap) : Prop := (∀ a, f ≠ .ref a) ∨ ∃ a o fd, f = .ref a ∧ h.get? a = some o ∧ o.data = .func fd

theorem any_false {l : List (Bool × Sem Value)} (h : ∀ x ∈ l, x.1 = false) : l.any (·.1) = false := by
  rw [List.any_eq_false]; intro x hx; rw [h x hx]; decide
theorem evalArgs_g {M : Model} {A : Around} {E : Value → Shared → Prop} {s : Shared} {f : Value} {args : List (Bool × Sem Value)} {kws : List (Option Str × Sem Value)} {Q : Args → Shared → Prop}
    (ha : ∀ x ∈ args, x.1 = false) (hk : kws.all (·.1.isSome) = true)
    (h : wpAny M A (spliced args) (fun vs s₁ => wpAny M A (evalAll (kws.map (·.2))) (fun ks s₂ => Q ⟨vs, (kws.filterMap (·.1)).zip ks⟩ s₂) E s₁) E s) : wpAny M A (evalArgs f true args kws) Q E s := by
  match args, ha, h with
  | [], _, h => exact evalArgs_kw_nil hk fun Γ p hΓ => h Γ p hΓ Γ p hΓ
  | (b, x) :: rest, ha, h =>
    have hb : b = false := ha _ (.head _)
    subst hb
    exact evalArgs_kw hk h

theorem callWith_g {M : Model} {A : Around} {E : Value → Shared → Prop} {s : Shared} {pos : Pos} {f : Value} {first : List Value} {args : List (Bool × Sem Value)} {kws : List (Option Str × Sem Value)} {Q : Value → Shared → Prop}
    (ha : ∀ x ∈ args, x.1 = false) (hk : kws.all (·.1.isSome) = true)
    (h : wpAny M A (spliced args) (fun vs s₁ => wpAny M A (evalAll (kws.map (·.2))) (fun ks s₂ => Kpr f s₂.heap ∧ wpAny M A (call f (first ++ vs) ((kws.filterMap (·.1)).zip ks)) Q E s₂) E s₁) E s) :
    wpAny M A (callWith pos f first args kws) Q E s := by
  have hn : kws.any (·.1.isNone) = false := by
    rw [List.any_eq_false]; intro x hx
    have := List.all_eq_true.mp hk x hx
    cases hx1 : x.1 with
    | none => rw [hx1] at this; cases this
    | some v => simp
  unfold callWith
  refine wpAny_bind (wpAny_holding (evalArgs_g ha hk (wpAny_mono h (fun vs s₁ h₁ => wpAny_mono h₁ (fun ks s₂ ⟨hp, h₂⟩ => ?_) fun _ _ x => x) fun _ _ x => x)))
  refine wpAny_bind (wpAny_standAt ?_)
  simp only [any_false ha, hn, Bool.or_false]
  have fin : wpAny M A (call f (first ++ vs) ((kws.filterMap (·.1)).zip ks)) (fun r s' => wpAny M A (do holding [r] point; pure r) Q E s') E s₂ :=
    wpAny_mono h₂ (fun r s' q => wpAny_bind (wpAny_holding (wpAny_point (wpAny_pure q)))) fun _ _ x => x
  rcases hp with hp | ⟨a, o, fd, rfl, ho, hd⟩
  · have : keeperOf f = pure .machine := by
      cases f <;> first | rfl | exact absurd rfl (hp _)
    rw [this]
    exact wpAny_bind (wpAny_pure (wpAny_bind fin))
  · unfold keeperOf
    refine wpAny_bind (wpAny_bind (wpAny_load ho ?_))
    rw [hd]
    refine wpAny_pure ?_
    dsimp only
    split
    · exact wpAny_bind fin
    · exact wpAny_bind (Calls.wpAny_keep fin)

/-- a call of a named thing -/
theorem Ev.call {x : Str} {np pos : Pos} {args : List Expr} {kws : List Keyword} {f : Value} {ds : List D} {ks : List (Str × D)} {r : D}
    (hf : Ev prog w K true (n + 1) env σ (.Name x np) (.raw f)) (ha : Evs prog w K true (n + 1) env σ args ds) (hk : Evk prog w K true (n + 1) env σ kws ks)
    (hp : ∀ h, Bs K h → Kpr f h) (hs : Spec prog w K n f ds ks r) : Ev prog w K true (n + 1) env σ (.Call (.Name x np) args kws pos) r := by
  intro sE kp O ad s A E F R
  refine wpAny_Call_Name_kw (wpAny_mono (hf sE kp O ad s A E F R) (fun v s₁ ⟨k, r1⟩ => ?_) fun _ _ x => x)
  replace r1 := r1.inv; cases r1
  have F1 := F.keeps k
  have h1 := ha sE kp O ad s₁ A E pos F1 R
  have h2 := (hk sE kp O ad s₁ A E pos F1 R).1
  have hall : (backToKw pos (keywordEach kws env)).all (·.1.isSome) = true := by
    rw [List.all_eq_true]
    intro y hy
    have : y.1 ∈ (backToKw pos (keywordEach kws env)).map (·.1) := List.mem_map.mpr ⟨y, hy, rfl⟩
    rw [h2] at this
    obtain ⟨p, _, hp⟩ := List.mem_map.mp this
    rw [← hp]; rfl
  have hnm : (backToKw pos (keywordEach kws env)).filterMap (·.1) = ks.map (·.1) := by
    have e : (backToKw pos (keywordEach kws env)).filterMap (·.1) = ((backToKw pos (keywordEach kws env)).map (·.1)).filterMap id := by rw [List.filterMap_map]; rfl
    rw [e, h2, List.filterMap_map]
    show List.filterMap (fun p : Str × D => some p.1) ks = _
    exact congrFun (List.filterMap_eq_map (f := fun p : Str × D => p.1)) ks
  refine callWith_g h1.1 hall (wpAny_mono h1.2 (fun vs s₂ ⟨k2, r2⟩ => ?_) fun _ _ x => x)
  have F2 := F1.keeps k2
  refine wpAny_mono (hk sE kp O ad s₂ A E pos F2 R).2 (fun kvs s₃ ⟨k3, r3⟩ => ?_) fun _ _ x => x
  have F3 := F2.keeps k3
  refine ⟨hp _ F3.base, ?_⟩
  rw [hnm]
  exact wpAny_mono (hs s₃ A O vs kvs E F3.base (R.le (Nat.le_succ n)) F3.domS (r2.keeps (kheap k3)) r3) (fun v s₄ ⟨k4, r4⟩ => ⟨ktrans k (ktrans k2 (ktrans k3 k4)), r4⟩) fun _ _ x => x

end
-- M3
section

theorem ns_unique {h : Heap} {a : Addr} {m m' : Str → Option Value} (x : h.Ns a m) (y : h.Ns a m') : m = m' := by
  obtain ⟨o, es, ep, ho, hd, _, hf⟩ := x
  obtain ⟨o', es', ep', ho', hd', _, hf'⟩ := y
  rw [ho] at ho'; cases ho'
  rw [hd] at hd'; cases hd'
  funext z; rw [← hf, ← hf']
theorem ns_notSeq {h : Heap} {a : Addr} {m : Str → Option Value} (x : h.Ns a m) {o : Obj} (e : h.get? a = some o) : isSeq o = false := by
  obtain ⟨o', es, ep, ho, hd, _, _⟩ := x
  rw [e] at ho; cases ho
  unfold isSeq; rw [hd]
theorem cell_notSeq {h : Heap} {a : Addr} {v : Option Value} (x : h.IsCell a v) {o : Obj} (e : h.get? a = some o) : isSeq o = false := by
  obtain ⟨o', ho, hd⟩ := x
  rw [e] at ho; cases ho
  unfold isSeq; rw [hd]
theorem ns_notCell {h : Heap} {a : Addr} {m : Str → Option Value} {v : Option Value} (x : h.Ns a m) (y : h.IsCell a v) : False := by
  obtain ⟨o', es, ep, ho, hd, _, _⟩ := x
  obtain ⟨o, e, hc⟩ := y
  rw [e] at ho; cases ho
  rw [hd] at hc; cases hc

/-- a name was stored -/
structure Stored (env : Env) (x : Str) (v : Value) (kp : Kpt) (s s' : Shared) : Prop where
  sh : ∃ h tk, s' = { s with heap := h, toks := tk }
  var : VarIs env s'.heap x v
  oth : ∀ y u, y ≠ x → VarIs env s.heap y u → VarIs env s'.heap y u
  kept : ∀ a o, kp a = some o → s.heap.get? a = some o → s'.heap.get? a = some o
  seq : ∀ a o, s.heap.get? a = some o → isSeq o = true → s'.heap.get? a = some o
  back : ∀ a, s'.heap.get? a = none ↔ s.heap.get? a = none
  ns : ∃ m, s'.heap.Ns env.locals m
  cel : ∀ y c, env.kindOf y = some .cell → env.cells.lookup y = some c → ∃ v, s'.heap.IsCell c v
  spot : ∃ a₀, Heap.SameBut a₀ s.heap s'.heap ∧ (a₀ = env.locals ∨ env.cells.lookup x = some a₀)

noncomputable def Storable (env : Env) (x : Str) : Prop := env.kindOf x = some .local ∨ (env.kindOf x = some .cell ∧ ∃ c, env.cells.lookup x = some c)

section
variable {prog : Program} {w : World} {K : Frag} {sE : Shared} {kp : Kpt} {O : Addr → Prop} {env : Env} {σ : Sto} {ad : Str → Addr} {s s' : Shared} {A : Around} {E : Value → Shared → Prop}

theorem back_of {b : Addr} {h h' : Heap} (hs : Heap.SameBut b h h') (h1 : ∃ o, h.get? b = some o) (h2 : ∃ o, h'.get? b = some o) (a : Addr) : h'.get? a = none ↔ h.get? a = none := by
  by_cases e : a = b
  · subst e
    obtain ⟨o, h1⟩ := h1
    obtain ⟨o', h2⟩ := h2
    rw [h1, h2]; simp
  · rw [hs.2 a e]

theorem store {x : Str} {v : Value} {Q : Unit → Shared → Prop} (kd : env.scope.kind = .function) (W : FW kp env σ ad s) (hx : Storable env x) (h : ∀ s', Stored env x v kp s s' → Q () s') : wpAny (model prog w) A (storeName env x v) Q E s := by
  obtain ⟨m, hm⟩ := W.ns
  rcases hx with hk | ⟨hk, c, hc⟩
  · refine wpAny_storeName_local hk hm (fun h' hn hs => h _ ?_) (by rw [kd]; rfl)
    have hL : ∃ o, s.heap.get? env.locals = some o := let ⟨o, _, _, e, _⟩ := hm; ⟨o, e⟩
    refine ⟨⟨h', _, rfl⟩, .inl ⟨hk, _, hn, by simp⟩, ?_, ?_, ?_, back_of hs hL (let ⟨o, _, _, e, _⟩ := hn; ⟨o, e⟩), ⟨_, hn⟩, ?_, ⟨_, hs, .inl rfl⟩⟩
    · rintro y u hy (⟨k, m', n', e⟩ | ⟨k, c, l, e⟩)
      · refine .inl ⟨k, _, hn, ?_⟩
        rw [if_neg hy, ns_unique hm n']; exact e
      · refine .inr ⟨k, c, l, e.sameBut hs ?_⟩
        rintro rfl; exact ns_notCell hm e
    · intro a o ka e
      refine (hs.2 a ?_).trans e
      rintro rfl; rw [W.new] at ka; cases ka
    · intro a o e q
      refine (hs.2 a ?_).trans e
      rintro rfl; rw [ns_notSeq hm e] at q; cases q
    · intro y c ky l
      obtain ⟨_, u, hu⟩ := W.cel y c ky l
      refine ⟨u, hu.sameBut hs ?_⟩
      rintro rfl; exact ns_notCell hm hu
  · obtain ⟨hkc, v₀, hv⟩ := W.cel x c hk hc
    refine wpAny_storeName_cell kd hk hc hv fun h' hn hs => h _ ?_
    refine ⟨⟨h', _, rfl⟩, .inr ⟨.inl hk, c, hc, hn⟩, ?_, ?_, ?_, back_of hs (let ⟨o, e, _⟩ := hv; ⟨o, e⟩) (let ⟨o, e, _⟩ := hn; ⟨o, e⟩), ⟨m, hm.sameBut hs (by rintro rfl; exact ns_notCell hm hv)⟩, ?_, ⟨_, hs, .inr hc⟩⟩
    · rintro y u hy (⟨k, m', n', e⟩ | ⟨k, c', l, e⟩)
      · exact .inl ⟨k, m', n'.sameBut hs (by rintro rfl; exact ns_notCell hm hv), e⟩
      · exact .inr ⟨k, c', l, e.sameBut hs (by rintro rfl; exact hy (W.inj _ _ _ l hc))⟩
    · intro a o ka e
      refine (hs.2 a ?_).trans e
      rintro rfl; rw [hkc] at ka; cases ka
    · intro a o e q
      refine (hs.2 a ?_).trans e
      rintro rfl; rw [cell_notSeq hv e] at q; cases q
    · intro y c' ky l
      by_cases e : c' = c
      · subst e; exact ⟨_, hn⟩
      · obtain ⟨_, u, hu⟩ := W.cel y c' ky l
        exact ⟨u, hu.sameBut hs e⟩

theorem set_lookup_o {x y : Str} {d : D} {ds : List D} (h : (Sto.set σ x (.v d)).lookup y = some (.o ds)) : y ≠ x ∧ σ.lookup y = some (.o ds) := by
  rw [Sto.set_get] at h
  split at h
  · cases h
  · exact ⟨by assumption, h⟩
theorem pf_set {x : Str} {d : D} {a : Addr} (h : Pf O (Sto.set σ x (.v d)) ad a) : Pf O σ ad a := by
  rcases h with h | ⟨y, ds, e, q⟩
  · exact .inl h
  · exact .inr ⟨y, ds, (set_lookup_o e).2, q⟩

theorem Stored.rep {x : Str} {v u : Value} {d : D} {P : Addr → Prop} (S : Stored env x v kp s s') (r : Rep P s.heap u d) : Rep P s'.heap u d := r.mono (fun _ q => q) fun a o _ e q => S.seq a o e q
theorem Stored.reps {x : Str} {v : Value} {us : List Value} {ds : List D} {P : Addr → Prop} (S : Stored env x v kp s s') (r : Reps P s.heap us ds) : Reps P s'.heap us ds := r.mono (fun _ q => q) fun a o _ e q => S.seq a o e q

theorem set_v {x : Str} {v : Value} {d : D} (F : FR K sE kp O env σ ad s) (W : FW kp env σ ad s) (S : Stored env x v kp s s') (r : Rep (Pf O (Sto.set σ x (.v d)) ad) s.heap v d) :
    FR K sE kp O env (Sto.set σ x (.v d)) ad s' ∧ FW kp env (Sto.set σ x (.v d)) ad s' := by
  refine ⟨⟨?_, fun a o e => S.kept a o e (F.kept a o e), F.bs, F.dom, F.kd, F.gl, F.bi, ?_, ?_⟩, ⟨S.ns, W.new, fun y c ky l => ⟨(W.cel y c ky l).1, S.cel y c ky l⟩, W.inj, ?_⟩⟩
  · obtain ⟨h, tk, rfl⟩ := F.sh
    obtain ⟨h', tk', rfl⟩ := S.sh
    exact ⟨h', tk', rfl⟩
  · intro y e hy
    rw [Sto.set_get] at hy
    split at hy
    · cases hy; subst_vars
      exact ⟨v, S.var, S.rep r⟩
    · obtain ⟨u, hu, ru⟩ := F.vals y e hy
      exact ⟨u, S.oth y u (by assumption) hu, (S.rep ru).mono (fun _ q => pf_set q) fun _ _ _ e _ => e⟩
  · intro y ds hy
    obtain ⟨hyx, hy'⟩ := set_lookup_o hy
    obtain ⟨hv, hk, vs, n, e, ru⟩ := F.owns y ds hy'
    exact ⟨S.oth y _ hyx hv, hk, vs, n, S.seq _ _ e rfl, (S.reps ru).mono (fun _ q => pf_set q) fun _ _ _ e _ => e⟩
  · intro y y' ds es h1 h2 e
    exact W.sep y y' ds es (set_lookup_o h1).2 (set_lookup_o h2).2 e

/-- a fresh list becomes the frame's own -/
theorem set_o {x : Str} {a : Addr} {vs : List Value} {n : Nat} {ds : List D} (F : FR K sE kp O env σ ad s) (W : FW kp env σ ad s) (S : Stored env x (.ref a) kp s s') (ha : s.heap.get? a = some (lobj vs n)) (hk : kp a = none)
    (hf : ∀ y e, y ≠ x → σ.lookup y = some (.v e) → ∃ v, VarIs env s.heap y v ∧ Rep (fun b => Pf O σ ad b ∨ b = a) s.heap v e)
    (hfo : ∀ y es, y ≠ x → σ.lookup y = some (.o es) → ad y ≠ a ∧ ∃ us k, s.heap.get? (ad y) = some (lobj us k) ∧ Reps (fun b => Pf O σ ad b ∨ b = a) s.heap us es)
    (r : Reps (fun b => Pf O σ ad b ∨ b = a) s.heap vs ds) :
    FR K sE kp O env (Sto.set σ x (.o ds)) (fun y => if y = x then a else ad y) s' ∧ FW kp env (Sto.set σ x (.o ds)) (fun y => if y = x then a else ad y) s' := by
  have hp : ∀ b, Pf O (Sto.set σ x (.o ds)) (fun y => if y = x then a else ad y) b → Pf O σ ad b ∨ b = a := by
    rintro b (q | ⟨y, es, e, q⟩)
    · exact .inl (.inl q)
    · rw [Sto.set_get] at e
      dsimp only at q
      by_cases hy : y = x
      · rw [if_pos hy] at q; exact .inr q.symm
      · rw [if_neg hy] at e q; exact .inl (.inr ⟨y, es, e, q⟩)
  refine ⟨⟨?_, fun b o e => S.kept b o e (F.kept b o e), F.bs, F.dom, F.kd, F.gl, F.bi, ?_, ?_⟩, ⟨S.ns, W.new, fun y c ky l => ⟨(W.cel y c ky l).1, S.cel y c ky l⟩, W.inj, ?_⟩⟩
  · obtain ⟨h, tk, rfl⟩ := F.sh
    obtain ⟨h', tk', rfl⟩ := S.sh
    exact ⟨h', tk', rfl⟩
  · intro y e hy
    rw [Sto.set_get] at hy
    split at hy
    · cases hy
    · obtain ⟨u, hu, ru⟩ := hf y e (by assumption) hy
      exact ⟨u, S.oth y u (by assumption) hu, (S.rep ru).mono hp fun _ _ _ e _ => e⟩
  · intro y es hy
    rw [Sto.set_get] at hy
    by_cases hyx : y = x
    · subst hyx
      rw [if_pos rfl] at hy; cases hy
      rw [if_pos rfl]
      exact ⟨S.var, hk, vs, n, S.seq _ _ ha rfl, (S.reps r).mono hp fun _ _ _ e _ => e⟩
    · rw [if_neg hyx] at hy
      rw [if_neg hyx]
      obtain ⟨hv, hk', _⟩ := F.owns y es hy
      obtain ⟨_, us, k, e, ru⟩ := hfo y es hyx hy
      exact ⟨S.oth y _ hyx hv, hk', us, k, S.seq _ _ e rfl, (S.reps ru).mono hp fun _ _ _ e _ => e⟩
  · intro y y' es es' h1 h2 e
    rw [Sto.set_get] at h1 h2
    by_cases hy : y = x
    · by_cases hy' : y' = x
      · rw [hy, hy']
      · rw [if_pos hy, if_neg hy'] at e
        rw [if_neg hy'] at h2
        exact absurd e.symm (hfo y' es' hy' h2).1
    · by_cases hy' : y' = x
      · rw [if_neg hy, if_pos hy'] at e
        rw [if_neg hy] at h1
        exact absurd e (hfo y es hy h1).1
      · rw [if_neg hy, if_neg hy'] at e
        rw [if_neg hy] at h1
        rw [if_neg hy'] at h2
        exact W.sep y y' es es' h1 h2 e
end

/-- no list of its own -/
noncomputable def noOwn (σ : Sto) : Bool := σ.all fun p => match p.2 with | .o _ => false | .v _ => true
theorem noOwn_look {σ : Sto} (h : noOwn σ = true) {x : Str} {ds : List D} : σ.lookup x ≠ some (.o ds) := by
  intro e
  induction σ with
  | nil => cases e
  | cons p r ih =>
    obtain ⟨y, q⟩ := p
    simp only [noOwn, List.all_cons, Bool.and_eq_true] at h
    rw [List.lookup_cons] at e
    split at e
    · cases e; exact absurd h.1 (by simp)
    · exact ih h.2 e

section
variable {prog : Program} {w : World} {K : Frag} {z : Bool} {n : Nat} {env : Env} {σ : Sto}

theorem rep_up {O : Addr → Prop} {ad : Str → Addr} {h : Heap} {v : Value} {d : D} (r : Rep O h v d) (hi : d.imm = true ∨ noOwn σ = true) : Rep (Pf O σ ad) h v d := by
  rcases hi with hi | hi
  · exact r.imm hi
  · refine r.mono (fun a q => ?_) fun _ _ _ e _ => e
    rcases q with q | ⟨x, ds, e, _⟩
    · exact q
    · exact absurd e (noOwn_look hi)

theorem Ex.assign {x : Str} {px pos : Pos} {value : Expr} {d : D} (h : Ev prog w K z n env σ value d) (hx : Storable env x) (hi : d.imm = true ∨ noOwn (Sto.set σ x (.v d)) = true)
    (hs : swapsWith value (some (.Name x px)) pos.line env = pure false) : Ex prog w K z n env σ (.Assign [.Name x px] value pos) (.next (Sto.set σ x (.v d))) := by
  intro sE kp O ad s A E F W R
  refine wpAny_Assign_Name (wpAny_mono (h sE kp O ad s A E F R) (fun v s₁ ⟨k, r⟩ => ?_) fun _ _ x => x) hs
  refine store F.kd (W.keeps k) hx fun s₂ S => ⟨rfl, ad, set_v (F.keeps k) (W.keeps k) S (rep_up r hi)⟩

theorem Ex.ret {e : Expr} {pos : Pos} {d : D} (h : Ev prog w K z n env σ e d) : Ex prog w K z n env σ (.Return (some e) pos) (.ret d) := by
  intro sE kp O ad s A E F W R
  refine wpAny_Return_some (wpAny_mono (h sE kp O ad s A E F R) (fun v s₁ ⟨k, r⟩ => ?_) fun _ _ x => x)
  exact ⟨v, rfl, (F.keeps k).sh, (F.keeps k).kept, r⟩
theorem Ex.brk {pos : Pos} : Ex prog w K z n env σ (.Break pos) (.brk σ) := fun _ _ _ ad _ _ _ F W _ => wpAny_Break ⟨rfl, ad, F, W⟩
theorem Ex.cont {pos : Pos} : Ex prog w K z n env σ (.Continue pos) (.cont σ) := fun _ _ _ ad _ _ _ F W _ => wpAny_Continue ⟨rfl, ad, F, W⟩

theorem Exs.nil : Exs prog w K z n env σ [] (.next σ) := fun _ _ _ ad _ _ _ F W _ => wpAny_execs_nil ⟨rfl, ad, F, W⟩
theorem Exs.cons {st : Stmt} {rest : List Stmt} {σ' : Sto} {r : Res} (h : Ex prog w K z n env σ st (.next σ')) (hr : Exs prog w K z n env σ' rest r) : Exs prog w K z n env σ (st :: rest) r := by
  intro sE kp O ad s A E F W R
  refine wpAny_execs_cons (wpAny_mono (h sE kp O ad s A E F W R) (fun f s₁ q => ?_) fun _ _ x => x)
  obtain ⟨rfl, ad', F', W'⟩ := q
  exact hr sE kp O ad' s₁ A E F' W' R
noncomputable def Res.stop : Res → Bool
  | .next _ => false
  | _ => true
theorem Exs.stop {st : Stmt} {rest : List Stmt} {r : Res} (h : Ex prog w K z n env σ st r) (hr : r.stop = true) : Exs prog w K z n env σ (st :: rest) r := by
  intro sE kp O ad s A E F W R
  refine wpAny_execs_cons (wpAny_mono (h sE kp O ad s A E F W R) (fun f s₁ q => ?_) fun _ _ x => x)
  cases r with
  | next => cases hr
  | brk => obtain ⟨rfl, q⟩ := q; exact ⟨rfl, q⟩
  | cont => obtain ⟨rfl, q⟩ := q; exact ⟨rfl, q⟩
  | ret => obtain ⟨v, rfl, q⟩ := q; exact ⟨v, rfl, q⟩

theorem wp_congr_post {α : Type} {M : Model} {Γ : Ctx} {t : Sem α} {Q Q' : α → Pos → Shared → Prop} {E : Value → Pos → Shared → Prop} {p : Pos} {s : Shared} (h : ∀ a p s, Q a p s = Q' a p s) : Sem.wp M Γ t Q E p s = Sem.wp M Γ t Q' E p s := by
  have : Q = Q' := by funext a p s; exact h a p s
  rw [this]
theorem execs_append {M : Model} {Γ : Ctx} {env : Env} {E : Value → Pos → Shared → Prop} {Q : Flow → Pos → Shared → Prop} : ∀ (a : List Stmt) {b : List Stmt} {p : Pos} {s : Shared}, Sem.wp M Γ (execs (a ++ b) env) Q E p s =
    Sem.wp M Γ (execs a env) (fun f p' s' => match f with | .next => Sem.wp M Γ (execs b env) Q E p' s' | f => Q f p' s') E p s
  | [], b, p, s => by rw [List.nil_append, execs_nil]; rfl
  | st :: a, b, p, s => by
    rw [List.cons_append, execs_cons, execs_cons, Sem.wp_bind', Sem.wp_bind']
    refine wp_congr_post fun f p' s' => ?_
    cases f with
    | next => exact execs_append a
    | brk => rfl
    | cont => rfl
    | ret v => rfl

/-- a branch: what follows is walked in each -/
theorem Exs.ite {t : Expr} {body orelse rest : List Stmt} {pos : Pos} {r : Res} {c : Bool} (ht : Tr prog w K z n env σ t c) (h1 : c = true → Exs prog w K z n env σ (body ++ rest) r) (h2 : c = false → Exs prog w K z n env σ (orelse ++ rest) r) :
    Exs prog w K z n env σ (.If t body orelse pos :: rest) r := by
  intro sE kp O ad s A E F W R Γ p hΓ
  rw [execs_cons, Sem.wp_bind', exec_If, Sem.wp_bind']
  show Sem.wp _ Γ (_ >>= _) _ _ _ _
  rw [Sem.wp_bind']
  refine Sem.wp_mono _ Γ _ (fun c' p₁ s₁ q => ?_) (fun _ _ _ x => x) _ _ (ht sE kp O ad s A E F R Γ _ hΓ)
  obtain ⟨rfl, k⟩ := q
  cases c' with
  | true =>
    have := h1 rfl sE kp O ad s₁ A E (F.keeps k) (W.keeps k) R Γ p₁ hΓ
    rw [execs_append] at this
    refine Sem.wp_mono _ Γ _ (fun f p₂ s₂ q => ?_) (fun _ _ _ x => x) _ _ this
    cases f <;> exact q
  | false =>
    have := h2 rfl sE kp O ad s₁ A E (F.keeps k) (W.keeps k) R Γ p₁ hΓ
    rw [execs_append] at this
    refine Sem.wp_mono _ Γ _ (fun f p₂ s₂ q => ?_) (fun _ _ _ x => x) _ _ this
    cases f <;> exact q
/-- a branch that ends, as one statement -/
theorem Ex.ite {t : Expr} {body orelse : List Stmt} {pos : Pos} {r : Res} {c : Bool} (ht : Tr prog w K z n env σ t c) (h1 : c = true → Exs prog w K z n env σ body r) (h2 : c = false → Exs prog w K z n env σ orelse r) :
    Ex prog w K z n env σ (.If t body orelse pos) r := by
  intro sE kp O ad s A E F W R
  refine wpAny_If (wpAny_mono (ht sE kp O ad s A E F R) (fun c' s₁ ⟨e, k⟩ => ?_) fun _ _ x => x)
  subst e
  cases c' with
  | true => exact h1 rfl sE kp O ad s₁ A E (F.keeps k) (W.keeps k) R
  | false => exact h2 rfl sE kp O ad s₁ A E (F.keeps k) (W.keeps k) R

/-- fewer names are known -/
theorem FR.sub {sE : Shared} {kp : Kpt} {O : Addr → Prop} {ad : Str → Addr} {s : Shared} {σ' : Sto} (F : FR K sE kp O env σ ad s) (h : ∀ x p, σ'.lookup x = some p → σ.lookup x = some p) : FR K sE kp O env σ' ad s := by
  have hp : ∀ a, Pf O σ' ad a → Pf O σ ad a := by
    rintro a (q | ⟨x, ds, e, q⟩)
    · exact .inl q
    · exact .inr ⟨x, ds, h _ _ e, q⟩
  exact ⟨F.sh, F.kept, F.bs, F.dom, F.kd, F.gl, F.bi, fun x d e => let ⟨v, a, b⟩ := F.vals x d (h _ _ e); ⟨v, a, b.mono hp fun _ _ _ e _ => e⟩,
    fun x ds e => let ⟨a, b, vs, n, c, r⟩ := F.owns x ds (h _ _ e); ⟨a, b, vs, n, c, r.mono hp fun _ _ _ e _ => e⟩⟩
theorem FW.sub {kp : Kpt} {ad : Str → Addr} {s : Shared} {σ' : Sto} (W : FW kp env σ ad s) (h : ∀ x p, σ'.lookup x = some p → σ.lookup x = some p) : FW kp env σ' ad s :=
  ⟨W.ns, W.new, W.cel, W.inj, fun x y ds es h1 h2 e => W.sep x y ds es (h _ _ h1) (h _ _ h2) e⟩
noncomputable def subSto (σ' σ : Sto) : Prop := ∀ x p, σ'.lookup x = some p → σ.lookup x = some p
theorem subSto.refl (σ : Sto) : subSto σ σ := fun _ _ h => h
theorem Res.sub {sE : Shared} {kp : Kpt} {O : Addr → Prop} {s : Shared} {σ' : Sto} {f : Flow} (h : subSto σ' σ) (q : (Res.next σ).is K sE kp O env s f) : (Res.next σ').is K sE kp O env s f :=
  let ⟨e, ad, F, W⟩ := q; ⟨e, ad, F.sub h, W.sub h⟩
theorem Exs.sub {st : List Stmt} {σ' σ'' : Sto} (h : Exs prog w K z n env σ st (.next σ')) (hs : subSto σ'' σ') : Exs prog w K z n env σ st (.next σ'') :=
  fun sE kp O ad s A E F W R => wpAny_mono (h sE kp O ad s A E F W R) (fun _ _ q => Res.sub hs q) fun _ _ x => x
theorem Exs.pre {st : List Stmt} {σ' : Sto} {r : Res} (h : Exs prog w K z n env σ' st r) (hs : subSto σ' σ) : Exs prog w K z n env σ st r :=
  fun sE kp O ad s A E F W R => h sE kp O ad s A E (F.sub hs) (W.sub hs) R

/-- a while of a known number of turns -/
theorem Ex.while {t : Expr} {body : List Stmt} {pos : Pos} {N : Nat} (f : Nat → Sto) (h0 : subSto (f 0) σ) (ht : ∀ i, i ≤ N → Tr prog w K z n env (f i) t (decide (i < N)))
    (hb : ∀ i, i < N → Exs prog w K z n env (f i) body (.next (f (i + 1)))) : Ex prog w K z n env σ (.While t body [] pos) (.next (f N)) := by
  intro sE kp O ad s A E F W R
  refine wpAny_While (codeAny_whileLoop (fun k s' => k ≤ N ∧ ∃ ad, FR K sE kp O env (f (N - k)) ad s' ∧ FW kp env (f (N - k)) ad s') ?_ N ⟨Nat.le_refl _, ad, by rw [Nat.sub_self]; exact F.sub h0, by rw [Nat.sub_self]; exact W.sub h0⟩)
  rintro k s₁ ⟨hk, ad₁, F₁, W₁⟩
  refine wpAny_mono (ht (N - k) (Nat.sub_le ..) sE kp O ad₁ s₁ A _ F₁ R) (fun c s₂ ⟨e, k2⟩ => ?_) fun _ _ x => x
  subst e
  by_cases hlt : N - k < N
  · rw [decide_eq_true hlt]
    simp only [if_true]
    refine wpAny_mono (hb (N - k) hlt sE kp O ad₁ s₂ A _ (F₁.keeps k2) (W₁.keeps k2) R) (fun fl s₃ q => ?_) fun _ _ x => x
    obtain ⟨rfl, ad₃, F₃, W₃⟩ := q
    have e : N - (k - 1) = N - k + 1 := by omega
    exact ⟨k - 1, by omega, by omega, ad₃, by rw [e]; exact F₃, by rw [e]; exact W₃⟩
  · rw [decide_eq_false hlt]
    simp only [Bool.false_eq_true, if_false]
    have e : N - k = N := by omega
    rw [e] at F₁ W₁
    exact wpAny_execs_nil ⟨rfl, ad₁, F₁.keeps k2, W₁.keeps k2⟩
end
end
-- M4
section

theorem Reps.imms {P P' : Addr → Prop} {h h' : Heap} : ∀ {vs : List Value} {ds : List D}, ds.all D.imm = true → Reps P h vs ds → Reps P' h' vs ds
  | _, _, _, .nil => .nil
  | _, _, hd, .cons a r => by
    simp only [List.all_cons, Bool.and_eq_true] at hd
    exact .cons (a.imm hd.1) (r.imms hd.2)

section
variable {prog : Program} {w : World} {K : Frag} {sE : Shared} {kp : Kpt} {O : Addr → Prop} {env : Env} {σ : Sto} {ad : Str → Addr} {s : Shared} {A : Around} {E : Value → Shared → Prop}

theorem varIs_but {a : Addr} {h h' : Heap} {x : Str} {v : Value} {o : Obj} (V : VarIs env h x v) (ho : h.get? a = some o) (hq : isSeq o = true) (hs : Heap.SameBut a h h') : VarIs env h' x v := by
  rcases V with ⟨k, m, n, e⟩ | ⟨k, c, l, e⟩
  · exact .inl ⟨k, m, n.sameBut hs (by rintro rfl; rw [ns_notSeq n ho] at hq; cases hq), e⟩
  · exact .inr ⟨k, c, l, e.sameBut hs (by rintro rfl; rw [cell_notSeq e ho] at hq; cases hq)⟩

/-- a list of the frame's own grows -/
theorem grow {x : Str} {ds es : List D} {vs us : List Value} {n n' : Nat} {h' : Heap} {tk : Nat} (F : FR K sE kp O env σ ad s) (W : FW kp env σ ad s) (hx : σ.lookup x = some (.o ds))
    (ho : s.heap.get? (ad x) = some (lobj vs n)) (hn : h'.get? (ad x) = some (lobj (vs ++ us) n')) (hs : Heap.SameBut (ad x) s.heap h') (r : Reps (Pf O σ ad) s.heap us es) :
    FR K sE kp O env (Sto.set σ x (.o (ds ++ es))) ad { s with heap := h', toks := tk } ∧ FW kp env (Sto.set σ x (.o (ds ++ es))) ad { s with heap := h', toks := tk } := by
  have hpx : Pf O σ ad (ad x) := .inr ⟨x, ds, hx, rfl⟩
  have hp : ∀ b, Pf O (Sto.set σ x (.o (ds ++ es))) ad b → Pf O σ ad b := by
    rintro b (q | ⟨y, fs, e, q⟩)
    · exact .inl q
    · rw [Sto.set_get] at e
      by_cases hy : y = x
      · subst hy; exact q ▸ hpx
      · rw [if_neg hy] at e; exact .inr ⟨y, fs, e, q⟩
  have mv : ∀ {v : Value} {d : D}, Rep (Pf O σ ad) s.heap v d → Rep (Pf O (Sto.set σ x (.o (ds ++ es))) ad) h' v d := fun r =>
    r.mono hp fun a o na e _ => (hs.2 a (fun q => na (q ▸ hpx))).trans e
  have mvs : ∀ {v : List Value} {d : List D}, Reps (Pf O σ ad) s.heap v d → Reps (Pf O (Sto.set σ x (.o (ds ++ es))) ad) h' v d := fun r =>
    r.mono hp fun a o na e _ => (hs.2 a (fun q => na (q ▸ hpx))).trans e
  obtain ⟨hv, hk, vs', n₀, e₀, r₀⟩ := F.owns x ds hx
  have hvs : vs' = vs := by rw [ho] at e₀; have := e₀.symm; simp only [lobj, Option.some.injEq, Obj.mk.injEq, Data.seq.injEq] at this; simpa using this.2.2.1.1
  subst hvs
  refine ⟨⟨?_, ?_, F.bs, F.dom, F.kd, F.gl, F.bi, ?_, ?_⟩, ⟨?_, W.new, ?_, W.inj, ?_⟩⟩
  · obtain ⟨h, tk, rfl⟩ := F.sh
    exact ⟨h', _, rfl⟩
  · intro a o e
    refine (hs.2 a ?_).trans (F.kept a o e)
    rintro rfl; rw [hk] at e; cases e
  · intro y e hy
    rw [Sto.set_get] at hy
    split at hy
    · cases hy
    · obtain ⟨u, hu, ru⟩ := F.vals y e hy
      exact ⟨u, varIs_but hu ho rfl hs, mv ru⟩
  · intro y fs hy
    rw [Sto.set_get] at hy
    by_cases hyx : y = x
    · subst hyx
      rw [if_pos rfl] at hy; cases hy
      exact ⟨varIs_but hv ho rfl hs, hk, _, _, hn, (mvs r₀).append (mvs r)⟩
    · rw [if_neg hyx] at hy
      obtain ⟨hv', hk', ws, k, e, ru⟩ := F.owns y fs hy
      refine ⟨varIs_but hv' ho rfl hs, hk', ws, k, (hs.2 _ fun q => hyx (W.sep _ _ _ _ hy hx q)).trans e, mvs ru⟩
  · obtain ⟨m, hm⟩ := W.ns
    exact ⟨m, hm.sameBut hs (by intro q; have := ns_notSeq hm (q ▸ ho); cases this)⟩
  · intro y c ky l
    obtain ⟨hkc, v, hv⟩ := W.cel y c ky l
    exact ⟨hkc, v, hv.sameBut hs (by intro q; have := cell_notSeq hv (q ▸ ho); cases this)⟩
  · intro y y' fs fs' h1 h2 e
    rw [Sto.set_get] at h1 h2
    by_cases hy : y = x
    · by_cases hy' : y' = x
      · rw [hy, hy']
      · rw [if_neg hy'] at h2
        subst hy
        exact W.sep _ _ _ _ hx h2 e
    · rw [if_neg hy] at h1
      by_cases hy' : y' = x
      · subst hy'
        exact W.sep _ _ _ _ h1 hx e
      · rw [if_neg hy'] at h2
        exact W.sep _ _ _ _ h1 h2 e
end

section
variable {prog : Program} {w : World} {K : Frag} {sE : Shared} {kp : Kpt} {O : Addr → Prop} {env : Env} {σ : Sto} {ad : Str → Addr} {s s' : Shared}
theorem set_same {x : Str} {ds : List D} (F : FR K sE kp O env σ ad s) (W : FW kp env σ ad s) (hx : σ.lookup x = some (.o ds)) (S : Stored env x (.ref (ad x)) kp s s') : FR K sE kp O env σ ad s' ∧ FW kp env σ ad s' := by
  refine ⟨⟨?_, fun a o e => S.kept a o e (F.kept a o e), F.bs, F.dom, F.kd, F.gl, F.bi, ?_, ?_⟩, ⟨S.ns, W.new, fun y c ky l => ⟨(W.cel y c ky l).1, S.cel y c ky l⟩, W.inj, W.sep⟩⟩
  · obtain ⟨h, tk, rfl⟩ := F.sh
    obtain ⟨h', tk', rfl⟩ := S.sh
    exact ⟨h', tk', rfl⟩
  · intro y e hy
    have hyx : y ≠ x := by rintro rfl; rw [hx] at hy; cases hy
    obtain ⟨u, hu, ru⟩ := F.vals y e hy
    exact ⟨u, S.oth y u hyx hu, S.rep ru⟩
  · intro y es hy
    obtain ⟨hv, hk, vs, n, e, ru⟩ := F.owns y es hy
    refine ⟨?_, hk, vs, n, S.seq _ _ e rfl, S.reps ru⟩
    by_cases hyx : y = x
    · subst hyx; exact S.var
    · exact S.oth y _ hyx hv
end

section
variable {prog : Program} {w : World} {K : Frag} {z : Bool} {n : Nat} {env : Env} {σ : Sto}

theorem interactive_of (h : env.scope.kind = .function) : interactive env = false := by unfold interactive; rw [h]; rfl
theorem load_var {sE : Shared} {kp : Kpt} {O : Addr → Prop} {ad : Str → Addr} {s : Shared} {A : Around} {E : Value → Shared → Prop} {x : Str} {v : Value} {Q : Value → Shared → Prop} (F : FR K sE kp O env σ ad s) (hv : VarIs env s.heap x v) (q : Q v s) : wpAny (model prog w) A (loadName env x) Q E s := by
  rcases hv with ⟨k, m, hn, e⟩ | ⟨k | ⟨k, hc⟩, c, l, e⟩
  · exact wpAny_loadName_local F.kd k hn e q
  · exact wpAny_loadName_cell F.kd k l e q
  · exact wpAny_loadName_free F.kd k l e q hc

theorem append_obj (vs : List Value) (n : Nat) (x : Value) : Obj.mapSeq (·.push x) (lobj vs n) = lobj (vs ++ [x]) (n + 1) := by
  rw [Obj.mapSeq_push_plain]; simp [lobj]

/-- x.append(e) -/
theorem Ex.append {x : Str} {p1 apos pos pos2 : Pos} {e : Expr} {ds : List D} {d : D} (hx : σ.lookup x = some (.o ds)) (h : Ev prog w K z n env σ e d) (hi : d.imm = true) (hz : ds.length ≤ 100000)
    (hd : (x == ("__debug__" : Str)) = false) (hst : notStar e = true) (hline : (apos.endLine == pos.line) = true) :
    Ex prog w K z n env σ (.Expr (.Call (.Attribute (.Name x p1) "append" apos) [e] [] pos) pos2) (.next (Sto.set σ x (.o (ds ++ [d])))) := by
  intro sE kp O ad s A E F W R
  have hst' : backTo pos (starEach [e] env) = [(false, eval e env)] := by rw [starEach_cons hst]; rfl
  refine wpAny_Expr_any (wpAny_Call_append rfl (by rw [hst']; rfl) hline hst' ?_) (interactive_of F.kd) rfl
  obtain ⟨hv, hk, vs, n', e₁, rs⟩ := F.owns x ds hx
  refine wpAny_Name (load_var F hv ⟨ad x, vs.toArray, rfl, ⟨_, n', e₁, rfl, rfl, rfl⟩, ?_⟩) hd
  refine wpAny_mono (h sE kp O ad s A E F R) (fun v s₁ ⟨k, r⟩ => ?_) fun _ _ x => x
  have F₁ := F.keeps k
  have e₂ := kheap k _ _ e₁
  have hl : vs.length = ds.length := rs.length
  refine wpAny_list_append_plain ⟨n', e₂⟩ (fun h' hp hs => ?_) (by rw [sizeLine_eq]; simp; omega)
  obtain ⟨n'', hp⟩ := hp
  refine ⟨rfl, ad, grow F₁ (W.keeps k) hx e₂ (us := [v]) (n' := n'') ?_ hs (.one (r.imm hi))⟩
  rw [hp]; simp [lobj]
theorem seq_list_iadd : seqSlot? (.type "list") (dunderI "add") = pure (some (.builtin "list.__iadd__")) := PySem.seqSlot_of PySem.F.slot_list_iadd.lookup (by decide +kernel)
theorem noFill_list_iadd : fillsInplaceSlot (.type "list") "add" (Operator.Add == .Add) = pure false := by
  unfold fillsInplaceSlot
  show (typeLookup (.type "list") (dunderI "add") >>= fun fi => pure (fi.isSome && !isSeqSlot fi)) = pure false
  rw [PySem.F.slot_list_iadd.lookup]
  show (pure (!isSeqSlot (some (.builtin "list.__iadd__"))) : Sem Bool) = _
  have : isSeqSlot (some (.builtin "list.__iadd__")) = true := by decide +kernel
  rw [this]; rfl
theorem iadd_list {M : Model} {A : Around} {E : Value → Shared → Prop} {s : Shared} {a b : Value} {Q : Value → Shared → Prop} (ha : s.TypeIs a "list") (hb : s.TypeIs b "list")
    (hc : wpAny M A (call (.builtin "list.__iadd__") [a, b]) Q E s) : wpAny M A (inplaceOp .Add a b) Q E s := by
  unfold inplaceOp
  refine wpAny_holding ?_
  refine wpAny_bind (wpAny_typeOf ha (wpAny_bind (wpAny_of_eq noFill_list_iadd ?_)))
  show wpAny M A (if false = true then _ else _) Q E s
  rw [if_neg Bool.false_ne_true]
  refine wpAny_bind (wpAny_binaryOp1_none (nm := "add") ha hb noFill_list_add ?_)
  refine wpAny_bind (wpAny_of_eq seq_list_iadd ?_)
  exact wpAny_bind (wpAny_rule hc)
theorem concat_obj (vs us : List Value) (n : Nat) : ∃ n', Obj.mapSeq (fun xs => xs ++ us.toArray) (lobj vs n) = lobj (vs ++ us) n' := by
  refine ⟨if (vs.toArray ++ us.toArray).size == vs.toArray.size then n else n + 1, ?_⟩
  simp [lobj, Obj.mapSeq]
theorem tooLong_no {a b : Array Value} (h : a.size + b.size ≤ 1000000) : ¬(!a.isEmpty && Builtin.List.listTooLong (a.size + b.size)) = true := by
  have : Builtin.List.listTooLong (a.size + b.size) = false := by
    unfold Builtin.List.listTooLong
    refine decide_eq_false ?_
    rw [sizeLine_eq]; omega
  rw [this]; simp
/-- x += e, x a list of the frame's own -/
theorem Ex.iadd {x : Str} {px pos : Pos} {e : Expr} {ds es : List D} (hx : σ.lookup x = some (.o ds)) (h : Ev prog w K z n env σ e (.list es)) (hi : es.all D.imm = true) (hz : ds.length + es.length ≤ 100000) (hk : Storable env x) :
    Ex prog w K z n env σ (.AugAssign (.Name x px) .Add e pos) (.next (Sto.set σ x (.o (ds ++ es)))) := by
  intro sE kp O ad s A E F W R
  obtain ⟨hv, hkp, vs, n', e₁, rs⟩ := F.owns x ds hx
  refine wpAny_AugAssign_Name (load_var F hv ?_)
  refine wpAny_mono (h sE kp O ad s A E F R) (fun v s₁ ⟨k, r⟩ => ?_) fun _ _ x => x
  have F₁ := F.keeps k
  have e₂ := kheap k _ _ e₁
  replace r := r.inv; cases r with
  | @list b us m hO e₃ r₃ =>
    have hl : vs.length = ds.length := rs.length
    have hl' : us.length = es.length := r₃.length
    have hsz : vs.toArray.size + us.toArray.size ≤ 1000000 := by simp; omega
    refine iadd_list ⟨_, e₂, rfl⟩ ⟨_, e₃, rfl⟩ (call_meets PySem.F.slot_list_iadd ⟨_, e₂, rfl⟩ PySem.F.entry_list_iadd (PySem.F.args_list_iadd_2 _ _) (AutoSeq1.list___iadd___list_list_0 (ad x) vs.toArray n' b us.toArray m (tooLong_no hsz) (by rw [sizeLine_eq]; omega) (by rw [sizeLine_eq]; omega)) ⟨e₂, e₃, ?_⟩)
    obtain ⟨n'', hob⟩ := concat_obj vs us n'
    have e₄ : (s₁.heap.update (ad x) (Obj.mapSeq fun xs => xs ++ us.toArray)).get? (ad x) = some (lobj (vs ++ us) n'') := by
      rw [Heap.get?_update_self _ e₂ (by rw [hob]; rfl), hob]
    have hs := Heap.SameBut.update s₁.heap (ad x) (Obj.mapSeq fun xs => xs ++ us.toArray)
    have rim : Reps (Pf O σ ad) s₁.heap us es := r₃.imms hi
    obtain ⟨G, Wg⟩ := grow (tk := s₁.toks) F₁ (W.keeps k) hx e₂ e₄ hs rim
    have hx' : (Sto.set σ x (.o (ds ++ es))).lookup x = some (.o (ds ++ es)) := by rw [Sto.set_get]; simp
    exact store G.kd Wg hk fun s₂ S => ⟨rfl, ad, set_same G Wg hx' S⟩
end
end
-- M5
section

section
variable {prog : Program} {w : World} {K : Frag} {sE : Shared} {kp : Kpt} {O : Addr → Prop} {env : Env} {σ : Sto} {ad : Str → Addr} {s s₁ s₂ : Shared} {A : Around} {E : Value → Shared → Prop}

/-- a list made since becomes the frame's own -/
theorem set_fresh {x : Str} {a : Addr} {vs : List Value} {n : Nat} {ds : List D} (F : FR K sE kp O env σ ad s) (W : FW kp env σ ad s) (k : Keeps s s₁) (h0 : s.heap.get? a = none) (h1 : s₁.heap.get? a = some (lobj vs n))
    (hi : ds.all D.imm = true) (r : Reps O s₁.heap vs ds) (S : Stored env x (.ref a) kp s₁ s₂) :
    FR K sE kp O env (Sto.set σ x (.o ds)) (fun y => if y = x then a else ad y) s₂ ∧ FW kp env (Sto.set σ x (.o ds)) (fun y => if y = x then a else ad y) s₂ := by
  have hp : ∀ b, (Pf O σ ad b ∨ b = a) → Pf O σ ad b ∨ s.heap.get? b = none := by
    rintro b (q | rfl)
    · exact .inl q
    · exact .inr h0
  refine set_o (F.keeps k) (W.keeps k) S h1 ?_ ?_ ?_ (r.imms hi)
  · cases e : kp a with
    | none => rfl
    | some o => have := F.kept _ _ e; rw [h0] at this; cases this
  · intro y e _ hy
    obtain ⟨u, hu, ru⟩ := F.vals y e hy
    exact ⟨u, hu.keeps (kheap k), (ru.fresh hp).keeps (kheap k)⟩
  · intro y es _ hy
    obtain ⟨_, _, us, m, e, ru⟩ := F.owns y es hy
    refine ⟨?_, us, m, kheap k _ _ e, (ru.fresh hp).keeps (kheap k)⟩
    rintro rfl; rw [h0] at e; cases e

theorem none_size (h : Heap) : h.get? h.objs.size = none := by
  cases e : h.get? h.objs.size with
  | none => rfl
  | some o => exact absurd (Heap.lt_size e) (Nat.lt_irrefl _)
end

section
variable {prog : Program} {w : World} {K : Frag} {z : Bool} {n : Nat} {env : Env} {σ : Sto}

/-- x = [] -/
theorem Ex.newlist {x : Str} {px lp pos : Pos} (hx : Storable env x) : Ex prog w K z n env σ (.Assign [.Name x px] (.List [] lp) pos) (.next (Sto.set σ x (.o []))) := by
  intro sE kp O ad s A E F W R
  refine wpAny_Assign_Name ?_ rfl
  refine List_ (Calls.spliced_nil (wpAny_newList ?_ (by simp)))
  have k := kpush s { cls := .type "list", data := .seq ([] : List Value).toArray } s.toks
  exact store F.kd (W.keeps k) hx fun s₂ S => ⟨rfl, _, set_fresh F W k (none_size _) (Heap.get?_push_size _ rfl) rfl .nil S⟩

noncomputable def Iop (prog : Program) (w : World) (K : Frag) (z : Bool) (n : Nat) (op : Operator) (d1 d2 d : D) : Prop :=
  ∀ (s : Shared) (A : Around) (O : Addr → Prop) (v1 v2 : Value) (E : Value → Shared → Prop), Bs K s.heap → Room z n A → Dom O s → Rep O s.heap v1 d1 → Rep O s.heap v2 d2 →
    wpAny (model prog w) A (inplaceOp op v1 v2) (fun v s' => Keeps s s' ∧ Rep O s'.heap v d) E s
theorem Ex.aug {x : Str} {px pos : Pos} {op : Operator} {e : Expr} {d1 d2 d : D} (hx : σ.lookup x = some (.v d1)) (h : Ev prog w K z n env σ e d2) (ho : Iop prog w K z n op d1 d2 d) (hi : d.imm = true) (hk : Storable env x) :
    Ex prog w K z n env σ (.AugAssign (.Name x px) op e pos) (.next (Sto.set σ x (.v d))) := by
  intro sE kp O ad s A E F W R
  obtain ⟨v, hv, r⟩ := F.vals x d1 hx
  refine wpAny_AugAssign_Name (load_var F hv ?_)
  refine wpAny_mono (h sE kp O ad s A E F R) (fun v2 s₁ ⟨k, r2⟩ => ?_) fun _ _ x => x
  have F₁ := F.keeps k
  refine wpAny_mono (ho s₁ A O v v2 E F₁.base R F₁.domS ((r.mono (fun _ q => .inl q) fun _ _ _ e _ => e).keeps (kheap k)) r2) (fun v3 s₂ ⟨k', r3⟩ => ?_) fun _ _ x => x
  have k2 := ktrans k k'
  exact store F.kd (W.keeps k2) hk fun s₃ S => ⟨rfl, ad, set_v (F.keeps k2) (W.keeps k2) S (r3.imm hi)⟩

noncomputable def nameT (p : Str × Pos) : Expr := .Name p.1 p.2
noncomputable def setAll : Sto → List (Str × Pos) → List D → Sto
  | σ, x :: xs, d :: ds => setAll (Sto.set σ x.1 (.v d)) xs ds
  | σ, _, _ => σ

theorem noOwn_set {x : Str} {d : D} (h : noOwn σ = true) : noOwn (Sto.set σ x (.v d)) = true := by
  induction σ with
  | nil => rfl
  | cons p r ih =>
    obtain ⟨y, q⟩ := p
    simp only [noOwn, List.all_cons, Bool.and_eq_true] at h
    unfold Sto.set
    split
    · simp only [noOwn, List.all_cons, Bool.and_eq_true]; exact ⟨trivial, h.2⟩
    · simp only [noOwn, List.all_cons, Bool.and_eq_true]; exact ⟨h.1, ih h.2⟩

theorem assignEach_names (xs : List (Str × Pos)) : (assignEach (xs.map nameT) env).map (·.2) = xs.map (fun p => assign (nameT p) env) ∧ (assignEach (xs.map nameT) env).findIdx? (·.1) = none ∧ (assignEach (xs.map nameT) env).length = xs.length := by
  induction xs with
  | nil => exact ⟨rfl, rfl, rfl⟩
  | cons x xs ih =>
    have e : assignEach ((x :: xs).map nameT) env = (false, assign (nameT x) env) :: assignEach (xs.map nameT) env := rfl
    rw [e]
    refine ⟨by rw [List.map_cons, ih.1]; rfl, ?_, by rw [List.length_cons, ih.2.2]; rfl⟩
    rw [List.findIdx?_cons, ih.2.1]; rfl

theorem assign_names {sE : Shared} {kp : Kpt} {O : Addr → Prop} {A : Around} {E : Value → Shared → Prop} {Q : Unit → Shared → Prop} (xs : List (Str × Pos)) (ds : List D) (vs : List Value) (σ : Sto) (ad : Str → Addr) (s : Shared) (F : FR K sE kp O env σ ad s) (W : FW kp env σ ad s)
    (hx : ∀ x ∈ xs, Storable env x.1) (rs : Reps O s.heap vs ds) (hl : xs.length = ds.length) (hi : ds.all D.imm = true ∨ noOwn σ = true)
    (h : ∀ s', FR K sE kp O env (setAll σ xs ds) ad s' → FW kp env (setAll σ xs ds) ad s' → Q () s') : wpAny (model prog w) A (assignInOrder (xs.map fun p => assign (nameT p) env) vs) Q E s := by
  induction xs generalizing ds vs σ s with
  | nil =>
    cases ds with
    | nil => replace rs := rs.inv; cases rs; exact wpAny_assignInOrder_none (h s F W)
    | cons => cases hl
  | cons x xs ih =>
    cases ds with
    | nil => cases hl
    | cons d ds =>
      replace rs := rs.inv; cases rs with
      | @cons v vs r rs =>
        refine wpAny_assignInOrder_more (wpAny_assign_Name (store F.kd W (hx x (.head _)) fun s' S => ?_))
        have hi1 : d.imm = true ∨ noOwn (Sto.set σ x.1 (.v d)) = true := by
          rcases hi with hi | hi
          · simp only [List.all_cons, Bool.and_eq_true] at hi; exact .inl hi.1
          · exact .inr (noOwn_set hi)
        have hi2 : ds.all D.imm = true ∨ noOwn (Sto.set σ x.1 (.v d)) = true := by
          rcases hi with hi | hi
          · simp only [List.all_cons, Bool.and_eq_true] at hi; exact .inl hi.2
          · exact .inr (noOwn_set hi)
        obtain ⟨F', W'⟩ := set_v F W S (rep_up r hi1)
        exact ih ds vs (Sto.set σ x.1 (.v d)) s' F' W' (fun y hy => hx y (.tail _ hy)) (S.reps rs) (by simpa using hl) hi2 h

/-- x, y = e -/
theorem Ex.unpack {xs : List (Str × Pos)} {c : Nat} {tp pos : Pos} {value : Expr} {ds : List D} {elts : List Expr} (h : Ev prog w K true n env σ value (.tuple ds)) (he : elts = xs.map nameT) (hx : ∀ x ∈ xs, Storable env x.1) (hl : xs.length = ds.length) (hi : ds.all D.imm = true ∨ noOwn σ = true)
    (hs : swapsWithSole [.Tuple elts c tp] value pos.line env = pure false) (hw : swappedStores [.Tuple elts c tp] value env = pure none) : Ex prog w K true n env σ (.Assign [.Tuple elts c tp] value pos) (.next (setAll σ xs ds)) := by
  subst he
  intro sE kp O ad s A E F W R
  refine Assign_Tuple (wpAny_mono (h sE kp O ad s A E F R) (fun v s₁ ⟨k, r⟩ => ?_) fun _ _ x => x) hs hw
  replace r := r.inv; cases r with
  | @tuple a vs m hO e r =>
    have hn := assignEach_names (env := env) xs
    have hlen := r.length
    refine wpAny_assign_Tuple (R.hand rfl) ⟨_, e, rfl, m, rfl⟩ (by rw [hn.2.2]; simp; omega) hn.2.1 fun h' hh => ?_
    rw [hn.1]
    have k' : Keeps s₁ { s₁ with heap := h' } := ⟨h', s₁.toks, rfl, fun b o e => hh b o (Nat.ne_of_lt (Heap.lt_size e)) e⟩
    have k2 := ktrans k k'
    exact assign_names xs ds vs σ ad _ (F.keeps k2) (W.keeps k2) hx (r.keeps (kheap k')) hl hi fun s' F' W' => ⟨rfl, ad, F', W'⟩
end
end
-- M6
section

noncomputable def notFrame (o : Obj) : Bool := match o.data with
  | .dict .. => false
  | .cell _ => false
  | _ => true
theorem ns_frame {h : Heap} {a : Addr} {m : Str → Option Value} (x : h.Ns a m) {o : Obj} (e : h.get? a = some o) : notFrame o = false := by
  obtain ⟨o', es, ep, ho, hd, _, _⟩ := x
  rw [e] at ho; cases ho
  unfold notFrame; rw [hd]
theorem cell_frame {h : Heap} {a : Addr} {v : Option Value} (x : h.IsCell a v) {o : Obj} (e : h.get? a = some o) : notFrame o = false := by
  obtain ⟨o', ho, hd⟩ := x
  rw [e] at ho; cases ho
  unfold notFrame; rw [hd]

section
variable {prog : Program} {w : World} {K : Frag} {sE : Shared} {kp : Kpt} {O : Addr → Prop} {env : Env} {σ : Sto} {ad : Str → Addr} {s : Shared} {wr : List Addr} {h' : Heap} {tk : Nat}

/-- only an iterator moved -/
theorem iter_moved (F : FR K sE kp O env σ ad s) (W : FW kp env σ ad s) (hw : ∀ b ∈ wr, ∃ o, s.heap.get? b = some o ∧ notFrame o = true ∧ isSeq o = false) (hk : ∀ b ∈ wr, kp b = none)
    (hs : ∀ b o, b ∉ wr → s.heap.get? b = some o → h'.get? b = some o) : FR K sE kp O env σ ad { s with heap := h', toks := tk } ∧ FW kp env σ ad { s with heap := h', toks := tk } := by
  have nsk : ∀ {a m}, s.heap.Ns a m → h'.Ns a m := fun {a m} hn => hn.at' fun o e => hs a o (fun q => by
    obtain ⟨o', e', nf, _⟩ := hw a q
    rw [ns_frame hn e'] at nf; cases nf) e
  have clk : ∀ {a v}, s.heap.IsCell a v → h'.IsCell a v := fun {a v} hn => by
    obtain ⟨o, e, hd⟩ := id hn
    refine ⟨o, hs a o (fun q => ?_) e, hd⟩
    obtain ⟨o', e', nf, _⟩ := hw a q
    rw [cell_frame hn e'] at nf; cases nf
  have vk : ∀ {x v}, VarIs env s.heap x v → VarIs env h' x v := by
    rintro x v (⟨k, m, n, e⟩ | ⟨k, c, l, e⟩)
    · exact .inl ⟨k, m, nsk n, e⟩
    · exact .inr ⟨k, c, l, clk e⟩
  have sq : ∀ a o, s.heap.get? a = some o → isSeq o = true → h'.get? a = some o := fun a o e q => hs a o (fun hm => by
    obtain ⟨o', e', _, ns⟩ := hw a hm
    rw [e] at e'; cases e'; rw [q] at ns; cases ns) e
  refine ⟨⟨?_, ?_, F.bs, F.dom, F.kd, F.gl, F.bi, ?_, ?_⟩, ⟨?_, W.new, ?_, W.inj, W.sep⟩⟩
  · obtain ⟨h, t, rfl⟩ := F.sh; exact ⟨h', _, rfl⟩
  · intro a o e
    exact hs a o (fun q => by rw [hk a q] at e; cases e) (F.kept a o e)
  · intro x d e
    obtain ⟨v, hv, r⟩ := F.vals x d e
    exact ⟨v, vk hv, r.mono (fun _ q => q) fun a o _ e q => sq a o e q⟩
  · intro x ds e
    obtain ⟨hv, hk', vs, n, e', r⟩ := F.owns x ds e
    exact ⟨vk hv, hk', vs, n, sq _ _ e' rfl, r.mono (fun _ q => q) fun a o _ e q => sq a o e q⟩
  · obtain ⟨m, hm⟩ := W.ns; exact ⟨m, nsk hm⟩
  · intro x c kx l
    obtain ⟨a, v, b⟩ := W.cel x c kx l
    exact ⟨a, v, clk b⟩

/-- what stands still meanwhile -/
noncomputable def kpWith (kp : Kpt) (fp : List Addr) (h : Heap) : Kpt := fun a => if a ∈ fp then h.get? a else kp a
theorem kp_up {fp : List Addr} (F : FR K sE kp O env σ ad s) (W : FW kp env σ ad s) (hob : ∀ b ∈ fp, ∃ o, s.heap.get? b = some o ∧ notFrame o = true) (hpf : ∀ b ∈ fp, ¬ Pf O σ ad b) :
    FR K sE (kpWith kp fp s.heap) O env σ ad s ∧ FW (kpWith kp fp s.heap) env σ ad s := by
  have up : ∀ a o, kp a = some o → kpWith kp fp s.heap a = some o := fun a o e => by
    unfold kpWith; split
    · exact F.kept a o e
    · exact e
  refine ⟨⟨F.sh, ?_, ?_, ?_, F.kd, F.gl, F.bi, F.vals, ?_⟩, ⟨W.ns, ?_, ?_, W.inj, W.sep⟩⟩
  · intro a o e
    unfold kpWith at e; split at e
    · exact e
    · exact F.kept a o e
  · obtain ⟨hB, b, c⟩ := F.bs
    exact ⟨hB, b, fun a o e => up a o (c a o e)⟩
  · intro a q; obtain ⟨o, e⟩ := F.dom a q; exact ⟨o, up a o e⟩
  · intro x ds e
    obtain ⟨hv, hk, r⟩ := F.owns x ds e
    refine ⟨hv, ?_, r⟩
    unfold kpWith; rw [if_neg]; exact hk
    exact fun q => hpf _ q (.inr ⟨x, ds, e, rfl⟩)
  · unfold kpWith; rw [if_neg]; exact W.new
    intro q
    obtain ⟨o, e, nf⟩ := hob _ q
    obtain ⟨m, hm⟩ := W.ns
    rw [ns_frame hm e] at nf; cases nf
  · intro x c kx l
    obtain ⟨a, v, b⟩ := W.cel x c kx l
    refine ⟨?_, v, b⟩
    unfold kpWith; rw [if_neg]; exact a
    intro q
    obtain ⟨o, e, nf⟩ := hob _ q
    rw [cell_frame b e] at nf; cases nf
theorem kp_down {kp' : Kpt} (F : FR K sE kp' O env σ ad s) (W : FW kp' env σ ad s) (up : ∀ a o, kp a = some o → kp' a = some o) (hb : ∃ hB, Bs K hB ∧ ∀ a o, hB.get? a = some o → kp a = some o) (hd : ∀ a, O a → ∃ o, kp a = some o) :
    FR K sE kp O env σ ad s ∧ FW kp env σ ad s := by
  have dn : ∀ a, kp' a = none → kp a = none := fun a e => by
    cases q : kp a with
    | none => rfl
    | some o => rw [up a o q] at e; cases e
  exact ⟨⟨F.sh, fun a o e => F.kept a o (up a o e), hb, hd, F.kd, F.gl, F.bi, F.vals, fun x ds e => let ⟨hv, hk, r⟩ := F.owns x ds e; ⟨hv, dn _ hk, r⟩⟩,
    ⟨W.ns, dn _ W.new, fun x c kx l => let ⟨a, r⟩ := W.cel x c kx l; ⟨dn _ a, r⟩, W.inj, W.sep⟩⟩
end

/-- what a for walks over -/
noncomputable def Itr (prog : Program) (w : World) (K : Frag) (n : Nat) (env : Env) (σ : Sto) (iter : Expr) (ds : List D) : Prop :=
  ∀ (sE : Shared) (kp : Kpt) (O : Addr → Prop) (ad : Str → Addr) (s : Shared) (A : Around) (E : Value → Shared → Prop), FR K sE kp O env σ ad s → Room true n A →
    wpAny (model prog w) A (eval iter env) (fun x s₁ => wpAny (model prog w) A (pyIter x) (fun it s₂ => ∃ I fp wr P St, it = Value.ref I ∧ Walks prog w A I fp wr ds.length P St ∧ Keeps s s₂ ∧ St 0 s₂.heap ∧
      (∀ i h, St i h → ∀ b ∈ fp, ∃ o, h.get? b = some o ∧ notFrame o = true ∧ (b ∈ wr → isSeq o = false)) ∧ (∀ b ∈ fp, ¬ Pf O σ ad b) ∧ (∀ b ∈ wr, kp b = none) ∧
      (∀ i v, P i v → ∃ d, ds[i]? = some d ∧ ∀ Pr h, Rep Pr h v d)) E s₁) E s

/-- the turn goes on -/
noncomputable def Goes (prog : Program) (w : World) (K : Frag) (z : Bool) (n : Nat) (env : Env) (σ : Sto) (st : List Stmt) (σ' : Sto) : Prop :=
  Exs prog w K z n env σ st (.next σ') ∨ Exs prog w K z n env σ st (.cont σ')

section
variable {prog : Program} {w : World} {K : Frag} {n : Nat} {env : Env} {σ : Sto}

theorem Ex.for {x : Str} {px pos : Pos} {iter : Expr} {body : List Stmt} {ds : List D} (f : Nat → Sto) (hi : Itr prog w K n env σ iter ds) (h0 : subSto (f 0) σ) (hx : Storable env x)
    (hb : ∀ i d, ds[i]? = some d → Goes prog w K true n env (Sto.set (f i) x (.v d)) body (f (i + 1)))
    (hs : ∀ x, foldedSetIterable iter env x = pure x) : Ex prog w K true n env σ (.For (.Name x px) iter body [] pos) (.next (f ds.length)) := by
  intro sE kp O ad s A E F W R
  refine wpAny_For (wpAny_mono (hi sE kp O ad s A E F R) (fun xv s₁ q => wpAny_mono q (fun it s₂ q => ?_) fun _ _ x => x) fun _ _ x => x) hs
  obtain ⟨I, fp, wr, P, St, rfl, Wk, k, hst, hob, hpf, hwr, hP⟩ := q
  have F0 := (F.keeps k).sub h0
  have W0 := (W.keeps k).sub h0
  have hpf0 : ∀ b ∈ fp, ¬ Pf O (f 0) ad b := fun b hb q => hpf b hb (by
    rcases q with q | ⟨y, es, e, q⟩
    · exact .inl q
    · exact .inr ⟨y, es, h0 _ _ e, q⟩)
  refine codeAny_forLoop (fun m s' => ∃ i ad', m = ds.length - i ∧ i ≤ ds.length ∧ FR K sE kp O env (f i) ad' s' ∧ FW kp env (f i) ad' s' ∧ St i s'.heap ∧ ∀ b ∈ fp, ¬ Pf O (f i) ad' b) ?_ ds.length ⟨0, ad, rfl, Nat.zero_le _, F0, W0, hst, hpf0⟩
  rintro m s₃ ⟨i, ad₃, rfl, hile, F₃, W₃, hst₃, hpf₃⟩
  have hw₃ : ∀ b ∈ wr, ∃ o, s₃.heap.get? b = some o ∧ notFrame o = true ∧ isSeq o = false := fun b hb => by
    obtain ⟨o, e, nf, q⟩ := hob i _ hst₃ b (Wk.sub b hb)
    exact ⟨o, e, nf, q hb⟩
  by_cases hlt : i < ds.length
  · refine Wk.item i s₃ _ _ hlt hst₃ fun v h₄ tk₄ hPv hst₄ hk₄ => ?_
    obtain ⟨F₄, W₄⟩ := iter_moved (tk := tk₄) F₃ W₃ hw₃ hwr hk₄
    obtain ⟨d, hd, hr⟩ := hP i v hPv
    have hob₄ : ∀ b ∈ fp, ∃ o, h₄.get? b = some o ∧ notFrame o = true := fun b hb => let ⟨o, e, nf, _⟩ := hob _ _ hst₄ b hb; ⟨o, e, nf⟩
    obtain ⟨F₅, W₅⟩ := kp_up (fp := fp) F₄ W₄ hob₄ hpf₃
    have up : ∀ a o, kp a = some o → kpWith kp fp h₄ a = some o := fun a o e => by
      unfold kpWith; split
      · exact F₄.kept a o e
      · exact e
    have hfp : ∀ b ∈ fp, ∃ o, h₄.get? b = some o ∧ kpWith kp fp h₄ b = some o := fun b hb => by
      obtain ⟨o, e, _⟩ := hob₄ b hb
      exact ⟨o, e, by unfold kpWith; rw [if_pos hb]; exact e⟩
    refine wpAny_assign_Name (store F₅.kd W₅ hx fun s₅ S => ?_)
    obtain ⟨F₆, W₆⟩ := set_v (d := d) F₅ W₅ S (hr _ _)
    have fin : ∀ (s₇ : Shared) (ad₇ : Str → Addr), FR K sE (kpWith kp fp h₄) O env (f (i + 1)) ad₇ s₇ → FW (kpWith kp fp h₄) env (f (i + 1)) ad₇ s₇ →
        ∃ m, m < ds.length - i ∧ ∃ i' ad', m = ds.length - i' ∧ i' ≤ ds.length ∧ FR K sE kp O env (f i') ad' s₇ ∧ FW kp env (f i') ad' s₇ ∧ St i' s₇.heap ∧ ∀ b ∈ fp, ¬ Pf O (f i') ad' b := fun s₇ ad₇ F₇ W₇ => by
      obtain ⟨F₈, W₈⟩ := kp_down F₇ W₇ up F₃.bs F₃.dom
      refine ⟨ds.length - (i + 1), by omega, i + 1, ad₇, rfl, hlt, F₈, W₈, ?_, ?_⟩
      · refine Wk.frame _ _ _ hst₄ fun b hb o e => ?_
        obtain ⟨o', e', kb⟩ := hfp b hb
        rw [e] at e'; cases e'
        exact F₇.kept b o kb
      · rintro b hb (q | ⟨y, es, e, q⟩)
        · exact hpf₃ b hb (.inl q)
        · obtain ⟨_, _, kb⟩ := hfp b hb
          have := (F₇.owns y es e).2.1
          rw [q, kb] at this; cases this
    rcases hb i d hd with hb | hb
    · refine wpAny_mono (hb sE _ O ad₃ s₅ A _ F₆ W₆ R) (fun fl s₇ q => ?_) fun _ _ x => x
      obtain ⟨rfl, ad₇, F₇, W₇⟩ := q
      exact fin s₇ ad₇ F₇ W₇
    · refine wpAny_mono (hb sE _ O ad₃ s₅ A _ F₆ W₆ R) (fun fl s₇ q => ?_) fun _ _ x => x
      obtain ⟨rfl, ad₇, F₇, W₇⟩ := q
      exact fin s₇ ad₇ F₇ W₇
  · have hin : i = ds.length := by omega
    subst hin
    refine Wk.done s₃ _ _ hst₃ fun h₄ tk₄ hk₄ => ?_
    obtain ⟨F₄, W₄⟩ := iter_moved (tk := tk₄) F₃ W₃ hw₃ hwr hk₄
    exact wpAny_execs_nil ⟨rfl, ad₃, F₄, W₄⟩

noncomputable def dBytes (l : List UInt8) : List D := l.map fun c => D.int (c.toNat : Int)
theorem Itr.bytes {iter : Expr} {l : List UInt8} (h : Ev prog w K true n env σ iter (.bytes l)) : Itr prog w K n env σ iter (dBytes l) := by
  intro sE kp O ad s A E F R
  refine wpAny_mono (h sE kp O ad s A E F R) (fun v s₁ ⟨k, r⟩ => ?_) fun _ _ x => x
  replace r := r.inv; cases r with
  | bytes t =>
    refine KBw.pyIter_bytes ?_
    have hn := none_size s₁.heap
    have F₁ := F.keeps k
    refine ⟨s₁.heap.objs.size, [s₁.heap.objs.size], [s₁.heap.objs.size], fun i v => ∃ c u, l.toArray[i]? = some c ∧ v = .int (c.toNat : Int) u, fun i h => KBw.IsBytesIter h s₁.heap.objs.size l.toArray t i, rfl, ?_, ktrans k (kpush s₁ _ _), ?_, ?_, ?_, ?_, ?_⟩
    · have := KBw.walks (prog := prog) (w := w) (R.hand rfl) s₁.heap.objs.size l.toArray t
      rw [show l.toArray.size = (dBytes l).length by simp [dBytes]] at this
      exact this
    · exact ⟨_, Heap.get?_push_size _ rfl, rfl, rfl⟩
    · rintro i h ⟨o, e, hc, hd⟩ b hb
      rw [List.mem_singleton.mp hb]
      exact ⟨o, e, by unfold notFrame; rw [hd], fun _ => by unfold isSeq; rw [hd]⟩
    · intro b hb; rw [List.mem_singleton.mp hb]; exact F₁.notPf hn
    · intro b hb; rw [List.mem_singleton.mp hb]
      cases e : kp s₁.heap.objs.size with
      | none => rfl
      | some o => have := F₁.kept _ _ e; rw [hn] at this; cases this
    · rintro i v ⟨c, u, e, rfl⟩
      refine ⟨.int (c.toNat : Int), ?_, fun _ _ => .int _ _⟩
      rw [dBytes, List.getElem?_map]
      simp only [List.getElem?_toArray] at e
      rw [e]; rfl

theorem Reps.all_imm {P : Addr → Prop} {h : Heap} {vs : List Value} {ds : List D} (r : Reps P h vs ds) (hi : ds.all D.imm = true) {i : Nat} {v : Value} (e : vs[i]? = some v) : ∃ d, ds[i]? = some d ∧ ∀ Pr h, Rep Pr h v d := by
  obtain ⟨d, hd, rd⟩ := r.get' e
  exact ⟨d, hd, fun _ _ => rd.imm (List.all_eq_true.mp hi d (List.mem_of_getElem? hd))⟩

/-- for over a list that a name of the frame bears -/
theorem Itr.name {x : Str} {px : Pos} {ds : List D} (hx : σ.lookup x = some (.v (.list ds))) (hi : ds.all D.imm = true) (hd : (x == ("__debug__" : Str)) = false := by decide) : Itr prog w K n env σ (.Name x px) ds := by
  intro sE kp O ad s A E F R
  obtain ⟨v, hv, r⟩ := F.vals x _ hx
  refine wpAny_Name (load_var F hv ?_) hd
  replace r := r.inv; cases r with
  | @list a vs m hO e r =>
    refine wpAny_pyIter_list ⟨_, e, rfl, m, rfl⟩ ?_
    have hn := none_size s.heap
    have hne : a ≠ s.heap.objs.size := by rintro rfl; rw [hn] at e; cases e
    have hlen := r.length
    refine ⟨s.heap.objs.size, [s.heap.objs.size, a], [s.heap.objs.size], fun i v => vs.toArray[i]? = some v, fun i h => h.IsListIter s.heap.objs.size a i ∧ h.IsList a vs.toArray, rfl, ?_, kpush s _ _, ?_, ?_, ?_, ?_, ?_⟩
    · have := Walks.list (prog := prog) (w := w) (R.hand rfl) s.heap.objs.size a hne vs.toArray
      rw [show vs.toArray.size = ds.length from hlen] at this
      exact this
    · exact ⟨⟨_, Heap.get?_push_size _ rfl, rfl, rfl⟩, ⟨_, Heap.get?_push_of_some _ e, rfl, m, rfl⟩⟩
    · rintro i h ⟨⟨o, e1, _, hd1⟩, ⟨o2, e2, _, m2, hd2⟩⟩ b hb
      rcases List.mem_cons.mp hb with rfl | hb
      · exact ⟨o, e1, by unfold notFrame; rw [hd1], fun _ => by unfold isSeq; rw [hd1]⟩
      · rw [List.mem_singleton.mp hb]
        exact ⟨o2, e2, by unfold notFrame; rw [hd2], fun q => absurd (List.mem_singleton.mp q) hne⟩
    · intro b hb
      rcases List.mem_cons.mp hb with rfl | hb
      · exact F.notPf hn
      · rw [List.mem_singleton.mp hb]; exact hO
    · intro b hb; rw [List.mem_singleton.mp hb]
      cases e : kp s.heap.objs.size with
      | none => rfl
      | some o => have := F.kept _ _ e; rw [hn] at this; cases this
    · intro i v ev
      exact r.all_imm hi (by simpa using ev)
end
end
-- M7
section

theorem lookup_snoc {β : Type} (l : List (Str × β)) (y : Str) (v : β) (x : Str) : (l ++ [(y, v)]).lookup x = (l.lookup x).or (if x = y then some v else none) := by
  induction l with
  | nil =>
    show (match x == y with | true => some v | false => none) = _
    by_cases h : x = y
    · subst h; simp
    · simp [h, beq_eq_false_iff_ne.mpr h]
  | cons p r ih =>
    obtain ⟨z, q⟩ := p
    rw [List.cons_append, List.lookup_cons, List.lookup_cons, ih]
    cases x == z <;> rfl

theorem bindL_get {kindOf : Str → Option NameKind} {x : Str} (hx : kindOf x = some .local) : ∀ (b : List (Str × Value)) (m : Str → Option Value), bindL kindOf b m x = (b.reverse.lookup x).or (m x)
  | [], m => rfl
  | (n, v) :: r, m => by
    unfold bindL
    rw [bindL_get hx r, List.reverse_cons, lookup_snoc]
    cases e : r.reverse.lookup x with
    | some u => rfl
    | none =>
      by_cases h : x = n
      · subst h; rw [if_pos hx]; simp
      · simp only [Option.none_or]
        split <;> simp [h]
theorem bindC_get {kindOf : Str → Option NameKind} {x : Str} (hx : kindOf x ≠ some .local) : ∀ (b : List (Str × Value)) (m : Str → Option Value), bindC kindOf b m x = (b.reverse.lookup x).or (m x)
  | [], m => rfl
  | (n, v) :: r, m => by
    unfold bindC
    rw [bindC_get hx r, List.reverse_cons, lookup_snoc]
    cases e : r.reverse.lookup x with
    | some u => rfl
    | none =>
      by_cases h : x = n
      · subst h; rw [if_neg hx]; simp
      · simp only [Option.none_or]
        split <;> simp [h]

/-- how the arguments are bound -/
noncomputable def BindsD (K : Frag) (fd : FuncData) (args : List D) (kws : List (Str × D)) (bd : List (Str × D)) : Prop :=
  ∀ (s : Shared) (O : Addr → Prop) (vs ks : List Value), Bs K s.heap → Reps O s.heap vs args → Reps O s.heap ks (kws.map (·.2)) →
    ∃ bv : List Value, BindsTo s fd ⟨vs, (kws.map (·.1)).zip ks⟩ ((bd.map (·.1)).zip bv) ∧ Reps O s.heap bv (bd.map (·.2))

noncomputable def sto0 (bd : List (Str × D)) : Sto := bd.reverse.map fun p => (p.1, PV.v p.2)

theorem sto0_rel {P : Addr → Prop} {h : Heap} (x : Str) (bd : List (Str × D)) (bv : List Value) (r : Reps P h bv (bd.map (·.2))) :
    ((sto0 bd).lookup x = none ∧ ((bd.map (·.1)).zip bv).reverse.lookup x = none) ∨ ∃ v d, (sto0 bd).lookup x = some (.v d) ∧ ((bd.map (·.1)).zip bv).reverse.lookup x = some v ∧ Rep P h v d := by
  induction bd generalizing bv with
  | nil => exact .inl ⟨rfl, by replace r := r.inv; cases r; rfl⟩
  | cons b bd ih =>
    replace r := r.inv; cases r with
    | @cons v vs r rs =>
      have e1 : sto0 (b :: bd) = sto0 bd ++ [(b.1, PV.v b.2)] := by unfold sto0; rw [List.reverse_cons, List.map_append, List.map_singleton]
      rw [e1, lookup_snoc, List.map_cons, List.zip_cons_cons, List.reverse_cons, lookup_snoc]
      rcases ih vs rs with ⟨h1, h2⟩ | ⟨v', d, h1, h2, h3⟩
      · rw [h1, h2]
        by_cases hx : x = b.1
        · exact .inr ⟨v, b.2, by simp [hx], by simp [hx], r⟩
        · exact .inl ⟨by simp [hx], by simp [hx]⟩
      · exact .inr ⟨v', d, by rw [h1]; rfl, by rw [h2]; rfl, h3⟩

theorem cells_inj {cs : List (Str × Addr)} (h : cs.Pairwise fun x y => x.2 ≠ y.2) {x y : Str} {c : Addr} (hx : cs.lookup x = some c) (hy : cs.lookup y = some c) : x = y := by
  induction cs with
  | nil => cases hx
  | cons p r ih =>
    obtain ⟨z, a⟩ := p
    cases h with
    | cons h1 h2 =>
      have inr : ∀ {u : Str}, r.lookup u = some c → (u, c) ∈ r := fun hu => mem_of_lookup hu
      rw [List.lookup_cons] at hx hy
      by_cases ex : (x == z) = true
      · rw [ex] at hx; cases hx
        by_cases ey : (y == z) = true
        · rw [beq_iff_eq.mp ex, beq_iff_eq.mp ey]
        · rw [Bool.not_eq_true] at ey; rw [ey] at hy
          exact absurd rfl (h1 (y, c) (inr hy))
      · rw [Bool.not_eq_true] at ex; rw [ex] at hx
        by_cases ey : (y == z) = true
        · rw [ey] at hy; cases hy
          exact absurd rfl (h1 (x, c) (inr hx))
        · rw [Bool.not_eq_true] at ey; rw [ey] at hy
          exact ih h2 hx hy

section
variable {prog : Program} {w : World} {K : Frag} {n : Nat}
/-- a def by its body -/
theorem Spec.of {f : Addr} {oc : Value} {od : Option Addr} {osl : Array (Option Value)} {fd : FuncData} {body : List Stmt} {args : List D} {kws bd : List (Str × D)} {r : D}
    (hf : K.lookup f = some ⟨oc, od, .func fd, osl⟩) (hbody : fd.body = .stmts body) (hcl : fd.closure = []) (hg : fd.globals = mainGlobals) (hbi : fd.builtins = builtinsNs) (hkd : fd.scope.kind = .function)
    (hco : fd.scope.isCoroutine = false) (hgen : fd.scope.isGenerator = false) (hcode : codeIn K fd.code fd.qualname = true) (hbind : BindsD K fd args kws bd)
    (hkind : (bd.all fun y => fd.scope.names.lookup y.1 == some .local || fd.scope.names.lookup y.1 == some .cell) = true)
    (h : ∀ L, Exs prog w K true n (callEnvC fd L f) (sto0 bd) body (.ret r)) : Spec prog w K (n + 1) (.ref f) args kws r := by
  intro s A O vs ks E B R hdom hvs hks
  obtain ⟨bv, hbt, hbv⟩ := hbind s O vs ks B hvs hks
  have hks' : (((bd.map (·.1)).zip bv).all fun y => fd.scope.names.lookup y.1 == some .local || fd.scope.names.lookup y.1 == some .cell) = true := by
    rw [List.all_eq_true] at hkind ⊢
    rintro ⟨x, v⟩ hy
    obtain ⟨b, hb, e⟩ := List.mem_map.mp (List.of_mem_zip hy).1
    have := hkind b hb
    rw [e] at this; exact this
  obtain ⟨p, l, mg, mb, T⟩ := B.top
  refine wpAny_call (codeAny_call_function R.lim (B.kin _ _ hf) rfl hco hgen hbody (codeRec_of B.kin hcode) (hbt _ _ _ _ ?_))
  rw [hcl]
  refine wpAny_newFunctionEnv_cells hkd (kindsX hks' _) fun env he s' X => ?_
  have he' : env = callEnvC fd s.heap.objs.size f := he
  subst he'
  refine ⟨T.nolimit.keeps X.toInCall.keep, codeAny_func ?_⟩
  have F : FR K s s.heap.get? O (callEnvC fd s.heap.objs.size f) (sto0 bd) (fun _ => 0) s' := by
    refine ⟨X.toInCall.same, X.toInCall.keep, ⟨s.heap, B, fun _ _ e => e⟩, hdom, hkd, hg, hbi, ?_, ?_⟩
    · intro x d e
      rcases sto0_rel x bd bv hbv with ⟨h1, _⟩ | ⟨v, d', h1, h2, h3⟩
      · rw [h1] at e; cases e
      · rw [h1] at e; cases e
        refine ⟨v, ?_, ?_⟩
        · have hmem : (x, v) ∈ (bd.map (·.1)).zip bv := List.mem_reverse.mp (mem_of_lookup h2)
          rcases kindsX hks' (s.heap.objs.size + 1) _ hmem with hk | ⟨hk, hc⟩
          · exact .inl ⟨hk, _, X.toInCall.ns, by rw [bindL_get hk, h2]; rfl⟩
          · obtain ⟨c, hc⟩ := Option.isSome_iff_exists.mp hc
            refine .inr ⟨.inl hk, c, hc, ?_⟩
            have := X.cell x c hc
            rw [bindC_get (by show fd.scope.names.lookup x ≠ some .local; rw [hk]; simp), h2] at this
            exact this
        · refine (h3.keeps X.toInCall.keep).mono (fun a q => ?_) fun _ _ _ e _ => e
          rcases q with q | ⟨y, ds, e, _⟩
          · exact q
          · rcases sto0_rel y bd bv hbv with ⟨h1, _⟩ | ⟨v, d', h1, _⟩
            · rw [h1] at e; cases e
            · rw [h1] at e; cases e
    · intro x ds e
      rcases sto0_rel x bd bv hbv with ⟨h1, _⟩ | ⟨v, d', h1, _⟩
      · rw [h1] at e; cases e
      · rw [h1] at e; cases e
  have W : FW s.heap.get? (callEnvC fd s.heap.objs.size f) (sto0 bd) (fun _ => 0) s' := by
    refine ⟨⟨_, X.toInCall.ns⟩, none_size _, ?_, fun x y c h1 h2 => cells_inj X.apart h1 h2, ?_⟩
    · intro x c _ hc
      refine ⟨?_, _, X.cell x c hc⟩
      have := X.above x c (mem_of_lookup hc)
      cases e : s.heap.get? c with
      | none => rfl
      | some o => exact absurd (Heap.lt_size e) (Nat.not_lt.mpr (Nat.le_of_lt this))
    · intro x y ds es e
      rcases sto0_rel x bd bv hbv with ⟨h1, _⟩ | ⟨v, d', h1, _⟩
      · rw [h1] at e; cases e
      · rw [h1] at e; cases e
  refine wpAny_mono (h s.heap.objs.size s s.heap.get? O (fun _ => 0) s' _ _ F W R.deeper) (fun fl s₂ q => ?_) fun _ _ x => x
  obtain ⟨v, rfl, ⟨h', tk, rfl⟩, kept, rep⟩ := q
  exact ⟨⟨h', tk, rfl, kept⟩, rep⟩
end
end
-- M8
section

section
variable {prog : Program} {w : World} {K : Frag} {z : Bool} {n : Nat} {a b : Int} {p q : Bool} {x y : List UInt8}

theorem Bop.add : Bop prog w K z n .Add (.int a) (.int b) (.int (a + b)) := by
  intro s A O v1 v2 E _ _ _ r1 r2; replace r1 := r1.inv; cases r1; replace r2 := r2.inv; cases r2; exact PyProof.Rows.add_int ⟨ktoks s _, .int _ _⟩
theorem Bop.sub : Bop prog w K z n .Sub (.int a) (.int b) (.int (a - b)) := by
  intro s A O v1 v2 E _ _ _ r1 r2; replace r1 := r1.inv; cases r1; replace r2 := r2.inv; cases r2; exact PyProof.Rows.sub_int ⟨ktoks s _, .int _ _⟩
theorem Bop.subB : Bop prog w K z n .Sub (.bool p) (.bool q) (.int (b2i p - b2i q)) := by
  intro s A O v1 v2 E _ _ _ r1 r2; replace r1 := r1.inv; cases r1; replace r2 := r2.inv; cases r2; exact sub_bool ⟨ktoks s _, .int _ _⟩
theorem mulOk_of (h1 : -(2 ^ 64) < b) (h2 : b < 2 ^ 64) : IntMulOk a b := .of_right (intBits_le_64 h1 h2)
theorem Bop.mul (h1 : -(2 ^ 64) < b) (h2 : b < 2 ^ 64) : Bop prog w K z n .Mult (.int a) (.int b) (.int (a * b)) := by
  intro s A O v1 v2 E _ _ _ r1 r2; replace r1 := r1.inv; cases r1; replace r2 := r2.inv; cases r2; exact PyProof.Rows.mul_int ⟨ktoks s _, .int _ _⟩ (mulOk_of h1 h2)
theorem Bop.fdiv (h0 : b ≠ 0) (h1 : b.natAbs < 1073741824) : Bop prog w K z n .FloorDiv (.int a) (.int b) (.int (a.fdiv b)) := by
  intro s A O v1 v2 E _ _ _ r1 r2; replace r1 := r1.inv; cases r1; replace r2 := r2.inv; cases r2; exact PyProof.Rows.floordiv_int h0 ⟨ktoks s _, .int _ _⟩ (.inl (PyProof.noPylong_small h1))
theorem Bop.fmod (h0 : b ≠ 0) : Bop prog w K z n .Mod (.int a) (.int b) (.int (a.fmod b)) := by
  intro s A O v1 v2 E _ _ _ r1 r2; replace r1 := r1.inv; cases r1; replace r2 := r2.inv; cases r2; exact PyProof.Rows.mod_int' h0 ⟨ktoks s _, .int _ _⟩
theorem Bop.pow (h0 : 0 ≤ b) (h1 : (Builtin.Int.intBits a : Int) * b ≤ 2 ^ 27) : Bop prog w K z n .Pow (.int a) (.int b) (.int (a ^ b.toNat)) := by
  intro s A O v1 v2 E _ _ _ r1 r2; replace r1 := r1.inv; cases r1; replace r2 := r2.inv; cases r2; exact PyProof.Rows.pow_int h0 h1 ⟨ktoks s _, .int _ _⟩
theorem Bop.and : Bop prog w K z n .BitAnd (.int a) (.int b) (.int (Builtin.bitAnd a b)) := by
  intro s A O v1 v2 E _ _ _ r1 r2; replace r1 := r1.inv; cases r1; replace r2 := r2.inv; cases r2; exact PyProof.Rows.and_int ⟨ktoks s _, .int _ _⟩
theorem Bop.or : Bop prog w K z n .BitOr (.int a) (.int b) (.int (Builtin.bitOr a b)) := by
  intro s A O v1 v2 E _ _ _ r1 r2; replace r1 := r1.inv; cases r1; replace r2 := r2.inv; cases r2; exact PyProof.Rows.or_int ⟨ktoks s _, .int _ _⟩
theorem Bop.shl (h0 : 0 ≤ b) (h1 : b ≤ 1000000) (h2 : a.natAbs < 2 ^ 64) : Bop prog w K z n .LShift (.int a) (.int b) (.int (a * 2 ^ b.toNat)) := by
  intro s A O v1 v2 E _ _ _ r1 r2; replace r1 := r1.inv; cases r1; replace r2 := r2.inv; cases r2; exact PyProof.Rows.lshift_int_small h0 h1 h2 ⟨ktoks s _, .int _ _⟩
theorem Bop.shr (h0 : 0 ≤ b) : Bop prog w K z n .RShift (.int a) (.int b) (.int (a.fdiv (2 ^ b.toNat))) := by
  intro s A O v1 v2 E _ _ _ r1 r2; replace r1 := r1.inv; cases r1; replace r2 := r2.inv; cases r2; exact PyProof.Rows.rshift_int h0 ⟨ktoks s _, .int _ _⟩
theorem Uop.neg : Uop prog w K z n .USub (.int a) (.int (-a)) := by
  intro s A O v1 E _ _ _ r1; replace r1 := r1.inv; cases r1; exact PyProof.Rows.neg_int ⟨ktoks s _, .int _ _⟩
theorem Iop.add : Iop prog w K z n .Add (.int a) (.int b) (.int (a + b)) := by
  intro s A O v1 v2 E _ _ _ r1 r2; replace r1 := r1.inv; cases r1; replace r2 := r2.inv; cases r2; exact PyProof.Rows.iadd_int ⟨ktoks s _, .int _ _⟩
theorem Iop.mul (h1 : -(2 ^ 64) < b) (h2 : b < 2 ^ 64) : Iop prog w K z n .Mult (.int a) (.int b) (.int (a * b)) := by
  intro s A O v1 v2 E _ _ _ r1 r2; replace r1 := r1.inv; cases r1; replace r2 := r2.inv; cases r2; exact PyProof.Rows.imul_int ⟨ktoks s _, .int _ _⟩ (mulOk_of h1 h2)

theorem Cop.eq : Cop prog w K z n .Eq (.int a) (.int b) (.bool (a == b)) := by
  intro s A O v1 v2 E _ _ _ r1 r2; replace r1 := r1.inv; cases r1; replace r2 := r2.inv; cases r2; exact PyProof.Rows.eq_int ⟨krefl s, .bool _⟩
theorem Cop.ne : Cop prog w K z n .NotEq (.int a) (.int b) (.bool (a != b)) := by
  intro s A O v1 v2 E _ _ _ r1 r2; replace r1 := r1.inv; cases r1; replace r2 := r2.inv; cases r2; exact PyProof.Rows.ne_int ⟨krefl s, .bool _⟩
theorem Cop.lt : Cop prog w K z n .Lt (.int a) (.int b) (.bool (decide (a < b))) := by
  intro s A O v1 v2 E _ _ _ r1 r2; replace r1 := r1.inv; cases r1; replace r2 := r2.inv; cases r2; exact PyProof.Rows.lt_int ⟨krefl s, .bool _⟩
theorem Cop.le : Cop prog w K z n .LtE (.int a) (.int b) (.bool (decide (a ≤ b))) := by
  intro s A O v1 v2 E _ _ _ r1 r2; replace r1 := r1.inv; cases r1; replace r2 := r2.inv; cases r2; exact PyProof.Rows.le_int ⟨krefl s, .bool _⟩
theorem Cop.gt : Cop prog w K z n .Gt (.int a) (.int b) (.bool (decide (b < a))) := by
  intro s A O v1 v2 E _ _ _ r1 r2; replace r1 := r1.inv; cases r1; replace r2 := r2.inv; cases r2; exact PyProof.Rows.gt_int ⟨krefl s, .bool _⟩
theorem Cop.ge : Cop prog w K z n .GtE (.int a) (.int b) (.bool (decide (b ≤ a))) := by
  intro s A O v1 v2 E _ _ _ r1 r2; replace r1 := r1.inv; cases r1; replace r2 := r2.inv; cases r2; exact PyProof.Rows.ge_int ⟨krefl s, .bool _⟩
theorem Cop.eqB : Cop prog w K z n .Eq (.bytes x) (.bytes y) (.bool (x == y)) := by
  intro s A O v1 v2 E _ _ _ r1 r2; replace r1 := r1.inv; cases r1; replace r2 := r2.inv; cases r2; exact eq_bytes ⟨krefl s, .bool _⟩

/-- bytes as numbers -/
noncomputable def nums (l : List UInt8) : List Nat := l.map UInt8.toNat
theorem order_lt : ∀ a b : List UInt8, (Builtin.Bytes.order a b == .lt) = decide (nums a < nums b)
  | [], [] => by simp [Builtin.Bytes.order, nums]
  | [], _ :: _ => by simp [Builtin.Bytes.order, nums]
  | _ :: _, [] => by simp [Builtin.Bytes.order, nums]
  | x :: a, y :: b => by
    simp only [Builtin.Bytes.order]
    have ih := order_lt a b
    by_cases h1 : x < y
    · have : x.toNat < y.toNat := h1
      rw [if_pos h1]
      symm
      show decide (x.toNat :: nums a < y.toNat :: nums b) = true
      rw [decide_eq_true_eq, List.cons_lt_cons_iff]; exact .inl this
    · rw [if_neg h1]
      have n1 : ¬ x.toNat < y.toNat := h1
      by_cases h2 : x > y
      · rw [if_pos h2]
        have n2 : y.toNat < x.toNat := h2
        symm
        show decide (x.toNat :: nums a < y.toNat :: nums b) = false
        rw [decide_eq_false_iff_not, List.cons_lt_cons_iff]; omega
      · rw [if_neg h2, ih]
        have n2 : ¬ y.toNat < x.toNat := h2
        have e : x.toNat = y.toNat := by omega
        show _ = decide (x.toNat :: nums a < y.toNat :: nums b)
        refine decide_eq_decide.mpr ?_
        rw [List.cons_lt_cons_iff, e]; simp
theorem order_gt : ∀ a b : List UInt8, (Builtin.Bytes.order a b == .gt) = decide (nums b < nums a)
  | [], [] => by simp [Builtin.Bytes.order, nums]
  | [], _ :: _ => by simp [Builtin.Bytes.order, nums]
  | _ :: _, [] => by simp [Builtin.Bytes.order, nums]
  | x :: a, y :: b => by
    simp only [Builtin.Bytes.order]
    have ih := order_gt a b
    by_cases h1 : x < y
    · have : x.toNat < y.toNat := h1
      rw [if_pos h1]
      symm
      show decide (y.toNat :: nums b < x.toNat :: nums a) = false
      rw [decide_eq_false_iff_not, List.cons_lt_cons_iff]; omega
    · rw [if_neg h1]
      have n1 : ¬ x.toNat < y.toNat := h1
      by_cases h2 : x > y
      · rw [if_pos h2]
        have n2 : y.toNat < x.toNat := h2
        symm
        show decide (y.toNat :: nums b < x.toNat :: nums a) = true
        rw [decide_eq_true_eq, List.cons_lt_cons_iff]; exact .inl n2
      · rw [if_neg h2, ih]
        have n2 : ¬ y.toNat < x.toNat := h2
        have e : x.toNat = y.toNat := by omega
        show _ = decide (y.toNat :: nums b < x.toNat :: nums a)
        refine decide_eq_decide.mpr ?_
        rw [List.cons_lt_cons_iff, e]; simp
set_option maxRecDepth 100000
theorem slot_bytes_lt : Slot "bytes" (cmpInfo .Lt).2.1 "bytes.__lt__" :=
  .of (owner := "bytes") (n := "__lt__") (by rw [typeLookup_type, builtinLookup_eq_fast]; kernel_rfl) (by decide +kernel) (by decide +kernel) (by decide +kernel)
    (by first | exact .inl (by decide +kernel) | exact .inr (by decide +kernel)) (by rw [isSubtype_type]; kernel_rfl)
theorem entry_bytes_lt : entryFor table "bytes.__lt__" = some Builtin.«bytes.__lt__» := entryFor_of_tree (by kernel_rfl)
theorem args_bytes_lt (a b : Value) : argsOk "bytes.__lt__" ⟨[a, b], []⟩ := by unfold argsOk; kernel_rfl
theorem slot_bytes_gt : Slot "bytes" (cmpInfo .Gt).2.1 "bytes.__gt__" :=
  .of (owner := "bytes") (n := "__gt__") (by rw [typeLookup_type, builtinLookup_eq_fast]; kernel_rfl) (by decide +kernel) (by decide +kernel) (by decide +kernel)
    (by first | exact .inl (by decide +kernel) | exact .inr (by decide +kernel)) (by rw [isSubtype_type]; kernel_rfl)
theorem entry_bytes_gt : entryFor table "bytes.__gt__" = some Builtin.«bytes.__gt__» := entryFor_of_tree (by kernel_rfl)
theorem args_bytes_gt (a b : Value) : argsOk "bytes.__gt__" ⟨[a, b], []⟩ := by unfold argsOk; kernel_rfl
theorem gives_bytes_lt (b c : Array UInt8) (t u : Tok) : Gives (Builtin.«bytes.__lt__» ⟨[.bytes b t, .bytes c u], []⟩) (.val (.bool (decide (nums b.toList < nums c.toList)))) := by
  refine .of_wp fun M A E s Q hq => ?_
  show wpAny M A (isInstance (.bytes c u) (.type "bytes") >>= fun r => _) _ E s
  refine wpAny_bind (wpAny_isInstance (typeIs_bytes s c u) F.sub_bytes_bytes ?_)
  exact wpAny_pure ⟨_, rfl, by rw [← order_lt] at hq; exact hq⟩
theorem gives_bytes_gt (b c : Array UInt8) (t u : Tok) : Gives (Builtin.«bytes.__gt__» ⟨[.bytes b t, .bytes c u], []⟩) (.val (.bool (decide (nums c.toList < nums b.toList)))) := by
  refine .of_wp fun M A E s Q hq => ?_
  show wpAny M A (isInstance (.bytes c u) (.type "bytes") >>= fun r => _) _ E s
  refine wpAny_bind (wpAny_isInstance (typeIs_bytes s c u) F.sub_bytes_bytes ?_)
  exact wpAny_pure ⟨_, rfl, by rw [← order_gt] at hq; exact hq⟩
theorem Cop.ltB : Cop prog w K z n .Lt (.bytes x) (.bytes y) (.bool (decide (nums x < nums y))) := by
  intro s A O v1 v2 E _ _ _ r1 r2; replace r1 := r1.inv; cases r1; replace r2 := r2.inv; cases r2
  exact compareOp_gives (op := .Lt) (typeIs_bytes s _ _) (typeIs_bytes s _ _) slot_bytes_lt entry_bytes_lt (args_bytes_lt _ _) (gives_bytes_lt _ _ _ _) (fun e => nomatch e) ⟨krefl s, .bool _⟩
theorem Cop.gtB : Cop prog w K z n .Gt (.bytes x) (.bytes y) (.bool (decide (nums y < nums x))) := by
  intro s A O v1 v2 E _ _ _ r1 r2; replace r1 := r1.inv; cases r1; replace r2 := r2.inv; cases r2
  exact compareOp_gives (op := .Gt) (typeIs_bytes s _ _) (typeIs_bytes s _ _) slot_bytes_gt entry_bytes_gt (args_bytes_gt _ _) (gives_bytes_gt _ _ _ _) (fun e => nomatch e) ⟨krefl s, .bool _⟩

theorem Tru.bool : Tru prog w z n (.bool p) p := by
  intro s A O v E _ r; replace r := r.inv; cases r; exact wpAny_truthy_bool ⟨rfl, krefl s⟩
theorem Tru.int : Tru prog w z n (.int a) (a != 0) := by
  intro s A O v E _ r; replace r := r.inv; cases r; exact PyProof.Rows.truthy_int ⟨rfl, krefl s⟩
theorem Tru.none : Tru prog w z n .none false := by
  intro s A O v E _ r; replace r := r.inv; cases r; exact wpAny_pure ⟨rfl, krefl s⟩

/-- is, is not: of two raw things -/
theorem Cop.is {u v : Value} (hp : plainIs u v = true) : Cop prog w K z n .Is (.raw u) (.raw v) (.bool (u == v)) := by
  intro s A O v1 v2 E _ _ _ r1 r2; replace r1 := r1.inv; cases r1; replace r2 := r2.inv; cases r2; exact wpAny_is_plain hp ⟨krefl s, .bool _⟩
theorem Cop.isNot {u v : Value} (hp : plainIs u v = true) : Cop prog w K z n .IsNot (.raw u) (.raw v) (.bool (!(u == v))) := by
  intro s A O v1 v2 E _ _ _ r1 r2; replace r1 := r1.inv; cases r1; replace r2 := r2.inv; cases r2; exact wpAny_isNot_plain hp ⟨krefl s, .bool _⟩
theorem Cop.isSelf {u : Addr} : Cop prog w K z n .Is (.raw (.ref u)) (.raw (.ref u)) (.bool true) := by
  intro s A O v1 v2 E _ _ _ r1 r2; replace r1 := r1.inv; cases r1; replace r2 := r2.inv; cases r2; exact wpAny_is_ref_self ⟨krefl s, .bool _⟩
theorem Cop.isNone {d : D} {r : Bool} (h : ∀ P h v, Rep P h v d → plainIs v .none = true ∧ (v == Value.none) = r) : Cop prog w K z n .Is d .none (.bool r) := by
  intro s A O v1 v2 E _ _ _ r1 r2; replace r2 := r2.inv; cases r2
  obtain ⟨h1, h2⟩ := h _ _ _ r1
  exact wpAny_is_plain h1 (by rw [h2]; exact ⟨krefl s, .bool _⟩)
theorem Cop.isNotNone {d : D} {r : Bool} (h : ∀ P h v, Rep P h v d → plainIs v .none = true ∧ (v == Value.none) = r) : Cop prog w K z n .IsNot d .none (.bool (!r)) := by
  intro s A O v1 v2 E _ _ _ r1 r2; replace r2 := r2.inv; cases r2
  obtain ⟨h1, h2⟩ := h _ _ _ r1
  exact wpAny_isNot_plain h1 (by rw [h2]; exact ⟨krefl s, .bool _⟩)
theorem none_none : ∀ P h v, Rep P h v .none → plainIs v .none = true ∧ (v == Value.none) = true := by
  intro P h v r; replace r := r.inv; cases r; exact ⟨rfl, rfl⟩
theorem bool_none {b : Bool} : ∀ P h v, Rep P h v (.bool b) → plainIs v .none = true ∧ (v == Value.none) = false := by
  intro P h v r; replace r := r.inv; cases r; exact ⟨rfl, rfl⟩
end

section
variable {prog : Program} {w : World} {K : Frag} {z : Bool} {n : Nat} {env : Env} {σ : Sto}
/-- a <= b <= c -/
theorem Tr.chain {l r1 r2 : Expr} {o1 o2 : CmpOp} {pos : Pos} {d d1 d2 : D} {b c : Bool} (hl : Ev prog w K z n env σ l d) (h1 : Ev prog w K z n env σ r1 d1) (h2 : Ev prog w K z n env σ r2 d2)
    (c1 : Cop prog w K z n o1 d d1 (.bool b)) (c2 : Cop prog w K z n o2 d1 d2 (.bool c)) (hm : lastMarks [o1, o2] [r1, r2] = false) : Tr prog w K z n env σ (.Compare l [o1, o2] [r1, r2] pos) (b && c) := by
  intro sE kp O ad s A E F R
  refine isTrue_chain (wpAny_mono (hl sE kp O ad s A E F R) (fun a s₁ ⟨k, ra⟩ => ?_) fun _ _ x => x) hm
  have F₁ := F.keeps k
  show wpAny _ _ (testChain pos a [o1, o2] [eval r1 env, eval r2 env]) _ _ _
  unfold testChain
  refine wpAny_bind (wpAny_holding (wpAny_mono (h1 sE kp O ad s₁ A E F₁ R) (fun v1 s₂ ⟨k1, rv1⟩ => ?_) fun _ _ x => x))
  have F₂ := F₁.keeps k1
  refine wpAny_bind (wpAny_standAt (wpAny_bind (wpAny_holding (wpAny_mono (c1 s₂ A O a v1 E F₂.base R F₂.domS (ra.keeps (kheap k1)) rv1) (fun v s₃ ⟨k2, rv⟩ => ?_) fun _ _ x => x))))
  replace rv := rv.inv; cases rv
  have F₃ := F₂.keeps k2
  refine wpAny_bind (wpAny_release (wpAny_bind (wpAny_holding (wpAny_truthy_bool ?_))))
  have kk := ktrans k (ktrans k1 k2)
  cases b with
  | false => exact wpAny_pure ⟨rfl, kk⟩
  | true =>
    show wpAny _ _ (testChain pos v1 [o2] [eval r2 env]) _ _ _
    unfold testChain
    refine wpAny_bind (wpAny_holding (wpAny_mono (h2 sE kp O ad s₃ A E F₃ R) (fun v2 s₄ ⟨k3, rv2⟩ => ?_) fun _ _ x => x))
    have F₄ := F₃.keeps k3
    refine wpAny_bind (wpAny_standAt (wpAny_bind (wpAny_operate' (wpAny_mono (c2 s₄ A O v1 v2 E F₄.base R F₄.domS ((rv1.keeps (kheap k2)).keeps (kheap k3)) rv2) (fun v s₅ ⟨k4, rv⟩ => ?_) fun _ _ x => x))))
    replace rv := rv.inv; cases rv
    exact wpAny_holding (wpAny_truthy_bool ⟨rfl, ktrans kk (ktrans k3 k4)⟩)
end
end
-- M9
section
set_option maxRecDepth 100000

section
variable {prog : Program} {w : World} {K : Frag} {n : Nat}

/-- a built-in of one argument -/
theorem Spec.one {f : Value} {d r : D} (h : ∀ (s : Shared) (A : Around) (O : Addr → Prop) (v : Value) (E : Value → Shared → Prop), Bs K s.heap → Room true n A → Dom O s → Rep O s.heap v d →
    wpAny (model prog w) A (call f [v]) (fun v s' => Keeps s s' ∧ Rep O s'.heap v r) E s) : Spec prog w K n f [d] [] r := by
  intro s A O vs ks E B R hd r1 r2
  replace r1 := r1.inv; cases r1 with | @cons v _ a r1 => replace r1 := r1.inv; cases r1; replace r2 := r2.inv; cases r2; exact h s A O v E B R hd a
theorem Spec.two {f : Value} {d e r : D} (h : ∀ (s : Shared) (A : Around) (O : Addr → Prop) (v u : Value) (E : Value → Shared → Prop), Bs K s.heap → Room true n A → Dom O s → Rep O s.heap v d → Rep O s.heap u e →
    wpAny (model prog w) A (call f [v, u]) (fun v s' => Keeps s s' ∧ Rep O s'.heap v r) E s) : Spec prog w K n f [d, e] [] r := by
  intro s A O vs ks E B R hd r1 r2
  replace r1 := r1.inv; cases r1 with | @cons v _ a r1 => replace r1 := r1.inv; cases r1 with | @cons u _ b r1 => replace r1 := r1.inv; cases r1; replace r2 := r2.inv; cases r2; exact h s A O v u E B R hd a b
theorem Spec.le {m : Nat} {f : Value} {ds : List D} {ks : List (Str × D)} {r : D} (h : Spec prog w K m f ds ks r) (hm : m ≤ n) : Spec prog w K n f ds ks r :=
  fun s A O vs kv E B R => h s A O vs kv E B (R.le hm)
theorem Spec.mono {f : Value} {ds : List D} {ks : List (Str × D)} {r r' : D} (h : Spec prog w K n f ds ks r) (e : r = r') : Spec prog w K n f ds ks r' := e ▸ h

theorem sp_typeBytes {l : List UInt8} : Spec prog w K n (.type "type") [.bytes l] [] (.raw (.type "bytes")) :=
  .one fun s A O v E _ _ _ r => by replace r := r.inv; cases r; exact call_type_of (Tx := "bytes") rfl (by decide +kernel) ⟨krefl s, .raw _⟩
theorem sp_typeBool {b : Bool} : Spec prog w K n (.type "type") [.bool b] [] (.raw (.type "bool")) :=
  .one fun s A O v E _ _ _ r => by replace r := r.inv; cases r; exact call_type_of (Tx := "bool") rfl (by decide +kernel) ⟨krefl s, .raw _⟩
theorem sp_typeInt {b : Int} : Spec prog w K n (.type "type") [.int b] [] (.raw (.type "int")) :=
  .one fun s A O v E _ _ _ r => by replace r := r.inv; cases r; exact call_type_of (Tx := "int") rfl (by decide +kernel) ⟨krefl s, .raw _⟩
theorem sp_lenBytes {l : List UInt8} (h : l.length ≤ 1000000) : Spec prog w K n (.builtin "len") [.bytes l] [] (.int l.length) :=
  .one fun s A O v E _ _ _ r => by replace r := r.inv; cases r; exact len_bytes (by simp; omega) ⟨ktoks s _, by simpa using Rep.int _ _⟩
theorem sp_lenList {ds : List D} (h : ds.length ≤ 1000000) : Spec prog w K n (.builtin "len") [.list ds] [] (.int ds.length) :=
  .one fun s A O v E _ _ _ r => by
    replace r := r.inv; cases r with
    | @list a vs m hO e r =>
      have hl := r.length
      refine Calls.call_len_list ⟨_, e, rfl, m, rfl⟩ (by simp; omega) ⟨ktoks s _, ?_⟩
      rw [show vs.toArray.size = ds.length from hl]; exact .int _ _
theorem ints_of {P : Addr → Prop} {h : Heap} : ∀ {vs : List Value} {ns : List Int}, Reps P h vs (ns.map D.int) → IntsAre vs ns := by
  intro vs ns
  induction ns generalizing vs with
  | nil => intro r; replace r := r.inv; cases r; exact .nil
  | cons k ns ih => intro r; replace r := r.inv; cases r with | cons a r => replace a := a.inv; cases a; exact .cons _ _ (ih r)
theorem reps_ints {P : Addr → Prop} {h : Heap} : ∀ {vs : List Value} {ns : List Int}, IntsAre vs ns → Reps P h vs (ns.map D.int)
  | _, _, .nil => .nil
  | _, _, .cons k t r => .cons (.int k t) (reps_ints r)
noncomputable def toBytes (ns : List Int) : List UInt8 := ns.map fun n => n.toNat.toUInt8
theorem sp_bytes {ns : List Int} (hr : ∀ k ∈ ns, 0 ≤ k ∧ k < 256) (hz : ns.length ≤ 1000000) : Spec prog w K n (.type "bytes") [.list (ns.map D.int)] [] (.bytes (toBytes ns)) :=
  .one fun s A O v E _ R _ r => by
    replace r := r.inv; cases r with
    | @list a vs m hO e r =>
      have hl := r.length
      rw [List.length_map] at hl
      refine call_bytes_ints ⟨_, e, rfl, m, rfl⟩ (ints_of r) hr (by rw [sizeLine_eq]; omega) (R.hand rfl) fun h' t k hk => ⟨⟨h', k, rfl, hk⟩, ?_⟩
      exact .bytes _ _
theorem sp_int {b : Int} : Spec prog w K n (.type "int") [.int b] [] (.int b) :=
  .one fun s A O v E _ _ _ r => by replace r := r.inv; cases r; exact call_int_int ⟨krefl s, .int _ _⟩
theorem sp_min {a b : Int} : Spec prog w K n (.builtin "min") [.int a, .int b] [] (.int (min a b)) :=
  .two fun s A O v u E _ R _ r1 r2 => by
    replace r1 := r1.inv; cases r1; replace r2 := r2.inv; cases r2
    refine min_two_ints (R.hand rfl) fun h' tk hk => ?_
    refine ⟨⟨h', tk, rfl, hk⟩, ?_⟩
    by_cases c : b < a
    · rw [if_pos c, show min a b = b by omega]; exact .int _ _
    · rw [if_neg c, show min a b = a by omega]; exact .int _ _
theorem sp_divmod {a b : Int} (h0 : b ≠ 0) (h1 : b.natAbs < 1073741824) : Spec prog w K n (.builtin "divmod") [.int a, .int b] [] (.tuple [.int (a.fdiv b), .int (a.fmod b)]) :=
  .two fun s A O v u E _ R hd r1 r2 => by
    replace r1 := r1.inv; cases r1; replace r2 := r2.inv; cases r2
    refine divmod_int h0 ⟨kpush s _ _, ?_⟩ (.inl (PyProof.noPylong_small h1))
    exact .tuple (vs := [.int (a.fdiv b) s.toks, .int (a.fmod b) (s.toks + 1)]) (n := 0) (dom_new hd) (Heap.get?_push_size _ rfl) (.cons (.int _ _) (.cons (.int _ _) .nil))
theorem sp_isBytes {l : List UInt8} {T : String} {b : Bool} (h : kitOne K (.type "bytes") (.type T) = some b) : Spec prog w K n (.builtin "isinstance") [.bytes l, .raw (.type T)] [] (.bool b) :=
  .two fun s A O v u E B R hd r1 r2 => by
    replace r1 := r1.inv; cases r1; replace r2 := r2.inv; cases r2
    exact kia_one kitx_bytes B.kin trivial h (fun e => nomatch e) fun tk => ⟨ktoks s _, .bool _⟩
theorem sp_isInt {l : Int} {T : String} {b : Bool} (h : kitOne K (.type "int") (.type T) = some b) : Spec prog w K n (.builtin "isinstance") [.int l, .raw (.type T)] [] (.bool b) :=
  .two fun s A O v u E B R hd r1 r2 => by
    replace r1 := r1.inv; cases r1; replace r2 := r2.inv; cases r2
    exact kia_one kitx_int B.kin trivial h (fun e => nomatch e) fun tk => ⟨ktoks s _, .bool _⟩
theorem sp_isBytesT {l : List UInt8} {tp : Addr} {its : List Value} {m : Nat} {b : Bool} (ht : K.lookup tp = some ⟨.type "tuple", none, .seq its.toArray m, #[]⟩) (h : kitAny K (.type "bytes") its = some b) : Spec prog w K n (.builtin "isinstance") [.bytes l, .raw (.ref tp)] [] (.bool b) :=
  .two fun s A O v u E B R hd r1 r2 => by
    replace r1 := r1.inv; cases r1; replace r2 := r2.inv; cases r2
    exact kia_tup kitx_bytes B.kin trivial (B.kin _ _ ht) h (fun e => nomatch e) fun tk => ⟨ktoks s _, .bool _⟩
end
theorem kpr_blt {K : Frag} {f : Value} (h : ∀ a, f ≠ .ref a) : ∀ h, Bs K h → Kpr f h := fun _ _ => .inl h
theorem kpr_fn {K : Frag} {a : Addr} {oc : Value} {od : Option Addr} {osl : Array (Option Value)} {fd : FuncData} (hf : K.lookup a = some ⟨oc, od, .func fd, osl⟩) : ∀ h, Bs K h → Kpr (.ref a) h :=
  fun _ B => .inr ⟨a, _, fd, rfl, B.kin _ _ hf, rfl⟩

section
variable {prog : Program} {w : World} {K : Frag} {z : Bool} {n : Nat} {env : Env} {σ : Sto}
theorem Bop.addL {ds es : List D} (h : ds.length + es.length ≤ 1000000) : Bop prog w K z n .Add (.list ds) (.list es) (.list (ds ++ es)) := by
  intro s A O v1 v2 E _ _ hd r1 r2
  replace r1 := r1.inv; cases r1 with
  | @list a vs m hO e r =>
    replace r2 := r2.inv; cases r2 with
    | @list b us k hO' e' r' =>
      have hl := r.length
      have hl' := r'.length
      refine P.add_list e e' ⟨kpush s _ _, ?_⟩ (by rw [sizeLine_eq]; simp; omega)
      have ee : vs.toArray ++ us.toArray = (vs ++ us).toArray := by simp
      rw [ee]
      exact .list (dom_new hd) (Heap.get?_push_size _ rfl) ((r.append r').keeps fun _ _ e => Heap.get?_push_of_some _ e)
end
end
-- M10
section
set_option maxRecDepth 100000
open PySem.SeqAt

theorem eqBytes {A : Around} {s : Shared} {x y : List UInt8} {t u : Tok} : EqAt A s (.bytes x.toArray t) (.bytes y.toArray u) (x == y) := fun prog w E Q h => by
  unfold eqBool
  refine wpAny_holding ?_
  refine wpAny_ite_split (fun hab => ?_) (fun _ => ?_)
  · have e := eq_of_beq hab
    injection e with e1 _
    have e2 : x = y := by simpa using e1
    subst e2
    refine wpAny_bind (wpAny_rule (wpAny_pure ?_))
    simpa using h
  · refine wpAny_bind (richCompare_gives (op := .Eq) (typeIs_bytes s _ _) (typeIs_bytes s _ _) FB.slot_bytes_eq FB.entry_bytes_eq (FB.args_bytes_eq_2 _ _) (gives_bytes_eq _ _ _ _) (fun e => nomatch e) (wpAny_truthy_bool h))
theorem eqInts {A : Around} {s : Shared} {x y : Int} {t u : Tok} : EqAt A s (.int x t) (.int y u) (x == y) := (PySem.MeetsSeq.EqGives.int x y t u).at A s

/-- lists of bytes and of ints, to a depth -/
inductive Flat : Nat → D → Prop
  | int (k : Nat) (i : Int) : Flat k (.int i)
  | bytes (k : Nat) (l : List UInt8) : Flat k (.bytes l)
  | list {k : Nat} {ds : List D} : (∀ d ∈ ds, Flat k d) → Flat (k + 1) (.list ds)

theorem all_true (k : Nat) : (List.range k).all (fun _ => true) = true := by simp
theorem eq_same {P : Addr → Prop} {s : Shared} : ∀ {k : Nat} {d : D} {A : Around} {v u : Value}, Flat k d → A.units + k < cLine → Rep P s.heap v d → Rep P s.heap u d → EqAt A s v u true := by
  intro k
  induction k with
  | zero =>
    intro d A v u hf hu r1 r2
    cases hf with
    | int _ i => replace r1 := r1.inv; cases r1 with | int t => replace r2 := r2.inv; cases r2 with | int t' => have := eqInts (A := A) (s := s) (x := i) (y := i) (t := t) (u := t'); rwa [beq_self_eq_true] at this
    | bytes _ l => replace r1 := r1.inv; cases r1 with | bytes t => replace r2 := r2.inv; cases r2 with | bytes t' => have := eqBytes (A := A) (s := s) (x := l) (y := l) (t := t) (u := t'); rwa [beq_self_eq_true] at this
  | succ k ih =>
    intro d A v u hf hu r1 r2
    cases hf with
    | int _ i => replace r1 := r1.inv; cases r1 with | int t => replace r2 := r2.inv; cases r2 with | int t' => have := eqInts (A := A) (s := s) (x := i) (y := i) (t := t) (u := t'); rwa [beq_self_eq_true] at this
    | bytes _ l => replace r1 := r1.inv; cases r1 with | bytes t => replace r2 := r2.inv; cases r2 with | bytes t' => have := eqBytes (A := A) (s := s) (x := l) (y := l) (t := t) (u := t'); rwa [beq_self_eq_true] at this
    | list hd =>
      replace r1 := r1.inv; cases r1 with
      | @list a vs m _ e r =>
        replace r2 := r2.inv; cases r2 with
        | @list b us m' _ e' r' =>
          by_cases hab : a = b
          · subst hab; exact EqAt.same _
          · have hl := r.length
            have hl' := r'.length
            have := RcAt.lists (A := A) (s := s) (e := fun _ => true) ⟨_, e, rfl, m, rfl⟩ ⟨_, e', rfl, m', rfl⟩ (by simp; omega) (by omega) (fun j h1 h2 => ?_)
            · rw [all_true] at this; exact EqAt.of_refs hab this
            · have g1 : vs[j]? = some vs.toArray[j] := by simp
              have g2 : us[j]? = some us.toArray[j] := by simp
              obtain ⟨d1, e1, rr1⟩ := r.get' g1
              obtain ⟨d2, e2, rr2⟩ := r'.get' g2
              rw [e1] at e2; cases e2
              exact ih (hd d1 (List.mem_of_getElem? e1)) (by show A.units + 1 + k < cLine; omega) rr1 rr2

section
variable {prog : Program} {w : World} {K : Frag} {z : Bool} {n : Nat} {env : Env} {σ : Sto}

theorem Room.small {z : Bool} {n : Nat} {A : Around} (R : Room z n A) {k : Nat} (hk : k ≤ 50) : A.units + k < cLine := by have := R.units; show A.units + k < 9900; omega

theorem Cop.sameL {ds : List D} {k : Nat} (hf : Flat k (.list ds)) (hk : k ≤ 50) : Cop prog w K z n .Eq (.list ds) (.list ds) (.bool true) := by
  intro s A O v1 v2 E _ R _ r1 r2
  cases hf with
  | @list k _ hd =>
    replace r1 := r1.inv; cases r1 with
    | @list a vs m _ e r =>
      replace r2 := r2.inv; cases r2 with
      | @list b us m' _ e' r' =>
        have hl := r.length
        have hl' := r'.length
        refine eq_listAt (e := fun _ => true) ⟨_, e, rfl, m, rfl⟩ ⟨_, e', rfl, m', rfl⟩ (by simp; omega) R.cl (fun j h1 h2 => ?_) (by rw [all_true]; exact ⟨krefl s, .bool _⟩)
        have g1 : vs[j]? = some vs.toArray[j] := by simp
        have g2 : us[j]? = some us.toArray[j] := by simp
        obtain ⟨d1, e1, rr1⟩ := r.get' g1
        obtain ⟨d2, e2, rr2⟩ := r'.get' g2
        rw [e1] at e2; cases e2
        exact eq_same (hd d1 (List.mem_of_getElem? e1)) (by have := R.small (k := k + 1) hk; show A.units + 1 + k < cLine; omega) rr1 rr2
theorem Cop.sameNe {ds : List D} {k : Nat} (hf : Flat k (.list ds)) (hk : k ≤ 50) : Cop prog w K z n .NotEq (.list ds) (.list ds) (.bool false) := by
  intro s A O v1 v2 E _ R _ r1 r2
  cases hf with
  | @list k _ hd =>
    replace r1 := r1.inv; cases r1 with
    | @list a vs m _ e r =>
      replace r2 := r2.inv; cases r2 with
      | @list b us m' _ e' r' =>
        have hl := r.length
        have hl' := r'.length
        have := RcNeAt.lists (A := A) (s := s) (e := fun _ => true) ⟨_, e, rfl, m, rfl⟩ ⟨_, e', rfl, m', rfl⟩ (by simp; omega) R.cl (fun j h1 h2 => ?_)
        · rw [all_true] at this
          exact this prog w E _ ⟨krefl s, .bool _⟩
        · have g1 : vs[j]? = some vs.toArray[j] := by simp
          have g2 : us[j]? = some us.toArray[j] := by simp
          obtain ⟨d1, e1, rr1⟩ := r.get' g1
          obtain ⟨d2, e2, rr2⟩ := r'.get' g2
          rw [e1] at e2; cases e2
          exact eq_same (hd d1 (List.mem_of_getElem? e1)) (by have := R.small (k := k + 1) hk; show A.units + 1 + k < cLine; omega) rr1 rr2
/-- xs == [] -/
theorem Cop.eqNil {ds : List D} : Cop prog w K z n .Eq (.list ds) (.list []) (.bool ds.isEmpty) := by
  intro s A O v1 v2 E _ R _ r1 r2
  replace r1 := r1.inv; cases r1 with
  | @list a vs m _ e r =>
    replace r2 := r2.inv; cases r2 with
    | @list b us m' _ e' r' =>
      replace r' := r'.inv; cases r'
      have hl := r.length
      cases ds with
      | nil =>
        replace r := r.inv; cases r
        refine eq_listAt (e := fun _ => true) ⟨_, e, rfl, m, rfl⟩ ⟨_, e', rfl, m', rfl⟩ rfl R.cl (fun j h1 h2 => absurd h1 (by simp)) ⟨krefl s, .bool _⟩
      | cons d ds =>
        refine eq_list_lengthsAt ⟨_, e, rfl, m, rfl⟩ ⟨_, e', rfl, m', rfl⟩ ?_ R.cl ⟨krefl s, .bool _⟩
        simp at hl ⊢
        intro q; rw [q] at hl; simp at hl

noncomputable def isB (x : List UInt8) : Value → Bool
  | .bytes b _ => b.toList == x
  | _ => false
theorem any_isB {P : Addr → Prop} {h : Heap} {x : List UInt8} : ∀ {vs : List Value} {ls : List (List UInt8)}, Reps P h vs (ls.map D.bytes) → vs.any (isB x) = ls.any (· == x) := by
  intro vs ls
  induction ls generalizing vs with
  | nil => intro r; replace r := r.inv; cases r; rfl
  | cons l ls ih => intro r; replace r := r.inv; cases r with | cons a r => replace a := a.inv; cases a; simp only [List.any_cons, ih r, isB]
theorem count_isB {P : Addr → Prop} {h : Heap} {x : List UInt8} : ∀ {vs : List Value} {ls : List (List UInt8)}, Reps P h vs (ls.map D.bytes) → vs.countP (isB x) = ls.count x := by
  intro vs ls
  induction ls generalizing vs with
  | nil => intro r; replace r := r.inv; cases r; rfl
  | cons l ls ih => intro r; replace r := r.inv; cases r with | cons a r => replace a := a.inv; cases a; simp only [List.countP_cons, List.count_cons, ih r, isB]; rfl
theorem isB_at {P : Addr → Prop} {s : Shared} {A : Around} {x : List UInt8} {u : Tok} {vs : List Value} {ls : List (List UInt8)} (r : Reps P s.heap vs (ls.map D.bytes)) {y : Value} (hy : y ∈ vs) : EqAt A s y (.bytes x.toArray u) (isB x y) := by
  obtain ⟨i, hi, e⟩ := List.getElem_of_mem hy
  obtain ⟨d, hd, rd⟩ := r.get' (List.getElem?_eq_some_iff.mpr ⟨hi, e⟩)
  rw [List.getElem?_map] at hd
  cases q : ls[i]? with
  | none => rw [q] at hd; cases hd
  | some l => rw [q] at hd; cases hd; replace rd := rd.inv; cases rd; exact eqBytes
theorem Cop.inB {x : List UInt8} {ls : List (List UInt8)} : Cop prog w K z n .In (.bytes x) (.list (ls.map D.bytes)) (.bool (ls.any (· == x))) := by
  intro s A O v1 v2 E _ R _ r1 r2
  replace r1 := r1.inv; cases r1
  replace r2 := r2.inv; cases r2 with
  | @list a vs m _ e r =>
    refine in_listAt (isB x) ⟨_, e, rfl, m, rfl⟩ (fun y hy => isB_at r (by simpa using hy)) ?_
    rw [List.any_toArray, any_isB r]
    exact ⟨krefl s, .bool _⟩
theorem Cop.notInB {x : List UInt8} {ls : List (List UInt8)} : Cop prog w K z n .NotIn (.bytes x) (.list (ls.map D.bytes)) (.bool (!ls.any (· == x))) := by
  intro s A O v1 v2 E _ R _ r1 r2
  replace r1 := r1.inv; cases r1
  replace r2 := r2.inv; cases r2 with
  | @list a vs m _ e r =>
    refine notIn_listAt (isB x) ⟨_, e, rfl, m, rfl⟩ (fun y hy => isB_at r (by simpa using hy)) ?_
    rw [List.any_toArray, any_isB r]
    exact ⟨krefl s, .bool _⟩

theorem Reps.flat {P : Addr → Prop} {h : Heap} {vs : List Value} {ds : List D} (r : Reps P h vs ds) : ∀ k : Nat, Reps P h (List.replicate k vs).flatten (List.replicate k ds).flatten
  | 0 => .nil
  | k + 1 => by rw [List.replicate_succ, List.flatten_cons, List.replicate_succ, List.flatten_cons]; exact r.append (r.flat k)
theorem Bop.mulL {ds : List D} {x : Int} (h0 : 0 ≤ x) (h1 : x ≤ 1000) (h2 : ds.length ≤ 100) : Bop prog w K z n .Mult (.list ds) (.int x) (.list (List.replicate x.toNat ds).flatten) := by
  intro s A O v1 v2 E _ _ hd r1 r2
  replace r2 := r2.inv; cases r2 with
  | int u =>
  replace r1 := r1.inv; cases r1 with
  | @list a vs m hO e r =>
    have hl := r.length
    have hx : x.toNat ≤ 1000 := by omega
    have hm : vs.length * x.toNat ≤ 100 * 1000 := Nat.mul_le_mul (by omega) hx
    refine wpAny_binaryOp_repeat_ref (T := "list") (U := "int") (by decide) ⟨_, e, rfl⟩ (fun s' => typeIs_int s' x u) noFill_list_mul F.fills_int_mul F.slot_int_rmul repeat_list F.slot_int_index.lookup
      (call_meets F.slot_int_rmul (typeIs_int s x u) F.entry_int_rmul (F.args_int_rmul_2 _ _) (lm_int_rmul_list_any x u a vs.toArray m none #[])
        ⟨e, rfl, ⟨_, e, rfl⟩, call_meets F.slot_list_mul ⟨_, e, rfl⟩ F.entry_list_mul (F.args_list_mul_2 _ _)
          (lm_list_mul_any a vs.toArray m none #[] x u (by simp [Builtin.List.listFitsIndex]; omega) (by simp; omega) (by simp [Builtin.List.listTooLong, sizeLine]; omega))
          ⟨e, ?_⟩⟩)
    rw [listMul_foldl_if]
    refine ⟨kpush s _ _, ?_⟩
    exact .list (dom_new hd) (Heap.get?_push_size _ rfl) ((r.flat _).keeps fun _ _ e => Heap.get?_push_of_some _ e)
theorem Tru.list {ds : List D} (h : ds.length ≤ 1000000) : Tru prog w z n (.list ds) (!ds.isEmpty) := by
  intro s A O v E _ r
  replace r := r.inv; cases r with
  | @list a vs m hO e r =>
    have hl := r.length
    refine wpAny_truthy_list ⟨_, e, rfl, m, rfl⟩ (by simp; omega) ⟨?_, ktoks s _⟩
    cases r <;> rfl
end
end
-- M11
section
set_option maxRecDepth 100000
open PySem.SeqAt

section
variable {prog : Program} {w : World} {K : Frag} {z : Bool} {n : Nat} {env : Env} {σ : Sto} {value slice : Expr}

theorem Sop.listItem {ds : List D} {k : Int} {d : D} (h0 : 0 ≤ k) (h1 : k < 2 ^ 63) (hd : ds[k.toNat]? = some d) (hs : ∀ o i, subscripted slice false o i = operate [o, i] (getItem o i)) : Sop prog w K z n value slice (.list ds) (.int k) d := by
  intro s A O v1 v2 E _ _ _ r1 r2
  replace r2 := r2.inv; cases r2 with
  | int u =>
  replace r1 := r1.inv; cases r1 with
  | @list a vs m hO e r =>
    obtain ⟨v, hv, rv⟩ := r.get hd
    have hL : s.heap.IsList a vs.toArray := ⟨_, e, rfl, m, rfl⟩
    exact tail_any hL.typeIs slot_list_getitem.lookup (wpAny_getItem_list hL h0 h1 (by simpa using hv) ⟨krefl s, rv⟩) (hs _ _)
theorem Sop.tupItem {ds : List D} {k : Int} {d : D} (h0 : 0 ≤ k) (h1 : k < 2 ^ 63) (hd : ds[k.toNat]? = some d) (hs : ∀ o i, subscripted slice false o i = operate [o, i] (getItem o i)) : Sop prog w K z n value slice (.tuple ds) (.int k) d := by
  intro s A O v1 v2 E _ _ _ r1 r2
  replace r2 := r2.inv; cases r2 with
  | int u =>
  replace r1 := r1.inv; cases r1 with
  | @tuple a vs m hO e r =>
    obtain ⟨v, hv, rv⟩ := r.get hd
    have hlt : k.toNat < vs.length := by
      rcases Nat.lt_or_ge k.toNat vs.length with h | h
      · exact h
      · rw [List.getElem?_eq_none h] at hv; cases hv
    refine item_tupleT (l := vs) (j := k.toNat) ⟨_, e, rfl, m, rfl⟩ (by omega) h1 ?_ hv ⟨krefl s, rv⟩ (hs _ _)
    have hn : ¬ k < 0 := by omega
    have hk : k < (vs.length : Int) := by omega
    simp [seqIndex?, hn, h0, hk]
theorem Sop.bytesItem {l : List UInt8} {k : Int} (h0 : 0 ≤ k) (h1 : k < l.length) (hz : l.length ≤ 1000000) (hs : ∀ o i, subscripted slice false o i = operate [o, i] (getItem o i)) : Sop prog w K z n value slice (.bytes l) (.int k) (.int ((l.getD k.toNat 0).toNat : Int)) := by
  intro s A O v1 v2 E _ _ _ r1 r2
  replace r2 := r2.inv; cases r2 with
  | int u =>
  replace r1 := r1.inv; cases r1 with
  | bytes t => exact tail_any (typeIs_bytes s _ t) FB.slot_bytes_getitem.lookup (getItem_bytes (by omega) h0 h1 ⟨ktoks s _, .int _ _⟩) (hs _ _)

theorem pick_from (vs : List Value) {k : Int} (h0 : 0 ≤ k) (h1 : k.toNat ≤ vs.length) : slicePick vs.toArray (some k) none none = (vs.drop k.toNat).toArray := by
  have e : k = ((k.toNat : Nat) : Int) := by omega
  have := slicePick_from vs.toArray k.toNat (by simpa using h1)
  rw [← e] at this
  simpa using this
theorem pick_upto (vs : List Value) (k : Nat) : slicePick vs.toArray none (some (k : Int)) none = (vs.take k).toArray := by
  by_cases h : k ≤ vs.length
  · rw [slicePick_upto vs.toArray k (by simpa using h)]
  · have e1 : sliceBounds none (some (k : Int)) none vs.toArray.size = sliceBounds none none none vs.toArray.size := by
      simp only [sliceBounds, Option.getD_none]
      have h2 : ¬ ((k : Int) < 0) := by omega
      simp only [h2, if_false, show (1 : Int) > 0 by decide, if_true]
      congr 2
      simp; omega
    have : slicePick vs.toArray none (some (k : Int)) none = slicePick vs.toArray none none none := by unfold slicePick; rw [e1]
    rw [this, slicePick_all, List.take_of_length_le (by omega)]
/-- xs[e:] -/
theorem Ev.sliceFrom {x : Str} {px p pos : Pos} {e : Expr} {ds : List D} {k : Int} (hv : Ev prog w K z n env σ (.Name x px) (.list ds)) (he : Ev prog w K z n env σ e (.int k)) (h0 : 0 ≤ k) (h1 : k.toNat ≤ ds.length) (hz : ds.length ≤ 1000000) :
    Ev prog w K z n env σ (.Subscript (.Name x px) (.Slice (some e) Option.none Option.none p) pos) (.list (ds.drop k.toNat)) := by
  intro sE kp O ad s A E F R
  refine wpAny_Subscript_list_slice (wpAny_mono (hv sE kp O ad s A E F R) (fun v s₁ ⟨k1, r1⟩ => ?_) fun _ _ x => x)
  refine wpAny_evalPart_some (wpAny_mono (he sE kp O ad s₁ A E (F.keeps k1) R) (fun u s₂ ⟨k2, r2⟩ => wpAny_evalPart_none ?_) fun _ _ x => x)
  have F2 := (F.keeps k1).keeps k2
  replace r2 := r2.inv; cases r2 with
  | int t =>
  replace r1 := r1.inv; cases r1 with
  | @list a vs m hO e r =>
    have hl := r.length
    refine ⟨a, vs.toArray, some k, Option.none, rfl, ⟨_, kheap k2 _ _ e, rfl, m, rfl⟩, by rw [sizeLine_eq]; simp; omega, .int _ _, .none, ?_⟩
    rw [pick_from vs h0 (by omega)]
    have kA : Keeps s₂ { s₂ with heap := s₂.heap.push { cls := .type "slice", data := .fields #[.int k t, .none, .none] } } := kpush s₂ _ _
    have kB := kpush { s₂ with heap := s₂.heap.push { cls := .type "slice", data := .fields #[.int k t, .none, .none] } } { cls := .type "list", data := .seq (vs.drop k.toNat).toArray } s₂.toks
    have k3 := ktrans kA kB
    refine ⟨ktrans k1 (ktrans k2 k3), ?_⟩
    have hn : ¬ O (s₂.heap.objs.size + 1) := fun q => by
      obtain ⟨o, e⟩ := F2.domS _ q
      exact absurd (Heap.lt_size e) (Nat.not_lt.mpr (Nat.le_succ _))
    refine .list (n := 0) hn ?_ ((r.drop k.toNat).keeps fun b o e => kheap k3 _ _ (kheap k2 _ _ e))
    have := Heap.get?_push_size (s₂.heap.push { cls := .type "slice", data := .fields #[.int k t, .none, .none] }) (o := { cls := .type "list", data := .seq (vs.drop k.toNat).toArray }) rfl
    rw [Heap.size_push] at this
    exact this
/-- xs[:k] -/
theorem Ev.sliceUpto {x : Str} {px p pos : Pos} {e : Expr} {ds : List D} {k : Nat} (hv : Ev prog w K z n env σ (.Name x px) (.list ds)) (he : Ev prog w K z n env σ e (.int k)) (hz : ds.length ≤ 1000000) :
    Ev prog w K z n env σ (.Subscript (.Name x px) (.Slice Option.none (some e) Option.none p) pos) (.list (ds.take k)) := by
  intro sE kp O ad s A E F R
  refine wpAny_Subscript_list_slice (wpAny_mono (hv sE kp O ad s A E F R) (fun v s₁ ⟨k1, r1⟩ => ?_) fun _ _ x => x)
  refine wpAny_evalPart_none (wpAny_evalPart_some (wpAny_mono (he sE kp O ad s₁ A E (F.keeps k1) R) (fun u s₂ ⟨k2, r2⟩ => ?_) fun _ _ x => x))
  have F2 := (F.keeps k1).keeps k2
  replace r2 := r2.inv; cases r2 with
  | int t =>
  replace r1 := r1.inv; cases r1 with
  | @list a vs m hO e r =>
    have hl := r.length
    refine ⟨a, vs.toArray, Option.none, some (k : Int), rfl, ⟨_, kheap k2 _ _ e, rfl, m, rfl⟩, by rw [sizeLine_eq]; simp; omega, .none, .int _ _, ?_⟩
    rw [pick_upto vs k]
    have kA : Keeps s₂ { s₂ with heap := s₂.heap.push { cls := .type "slice", data := .fields #[.none, .int k t, .none] } } := kpush s₂ _ _
    have kB := kpush { s₂ with heap := s₂.heap.push { cls := .type "slice", data := .fields #[.none, .int k t, .none] } } { cls := .type "list", data := .seq (vs.take k).toArray } s₂.toks
    have k3 := ktrans kA kB
    refine ⟨ktrans k1 (ktrans k2 k3), ?_⟩
    have hn : ¬ O (s₂.heap.objs.size + 1) := fun q => by
      obtain ⟨o, e⟩ := F2.domS _ q
      exact absurd (Heap.lt_size e) (Nat.not_lt.mpr (Nat.le_succ _))
    refine .list (n := 0) hn ?_ ((r.take k).keeps fun b o e => kheap k3 _ _ (kheap k2 _ _ e))
    have := Heap.get?_push_size (s₂.heap.push { cls := .type "slice", data := .fields #[.none, .int k t, .none] }) (o := { cls := .type "list", data := .seq (vs.take k).toArray }) rfl
    rw [Heap.size_push] at this
    exact this

/-- a method of a plain value: o.m(args) -/
theorem Ev.meth {o : Expr} {name : Str} {apos pos : Pos} {args : List Expr} {T id : String} {d r : D} {ds : List D} (ho : Ev prog w K true (n + 1) env σ o d) (ha : Evs prog w K true (n + 1) env σ args ds)
    (hT : ∀ (P : Addr → Prop) (s : Shared) (v : Value), Rep P s.heap v d → s.TypeIs v T ∧ ∀ a, v = .ref a → ∃ ob, s.heap.get? a = some ob ∧ ob.dict = Option.none)
    (hbase : attributeBase o name env (eval o env) = eval o env) (hfew : args.length < 20) (hline : (apos.endLine == pos.line) = true) (pa : PlainAttrs T) (slot : Slot T name id) (hty : typeOf (.builtin id) = pure (.type "method_descriptor"))
    (hs : Spec prog w K n (.builtin id) (d :: ds) [] r) : Ev prog w K true (n + 1) env σ (.Call (.Attribute o name apos) args [] pos) r := by
  intro sE kp O ad s A E F R
  have hst := (ha sE kp O ad s A E pos F R).1
  refine wpAny_Call_method hbase ?_ hline pa slot hty (wpAny_mono (ho sE kp O ad s A E F R) (fun v s₁ ⟨k, r1⟩ => ?_) fun _ _ x => x)
  · have h1 : (backTo pos (starEach args env)).all (fun x => !x.1) = true := by
      rw [List.all_eq_true]; intro x hx; rw [hst x hx]; rfl
    rw [h1]
    show (true && true && decide (args.length + 0 + 0 < 30)) = true
    simp; omega
  obtain ⟨t1, t2⟩ := hT _ _ _ r1
  refine ⟨t1, t2, ?_⟩
  have F1 := F.keeps k
  have h1 := ha sE kp O ad s₁ A E pos F1 R
  refine callWith_g h1.1 rfl (wpAny_mono h1.2 (fun vs s₂ ⟨k2, r2⟩ => ?_) fun _ _ x => x)
  refine wpAny_evalAll_nil ⟨.inl fun a => nofun, ?_⟩
  have F2 := F1.keeps k2
  exact wpAny_mono (hs s₂ A O (v :: vs) [] E F2.base (R.le (Nat.le_succ n)) F2.domS (.cons (r1.keeps (kheap k2)) r2) .nil) (fun v s₄ ⟨k4, r4⟩ => ⟨ktrans k (ktrans k2 k4), r4⟩) fun _ _ x => x
theorem typ_bytes {l : List UInt8} : ∀ (P : Addr → Prop) (s : Shared) (v : Value), Rep P s.heap v (.bytes l) → s.TypeIs v "bytes" ∧ ∀ a, v = .ref a → ∃ ob, s.heap.get? a = some ob ∧ ob.dict = Option.none := by
  intro P s v r; replace r := r.inv; cases r; exact ⟨rfl, fun a e => nomatch e⟩
theorem typ_str {l : Str} : ∀ (P : Addr → Prop) (s : Shared) (v : Value), Rep P s.heap v (.str l) → s.TypeIs v "str" ∧ ∀ a, v = .ref a → ∃ ob, s.heap.get? a = some ob ∧ ob.dict = Option.none := by
  intro P s v r; replace r := r.inv; cases r; exact ⟨rfl, fun a e => nomatch e⟩
theorem typ_list {l : List D} : ∀ (P : Addr → Prop) (s : Shared) (v : Value), Rep P s.heap v (.list l) → s.TypeIs v "list" ∧ ∀ a, v = .ref a → ∃ ob, s.heap.get? a = some ob ∧ ob.dict = Option.none := by
  intro P s v r
  replace r := r.inv; cases r with
  | list _ e _ => exact ⟨⟨_, e, rfl⟩, fun a q => by cases q; exact ⟨_, e, rfl⟩⟩
theorem sp_count {ls : List (List UInt8)} {x : List UInt8} : Spec prog w K n (.builtin "list.count") [.list (ls.map D.bytes), .bytes x] [] (.int (ls.count x : Nat)) :=
  .two fun s A O v u E _ _ _ r1 r2 => by
    replace r2 := r2.inv; cases r2 with
    | bytes t =>
    replace r1 := r1.inv; cases r1 with
    | @list a vs m _ e r =>
      refine call_meets PySem.F.slot_list_count ⟨_, e, rfl⟩ PySem.F.entry_list_count (PySem.F.args_list_count_2 _ _) (list_countAt a vs.toArray m Option.none #[] _ (isB x)) ⟨e, fun y hy => isB_at r (by simpa using hy), ?_⟩
      rw [show (vs.toArray.toList) = vs by simp, count_isB r]
      exact ⟨ktoks s _, .int _ _⟩
end
end
-- M12
section
set_option maxRecDepth 100000
open PySem.SeqAt

noncomputable def cenvOf (scope : Scope) (cl : List (Str × Addr)) (C : Addr) (env : Env) : Env :=
  { scope := relabel scope env, locals := C, globals := env.globals, cells := cellsFrom (C + 1) scope.names cl, qual := env.qual, func := none, code := env.code, frame := env.frame, builtins := env.builtins }

theorem pushCells_size : ∀ (names : List (Str × NameKind)) (h : Heap), h.objs.size ≤ (pushCells h names).objs.size
  | [], _ => Nat.le_refl _
  | (_, k) :: r, h => by
    unfold pushCells
    split
    · exact Nat.le_trans (by rw [Heap.size_push]; exact Nat.le_succ _) (pushCells_size r _)
    · exact pushCells_size r h

/-- where the block's own cells lie -/
theorem cellsFrom_new : ∀ (names : List (Str × NameKind)) (h : Heap) (cl : List (Str × Addr)) (x : Str) (c : Addr), (cellsFrom h.objs.size names cl).lookup x = some c →
    cl.lookup x = some c ∨ (h.objs.size ≤ c ∧ (pushCells h names).IsCell c none)
  | [], _, _, _, _, e => .inl e
  | (y, k) :: r, h, cl, x, c, e => by
    unfold cellsFrom at e
    unfold pushCells
    split at e
    · rename_i hk
      rw [if_pos hk]
      have := cellsFrom_new r (h.push { cls := .type "cell", data := .cell none }) ((y, h.objs.size) :: cl) x c (by rw [Heap.size_push]; exact e)
      rcases this with q | ⟨q1, q2⟩
      · rw [List.lookup_cons] at q
        split at q
        · cases q
          exact .inr ⟨Nat.le_refl _, _, pushCells_keeps _ _ _ _ (Heap.get?_push_size _ rfl), rfl⟩
        · exact .inl q
      · rw [Heap.size_push] at q1
        exact .inr ⟨by omega, q2⟩
    · rename_i hk
      rw [if_neg hk]
      exact cellsFrom_new r h cl x c e

theorem newEnv_comp {M : Model} {A : Around} {E : Value → Shared → Prop} {s : Shared} {scope : Scope} {cl : List (Str × Addr)} {env : Env} {Q : Env → Shared → Prop}
    (h : Q { cenvOf scope cl s.heap.objs.size env with scope := scope } { s with heap := pushCells (s.heap.push { cls := .type "dict", data := .dict #[] }) scope.names }) :
    wpAny M A (newFunctionEnv scope env.globals cl [] env.qual none .none (some env)) Q E s := by
  simp only [newFunctionEnv, Option.isSome_some, if_true]
  refine wpAny_bind (wpAny_alloc ?_)
  refine wpAny_bind (wpAny_layCells _ (fun name kind cells => by cases hkc : kind == NameKind.cell <;> simp) _ _ _ _ ?_)
  rw [show ({ s with heap := s.heap.push { cls := .type "dict", data := .dict #[] } } : Shared).heap.objs.size = s.heap.objs.size + 1 from Heap.size_push ..]
  refine wpAny_bind ?_
  rw [List.forIn_nil]
  exact wpAny_pure (wpAny_pure h)

/-- a name of the outer block that the inner one sees through its cells -/
noncomputable def Seen (env cenv : Env) (y : Str) : Prop :=
  (env.kindOf y = some .cell ∨ (env.kindOf y = some .free ∧ (y == ("__classdict__" : Str)) = false)) ∧ (cenv.kindOf y = some .cell ∨ (cenv.kindOf y = some .free ∧ (y == ("__classdict__" : Str)) = false)) ∧ cenv.cells.lookup y = env.cells.lookup y
theorem Seen.var {env cenv : Env} {y : Str} (h : Seen env cenv y) {hp : Heap} {v : Value} (V : VarIs env hp y v) : VarIs cenv hp y v := by
  obtain ⟨h1, h2, h3⟩ := h
  rcases V with ⟨k, _⟩ | ⟨_, c, l, e⟩
  · rcases h1 with h1 | ⟨h1, _⟩ <;> (rw [h1] at k; cases k)
  · exact .inr ⟨h2, c, by rw [h3]; exact l, e⟩

section
variable {prog : Program} {w : World} {K : Frag} {n : Nat}

/-- the tests of a comprehension -/
noncomputable def Tests (prog : Program) (w : World) (K : Frag) (n : Nat) (env : Env) (σ : Sto) (ifs : List Expr) (b : Bool) : Prop :=
  ∀ (sE : Shared) (kp : Kpt) (O : Addr → Prop) (ad : Str → Addr) (s : Shared) (A : Around) (E : Value → Shared → Prop), FR K sE kp O env σ ad s → Room true n A →
    wpAny (model prog w) A (forIn ifs true fun c r => if r = true then do let ok ← isTrue c env (eval c env); pure (ForInStep.yield ok) else pure (ForInStep.yield r)) (fun c s' => c = b ∧ Keeps s s') E s
theorem Tests.nil {env : Env} {σ : Sto} : Tests prog w K n env σ [] true := by
  intro sE kp O ad s A E F R
  rw [List.forIn_nil]
  exact wpAny_pure ⟨rfl, krefl s⟩
theorem Tests.one {env : Env} {σ : Sto} {c : Expr} {b : Bool} (h : Tr prog w K true n env σ c b) : Tests prog w K n env σ [c] b := by
  intro sE kp O ad s A E F R
  rw [List.forIn_cons]
  simp only [if_true]
  refine wpAny_bind (wpAny_bind (wpAny_mono (h sE kp O ad s A E F R) (fun c' s₁ ⟨e, k⟩ => wpAny_pure ?_) fun _ _ x => x))
  show wpAny _ _ (forIn [] c' _) _ _ _
  rw [List.forIn_nil]
  exact wpAny_pure ⟨e, k⟩

/-- what a comprehension walks over: the items may be lists -/
noncomputable def ItrE (prog : Program) (w : World) (K : Frag) (n : Nat) (env : Env) (σ : Sto) (iter : Expr) (ds : List D) : Prop :=
  ∀ (sE : Shared) (kp : Kpt) (O : Addr → Prop) (ad : Str → Addr) (s : Shared) (A : Around) (E : Value → Shared → Prop), FR K sE kp O env σ ad s → Room true n A →
    wpAny (model prog w) A (eval iter env) (fun x s₁ => wpAny (model prog w) A (pyIter x) (fun it s₂ => ∃ I fp wr P St, it = Value.ref I ∧ Walks prog w A I fp wr ds.length P St ∧ Keeps s s₂ ∧ St 0 s₂.heap ∧
      (∀ i h, St i h → ∀ b ∈ wr, ∃ o, h.get? b = some o ∧ notFrame o = true ∧ isSeq o = false) ∧ (∀ b ∈ fp, ∃ o, s₂.heap.get? b = some o) ∧ (∀ b ∈ wr, s.heap.get? b = none) ∧
      (∀ i v, P i v → ∃ d, ds[i]? = some d ∧ Rep O s₂.heap v d)) E s₁) E s

structure CompFacts (prog : Program) (w : World) (K : Frag) (n : Nat) (env : Env) (scope : Scope) (cl : List (Str × Addr)) (σ σf : Sto) (x : Str) (ifs : List Expr) (elt : Expr) (ds : List D) (p : D → Bool) (r : D → D) : Prop where
  kind : scope.kind = .function
  stor : ∀ C, Storable (cenvOf scope cl C env) x
  own : ∀ C c, (cenvOf scope cl C env).kindOf x = some .cell → (cenvOf scope cl C env).cells.lookup x = some c → cl.lookup x = none
  free : ∀ C y pv, σf.lookup y = some pv → σ.lookup y = some pv ∧ (∃ d, pv = .v d) ∧ Seen env (cenvOf scope cl C env) y ∧ y ≠ x
  tests : ∀ C d, d ∈ ds → Tests prog w K n (cenvOf scope cl C env) ((x, .v d) :: σf) ifs (p d)
  elt : ∀ C d, d ∈ ds → p d = true → Ev prog w K true n (cenvOf scope cl C env) ((x, .v d) :: σf) elt (r d)

variable {env : Env} {σ σf : Sto} {scope : Scope} {cl : List (Str × Addr)} {x : Str} {px pos : Pos} {ifs : List Expr} {elt iter : Expr} {ds : List D} {p : D → Bool} {r : D → D}

theorem comp_block (cf : CompFacts prog w K n env scope cl σ σf x ifs elt ds p r) (hz : ds.length ≤ 1000000) {sE : Shared} {kp : Kpt} {O : Addr → Prop} {ad : Str → Addr} {s s₂ : Shared} {A : Around} {E : Value → Shared → Prop}
    (F : FR K sE kp O env σ ad s) (R : Room true n A) (k : Keeps s s₂) {I : Addr} {fp wr : List Addr} {P : Nat → Value → Prop} {St : Nat → Heap → Prop} (Wk : Walks prog w A I fp wr ds.length P St) (hst : St 0 s₂.heap)
    (hwr : ∀ i h, St i h → ∀ b ∈ wr, ∃ o, h.get? b = some o ∧ notFrame o = true ∧ isSeq o = false) (hfp : ∀ b ∈ fp, ∃ o, s₂.heap.get? b = some o) (hwn : ∀ b ∈ wr, s.heap.get? b = none)
    (hP : ∀ i v, P i v → ∃ d, ds[i]? = some d ∧ Rep O s₂.heap v d) {RR : Value → Addr → Result → Shared → Prop}
    (hRR : ∀ Dd C h' tk m ys k', s₂.heap.get? Dd = none → s₂.heap.get? C = none → Dd ≠ C → h'.Ns C m → h'.get? Dd = some (lobj ys k') → Reps (fun a => O a ∨ a = Dd) h' ys ((ds.filter p).map r) →
      (∀ b o, s.heap.get? b = some o → h'.get? b = some o) → RR (.ref Dd) C (.ok .next) { s₂ with heap := h', toks := tk }) :
    wpAny (model prog w) A (newList []) (fun acc s₃ => wpAny (model prog w) A (newFunctionEnv scope env.globals cl [] env.qual none .none (some env)) (fun cenv s₄ =>
      codeAny (model prog w) A (.compStart (.ListComp elt [⟨.Name x px, iter, ifs, 0⟩] scope pos) 0 (.ref I) acc { cenv with scope := relabel scope env }) (RR acc cenv.locals) s₄) E s₃) E s₂ := by
  refine wpAny_newList ?_ (by simp)
  refine newEnv_comp ?_
  dsimp only
  generalize hH1 : s₂.heap.push { cls := .type "list", data := .seq ([] : List Value).toArray } = h₁
  generalize hH2 : pushCells (h₁.push { cls := .type "dict", data := .dict #[] }) scope.names = h₂
  have hC : h₁.objs.size = s₂.heap.objs.size + 1 := by rw [← hH1, Heap.size_push]
  show codeAny _ _ (.compStart _ 0 _ _ (cenvOf scope cl h₁.objs.size env)) (RR _ h₁.objs.size) _
  have hDn : s₂.heap.get? s₂.heap.objs.size = none := none_size _
  have new : ∀ a, s₂.heap.objs.size ≤ a → s₂.heap.get? a = none := fun a ha => by
    cases e : s₂.heap.get? a with
    | none => rfl
    | some o => exact absurd (Heap.lt_size e) (Nat.not_lt.mpr ha)
  have hCn : s₂.heap.get? h₁.objs.size = none := new _ (by rw [hC]; exact Nat.le_succ _)
  have hDC : s₂.heap.objs.size ≠ h₁.objs.size := by rw [hC]; exact Nat.ne_of_lt (Nat.lt_succ_self _)
  have old₁ : ∀ b o, h₁.get? b = some o → h₂.get? b = some o := fun b o e => by rw [← hH2]; exact pushCells_keeps _ _ b o (Heap.get?_push_of_some _ e)
  have old : ∀ b o, s₂.heap.get? b = some o → h₂.get? b = some o := fun b o e => old₁ b o (by rw [← hH1]; exact Heap.get?_push_of_some _ e)
  have hD₂ : h₂.get? s₂.heap.objs.size = some (lobj [] 0) := old₁ _ _ (by rw [← hH1]; exact Heap.get?_push_size _ rfl)
  have hns₂ : h₂.Ns h₁.objs.size (fun _ => none) := by
    have := (Heap.Ns.new h₁ (.type "dict")).keeps (h' := h₂) (fun b o e => by rw [← hH2]; exact pushCells_keeps _ _ b o e)
    exact this
  generalize hce : cenvOf scope cl h₁.objs.size env = cenv
  have hcl : cenv.locals = h₁.objs.size := by rw [← hce]; rfl
  have hcell : ∀ c, cenv.kindOf x = some .cell → cenv.cells.lookup x = some c → s₂.heap.get? c = none ∧ ∃ v, h₂.IsCell c v := fun c hk hc => by
    rw [← hce] at hk hc
    have ho := cf.own _ c hk hc
    have hs1 : (h₁.push { cls := .type "dict", data := .dict #[] }).objs.size = h₁.objs.size + 1 := Heap.size_push ..
    have := cellsFrom_new scope.names (h₁.push { cls := .type "dict", data := .dict #[] }) cl x c (by rw [hs1]; exact hc)
    rcases this with q | ⟨q1, q2⟩
    · rw [ho] at q; cases q
    · rw [hs1] at q1
      exact ⟨new c (by omega), none, by rw [← hH2]; exact q2⟩
  have hkd : cenv.scope.kind = .function := by rw [← hce]; exact cf.kind
  have hstor : Storable cenv x := by rw [← hce]; exact cf.stor _
  let P' : Addr → Prop := fun a => O a ∨ a = s₂.heap.objs.size
  have wr₂ : ∀ b ∈ wr, ∃ o, s₂.heap.get? b = some o ∧ notFrame o = true ∧ isSeq o = false := fun b hb => hwr 0 _ hst b hb
  have loop : ∀ s₃ : Shared, s₃ = { s₂ with heap := h₂ } → codeAny (model prog w) A (.compLoop (.ListComp elt [⟨.Name x px, iter, ifs, 0⟩] scope pos) 0 (.ref I) (.ref s₂.heap.objs.size) cenv) (RR (.ref s₂.heap.objs.size) h₁.objs.size) s₃ := by
    rintro s₃ rfl
    refine codeAny_compLoop_tests (fun m s' => ∃ i h tk ys k', m = ds.length - i ∧ i ≤ ds.length ∧ s' = { s₂ with heap := h, toks := tk } ∧ St i h ∧ (∃ m, h.Ns cenv.locals m) ∧
      (∀ c, cenv.kindOf x = some .cell → cenv.cells.lookup x = some c → ∃ v, h.IsCell c v) ∧ h.get? s₂.heap.objs.size = some (lobj ys k') ∧ Reps P' h ys (((ds.take i).filter p).map r) ∧
      (∀ b o, b ∉ wr → s₂.heap.get? b = some o → h.get? b = some o)) ?_ ds.length
      ⟨0, h₂, s₂.toks, [], 0, rfl, Nat.zero_le _, rfl, Wk.frame _ _ _ hst fun b _ o e => old b o e, ⟨_, hcl ▸ hns₂⟩, fun c a b => (hcell c a b).2, hD₂, .nil, fun b o _ e => old b o e⟩
    rintro m s' ⟨i, h, tk, ys, k', rfl, hile, rfl, hsti, ⟨mC, hmC⟩, hcl', hDi, hys, hkp⟩
    have hlen : ys.length ≤ ds.length := by
      have e1 := hys.length
      rw [List.length_map] at e1
      have e2 : ((ds.take i).filter p).length ≤ (ds.take i).length := List.length_filter_le _ _
      have e3 : (ds.take i).length ≤ ds.length := by rw [List.length_take]; omega
      omega
    by_cases hlt : i < ds.length
    · refine Wk.item i _ _ _ hlt hsti fun v h₃ tk₃ hPv hst₃ hk₃ => ?_
      obtain ⟨d, hd, rd⟩ := hP i v hPv
      have hdm : d ∈ ds := List.mem_of_getElem? hd
      have wri : ∀ b ∈ wr, ∃ o, h.get? b = some o ∧ notFrame o = true ∧ isSeq o = false := fun b hb => hwr i _ hsti b hb
      have hCw : cenv.locals ∉ wr := fun q => by
        obtain ⟨o, e, nf, _⟩ := wri _ q
        rw [ns_frame hmC e] at nf; cases nf
      have hDw : s₂.heap.objs.size ∉ wr := fun q => by
        obtain ⟨o, e, _⟩ := wr₂ _ q
        rw [hDn] at e; cases e
      have hmC₃ : h₃.Ns cenv.locals mC := hmC.at' fun o e => hk₃ _ o hCw e
      have hD₃ : h₃.get? s₂.heap.objs.size = some (lobj ys k') := hk₃ _ _ hDw hDi
      have hkp₃ : ∀ b o, b ∉ wr → s₂.heap.get? b = some o → h₃.get? b = some o := fun b o hb e => hk₃ b o hb (hkp b o hb e)
      have hcl₃ : ∀ c, cenv.kindOf x = some .cell → cenv.cells.lookup x = some c → ∃ v, h₃.IsCell c v := fun c a b => by
        obtain ⟨u, hu⟩ := hcl' c a b
        obtain ⟨o, e, hdat⟩ := id hu
        refine ⟨u, o, hk₃ c o (fun q => ?_) e, hdat⟩
        obtain ⟨o', e', nf, _⟩ := wri _ q
        rw [cell_frame hu e'] at nf; cases nf
      have hys₃ : Reps P' h₃ ys (((ds.take i).filter p).map r) := hys.mono (fun _ q => q) fun a o _ e q => hk₃ a o (fun hm => by
        obtain ⟨o', e', _, ns⟩ := wri _ hm
        rw [e] at e'; cases e'; rw [q] at ns; cases ns) e
      -- the name is stored
      have stored : ∀ (Q : Unit → Shared → Prop) (E' : Value → Shared → Prop), (∀ h₄ tk₄ a₀, Heap.SameBut a₀ h₃ h₄ → s₂.heap.get? a₀ = none → a₀ ≠ s₂.heap.objs.size → (∀ o, h₃.get? a₀ = some o → isSeq o = false) → VarIs cenv h₄ x v → (∃ m, h₄.Ns cenv.locals m) →
          (∀ c, cenv.kindOf x = some .cell → cenv.cells.lookup x = some c → ∃ v, h₄.IsCell c v) → Q () { s₂ with heap := h₄, toks := tk₄ }) → wpAny (model prog w) A (storeName cenv x v) Q E' { s₂ with heap := h₃, toks := tk₃ } := by
        intro Q E' hq
        rcases hstor with hk | ⟨hk, c, hc⟩
        · refine wpAny_storeName_local hk hmC₃ (fun h₄ hn hs => hq h₄ _ cenv.locals hs (hcl ▸ hCn) (hcl ▸ Ne.symm hDC) (fun o e => ns_notSeq hmC₃ e) (.inl ⟨hk, _, hn, by simp⟩) ⟨_, hn⟩ fun c a b => ?_) (by rw [hkd]; rfl)
          rw [hk] at a; cases a
        · obtain ⟨v₀, hv⟩ := hcl₃ c hk hc
          refine wpAny_storeName_cell hkd hk hc hv fun h₄ hn hs => hq h₄ _ c hs (hcell c hk hc).1 ?_ (fun o e => cell_notSeq hv e) (.inr ⟨.inl hk, c, hc, hn⟩) ⟨mC, hmC₃.sameBut hs ?_⟩ fun c' _ b => ?_
          · rintro rfl; have := cell_notSeq hv hD₃; cases this
          · rintro q; exact ns_notCell (q ▸ hmC₃) hv
          · rw [hc] at b; cases b; exact ⟨_, hn⟩
      refine wpAny_assign_Name (stored _ _ fun h₄ tk₄ a₀ hs₄ ha₀ haD hasq hvar hns₄ hcl₄ => ?_)
      have ha₀f : a₀ ∉ fp := fun q => by obtain ⟨o, e⟩ := hfp _ q; rw [ha₀] at e; cases e
      have hst₄ : St (i + 1) h₄ := Wk.frame _ _ _ hst₃ fun b hb o e => hs₄.extBut b o (fun q => ha₀f (q ▸ hb)) e
      have hkp₄ : ∀ b o, b ∉ wr → s₂.heap.get? b = some o → h₄.get? b = some o := fun b o hb e => hs₄.extBut b o (fun q => by rw [q, ha₀] at e; cases e) (hkp₃ b o hb e)
      have hD₄ : h₄.get? s₂.heap.objs.size = some (lobj ys k') := hs₄.extBut _ _ (Ne.symm haD) hD₃
      have hys₄ : Reps P' h₄ ys (((ds.take i).filter p).map r) := hys₃.mono (fun _ q => q) fun a o _ e q => hs₄.extBut a o (fun z => by rw [z] at e; rw [hasq o e] at q; cases q) e
      have hs4 : ∀ b o, s.heap.get? b = some o → h₄.get? b = some o := fun b o e => hkp₄ b o (fun q => by rw [hwn b q] at e; cases e) (kheap k b o e)
      have hDs : s.heap.get? s₂.heap.objs.size = none := by
        cases e : s.heap.get? s₂.heap.objs.size with
        | none => rfl
        | some o => have := kheap k _ _ e; rw [hDn] at this; cases this
      have F₄ : FR K s₂ (fun b => if b = s₂.heap.objs.size then h₄.get? b else if b ∈ wr then none else s₂.heap.get? b) P' cenv ((x, .v d) :: σf) (fun _ => 0) { s₂ with heap := h₄, toks := tk₄ } := by
        have sub : ∀ a, Pf P' ((x, .v d) :: σf) (fun _ => 0) a → P' a := by
          rintro a (q | ⟨y, es, e, _⟩)
          · exact q
          · rw [List.lookup_cons] at e
            split at e
            · cases e
            · obtain ⟨_, ⟨d', e'⟩, _⟩ := cf.free h₁.objs.size y _ e
              cases e'
        refine ⟨⟨h₄, tk₄, rfl⟩, ?_, ?_, ?_, hkd, by rw [← hce]; exact F.gl, by rw [← hce]; exact F.bi, ?_, ?_⟩
        · intro a o e
          split at e
          · exact e
          · split at e
            · cases e
            · exact hkp₄ a o (by assumption) e
        · obtain ⟨hB, b, c⟩ := F.bs
          refine ⟨hB, b, fun a o e => ?_⟩
          have e1 := F.kept a o (c a o e)
          have n1 : a ≠ s₂.heap.objs.size := fun q => by rw [q, hDs] at e1; cases e1
          have n2 : a ∉ wr := fun q => by rw [hwn a q] at e1; cases e1
          rw [if_neg n1, if_neg n2]; exact kheap k _ _ e1
        · rintro a (q | rfl)
          · obtain ⟨o, e1⟩ := F.domS a q
            have n1 : a ≠ s₂.heap.objs.size := fun q => by rw [q, hDs] at e1; cases e1
            have n2 : a ∉ wr := fun q => by rw [hwn a q] at e1; cases e1
            refine ⟨o, ?_⟩
            rw [if_neg n1, if_neg n2]; exact kheap k _ _ e1
          · refine ⟨lobj ys k', ?_⟩
            rw [if_pos rfl]; exact hD₄
        · intro y e hy
          rw [List.lookup_cons] at hy
          split at hy
          · rename_i hyx
            cases hy
            rw [beq_iff_eq.mp hyx]
            refine ⟨v, hvar, ?_⟩
            refine (rd.fresh (P' := P') ?_).mono sub fun a o _ e q => hkp₄ a o (fun hm => by
              obtain ⟨o', e', _, ns⟩ := wr₂ _ hm
              rw [e] at e'; cases e'; rw [q] at ns; cases ns) e
            rintro a (q | rfl)
            · exact .inl q
            · exact .inr hDn
          · obtain ⟨hσ, _, hseen, _⟩ := cf.free h₁.objs.size y _ hy
            rw [hce] at hseen
            obtain ⟨u, hu, ru⟩ := F.vals y e hσ
            refine ⟨u, (hseen.var hu).keeps hs4, ?_⟩
            refine (((ru.mono (P' := O) (fun _ q => .inl q) fun _ _ _ e _ => e).fresh (P' := P') ?_).keeps hs4).mono sub fun _ _ _ e _ => e
            rintro a (q | rfl)
            · exact .inl q
            · exact .inr hDs
        · intro y es hy
          rw [List.lookup_cons] at hy
          split at hy
          · cases hy
          · obtain ⟨_, ⟨d', e'⟩, _⟩ := cf.free h₁.objs.size y _ hy
            cases e'
      have tk1 : (ds.take (i + 1)).filter p = (ds.take i).filter p ++ (if p d = true then [d] else []) := by
        rw [List.take_add_one, hd, List.filter_append]
        congr 1
        by_cases q : p d = true
        · simp [q]
        · simp [q]
      refine wpAny_mono ((hce ▸ cf.tests h₁.objs.size d hdm : Tests prog w K n cenv _ ifs (p d)) s₂ _ P' _ _ A _ F₄ R) (fun ok s₅ h₅ => ?_) fun _ _ e => e
      obtain ⟨rfl, k₅⟩ := h₅
      have F₅ := F₄.keeps k₅
      obtain ⟨h₅, tk₅, rfl, hk₅⟩ := k₅
      have hst₅ : St (i + 1) h₅ := Wk.frame _ _ _ hst₄ fun b _ o e => hk₅ b o e
      cases hpd : p d with
      | false =>
        simp only [Bool.false_eq_true, if_false]
        refine ⟨ds.length - (i + 1), by omega, i + 1, h₅, tk₅, ys, k', rfl, hlt, rfl, hst₅, let ⟨m, hm⟩ := hns₄; ⟨m, hm.keeps hk₅⟩, fun c a b => let ⟨u, hu⟩ := hcl₄ c a b; ⟨u, hu.keeps hk₅⟩, hk₅ _ _ hD₄, ?_, fun b o hb e => hk₅ b o (hkp₄ b o hb e)⟩
        rw [tk1, hpd]
        simpa using hys₄.keeps hk₅
      | true =>
        simp only [if_true]
        refine wpAny_mono ((hce ▸ cf.elt h₁.objs.size d hdm hpd : Ev prog w K true n cenv _ elt (r d)) s₂ _ P' _ _ A _ F₅ R) (fun y s₆ h₆ => ?_) fun _ _ e => e
        obtain ⟨⟨h₆, tk₆, rfl, hk₆⟩, ry⟩ := h₆
        refine wpAny_list_append_plain ⟨k', hk₆ _ _ (hk₅ _ _ hD₄)⟩ (fun h₇ hl₇ hs₇ => ?_) (by rw [sizeLine_eq]; simp; omega)
        obtain ⟨k₇, hl₇⟩ := hl₇
        have h57 : ∀ b o, b ≠ s₂.heap.objs.size → h₄.get? b = some o → h₇.get? b = some o := fun b o hb e => hs₇.extBut b o hb (hk₆ b o (hk₅ b o e))
        refine ⟨ds.length - (i + 1), by omega, i + 1, h₇, tk₆, ys ++ [y], k₇, rfl, hlt, rfl, ?_, ?_, ?_, by rw [hl₇]; simp [lobj], ?_, fun b o hb e => h57 b o (fun q => by rw [q, hDn] at e; cases e) (hkp₄ b o hb e)⟩
        · exact Wk.frame _ _ _ hst₅ fun b hb o e => hs₇.extBut b o (fun q => by obtain ⟨o', e'⟩ := hfp _ hb; rw [q, hDn] at e'; cases e') (hk₆ b o e)
        · obtain ⟨m, hm⟩ := hns₄
          exact ⟨m, ((hm.keeps hk₅).keeps hk₆).sameBut hs₇ (by rw [hcl]; exact Ne.symm hDC)⟩
        · intro c a b
          obtain ⟨u, hu⟩ := hcl₄ c a b
          refine ⟨u, ((hu.keeps hk₅).keeps hk₆).sameBut hs₇ ?_⟩
          rintro rfl
          have := cell_notSeq hu hD₄; cases this
        · rw [tk1, hpd, if_pos rfl, List.map_append]
          have mv : ∀ a o, ¬ P' a → h₆.get? a = some o → isSeq o = true → h₇.get? a = some o := fun a o na e _ => hs₇.extBut a o (fun q => na (.inr q)) e
          exact (((hys₄.keeps hk₅).keeps hk₆).mono (fun _ q => q) mv).append (.one (ry.mono (fun _ q => q) mv))
    · have hin : i = ds.length := by omega
      subst hin
      refine Wk.done _ _ _ hsti fun h₃ tk₃ hk₃ => ?_
      have wri : ∀ b ∈ wr, ∃ o, h.get? b = some o ∧ notFrame o = true ∧ isSeq o = false := fun b hb => hwr _ _ hsti b hb
      have hCw : cenv.locals ∉ wr := fun q => by
        obtain ⟨o, e, nf, _⟩ := wri _ q
        rw [ns_frame hmC e] at nf; cases nf
      have hDw : s₂.heap.objs.size ∉ wr := fun q => by
        obtain ⟨o, e, _⟩ := wr₂ _ q
        rw [hDn] at e; cases e
      rw [List.take_length] at hys
      refine hRR _ _ h₃ tk₃ mC ys k' hDn hCn hDC (hcl ▸ hmC.at' fun o e => hk₃ _ o hCw e) (hk₃ _ _ hDw hDi) ?_ ?_
      · exact hys.mono (fun _ q => q) fun a o _ e q => hk₃ a o (fun hm => by
          obtain ⟨o', e', _, ns⟩ := wri _ hm
          rw [e] at e'; cases e'; rw [q] at ns; cases ns) e
      · exact fun b o e => hk₃ b o (fun q => by rw [hwn b q] at e; cases e) (hkp b o (fun q => by rw [hwn b q] at e; cases e) (kheap k b o e))
  exact codeAny_compStart_list (loop _ rfl) (Wk.self 0 _ _ _ (Wk.frame _ _ _ hst fun b _ o e => old b o e) (loop _ rfl))
end
end
-- M13
section
set_option maxRecDepth 100000
open PySem.SeqAt

section
variable {prog : Program} {w : World} {K : Frag} {n : Nat} {env : Env} {σ σf : Sto} {scope : Scope} {cl : List (Str × Addr)} {x : Str} {px pos : Pos} {ifs : List Expr} {elt iter : Expr} {ds : List D} {p : D → Bool} {r : D → D}

theorem ItrE.list (h : Ev prog w K true n env σ iter (.list ds)) : ItrE prog w K n env σ iter ds := by
  intro sE kp O ad s A E F R
  refine wpAny_mono (h sE kp O ad s A E F R) (fun v s₁ ⟨k, r⟩ => ?_) fun _ _ x => x
  replace r := r.inv; cases r with
  | @list a vs m hO e r =>
    refine wpAny_pyIter_list ⟨_, e, rfl, m, rfl⟩ ?_
    have hn := none_size s₁.heap
    have hne : a ≠ s₁.heap.objs.size := by rintro rfl; rw [hn] at e; cases e
    have hlen := r.length
    refine ⟨s₁.heap.objs.size, [s₁.heap.objs.size, a], [s₁.heap.objs.size], fun i v => vs.toArray[i]? = some v, fun i h => h.IsListIter s₁.heap.objs.size a i ∧ h.IsList a vs.toArray, rfl, ?_, ktrans k (kpush s₁ _ _), ?_, ?_, ?_, ?_, ?_⟩
    · have := Walks.list (prog := prog) (w := w) (R.hand rfl) s₁.heap.objs.size a hne vs.toArray
      rw [show vs.toArray.size = ds.length from hlen] at this
      exact this
    · exact ⟨⟨_, Heap.get?_push_size _ rfl, rfl, rfl⟩, ⟨_, Heap.get?_push_of_some _ e, rfl, m, rfl⟩⟩
    · rintro i h ⟨⟨o, e1, _, hd1⟩, _⟩ b hb
      rw [List.mem_singleton.mp hb]
      exact ⟨o, e1, by unfold notFrame; rw [hd1], by unfold isSeq; rw [hd1]⟩
    · intro b hb
      rcases List.mem_cons.mp hb with rfl | hb
      · exact ⟨_, Heap.get?_push_size _ rfl⟩
      · rw [List.mem_singleton.mp hb]; exact ⟨_, Heap.get?_push_of_some _ e⟩
    · intro b hb; rw [List.mem_singleton.mp hb]
      cases q : s.heap.get? s₁.heap.objs.size with
      | none => rfl
      | some o => have := kheap k _ _ q; rw [hn] at this; cases this
    · intro i v ev
      obtain ⟨d, hd, rd⟩ := r.get' (k := i) (v := v) (by simpa using ev)
      exact ⟨d, hd, rd.keeps fun _ _ e => Heap.get?_push_of_some _ e⟩
theorem ItrE.tuple (h : Ev prog w K true n env σ iter (.tuple ds)) : ItrE prog w K n env σ iter ds := by
  intro sE kp O ad s A E F R
  refine wpAny_mono (h sE kp O ad s A E F R) (fun v s₁ ⟨k, r⟩ => ?_) fun _ _ x => x
  replace r := r.inv; cases r with
  | @tuple a vs m hO e r =>
    refine wpAny_pyIter_tuple ⟨_, e, rfl, m, rfl⟩ ?_
    have hn := none_size s₁.heap
    have hne : a ≠ s₁.heap.objs.size := by rintro rfl; rw [hn] at e; cases e
    have hlen := r.length
    refine ⟨s₁.heap.objs.size, [s₁.heap.objs.size, a], [s₁.heap.objs.size], fun i v => vs.toArray[i]? = some v, fun i h => h.IsTupleIter s₁.heap.objs.size a i ∧ h.IsTuple a vs.toArray, rfl, ?_, ktrans k (kpush s₁ _ _), ?_, ?_, ?_, ?_, ?_⟩
    · have := Walks.tuple (prog := prog) (w := w) (R.hand rfl) s₁.heap.objs.size a hne vs.toArray
      rw [show vs.toArray.size = ds.length from hlen] at this
      exact this
    · exact ⟨⟨_, Heap.get?_push_size _ rfl, rfl, rfl⟩, ⟨_, Heap.get?_push_of_some _ e, rfl, m, rfl⟩⟩
    · rintro i h ⟨⟨o, e1, _, hd1⟩, _⟩ b hb
      rw [List.mem_singleton.mp hb]
      exact ⟨o, e1, by unfold notFrame; rw [hd1], by unfold isSeq; rw [hd1]⟩
    · intro b hb
      rcases List.mem_cons.mp hb with rfl | hb
      · exact ⟨_, Heap.get?_push_size _ rfl⟩
      · rw [List.mem_singleton.mp hb]; exact ⟨_, Heap.get?_push_of_some _ e⟩
    · intro b hb; rw [List.mem_singleton.mp hb]
      cases q : s.heap.get? s₁.heap.objs.size with
      | none => rfl
      | some o => have := kheap k _ _ q; rw [hn] at this; cases this
    · intro i v ev
      obtain ⟨d, hd, rd⟩ := r.get' (k := i) (v := v) (by simpa using ev)
      exact ⟨d, hd, rd.keeps fun _ _ e => Heap.get?_push_of_some _ e⟩

/-- a comprehension -/
theorem Ev.comp (hi : ItrE prog w K n env σ iter ds) (cf : CompFacts prog w K n env scope cl σ σf x ifs elt ds p r) (hz : ds.length ≤ 1000000) (hclos : closureFor scope env = pure cl)
    (hnames : ∀ y ∈ scope.names, y.2 = .local → scope.names.lookup y.1 = some .local) (hs : ∀ v, foldedSetIterable iter env v = pure v) :
    Ev prog w K true n env σ (.ListComp elt [⟨.Name x px, iter, ifs, 0⟩] scope pos) (.list ((ds.filter p).map r)) := by
  intro sE kp O ad s A E F R
  rw [eval_ListComp]
  refine wpAny_comprehension_free (use := Option.none) rfl hs hclos cf.kind hnames (wpAny_mono (hi sE kp O ad s A E F R) (fun xv s₁ q => wpAny_mono q (fun it s₂ q => ?_) fun _ _ e => e) fun _ _ e => e)
  obtain ⟨I, fp, wr, P, St, rfl, Wk, k, hst, hwr, hfp, hwn, hP⟩ := q
  refine comp_block cf hz F R k Wk hst hwr hfp hwn hP (RR := fun acc C => compPost (model prog w) A E Option.none _ acc C) ?_
  intro Dd C h' tk m ys k' hD hC hDC hns hl hys hk
  refine ⟨m, hns, fun h'' hs'' => ?_⟩
  have hk'' : ∀ b o, s.heap.get? b = some o → h''.get? b = some o := fun b o e => hs''.extBut b o (by
    rintro rfl; have := kheap k _ _ e; rw [hC] at this; cases this) (hk b o e)
  refine ⟨?_, ?_⟩
  · obtain ⟨h₂, tk₂, rfl, _⟩ := k
    exact ⟨h'', tk, rfl, hk''⟩
  · refine .list (n := k') ?_ (hs''.extBut _ _ hDC hl) ?_
    · intro q; obtain ⟨o, e⟩ := F.domS _ q; have := kheap k _ _ e; rw [hD] at this; cases this
    · exact hys.mono (fun _ q => .inl q) fun a o _ e q => hs''.extBut a o (by rintro rfl; rw [ns_notSeq hns e] at q; cases q) e

/-- a place that is none of the frame's changes -/
theorem off_moved {sE : Shared} {kp : Kpt} {O : Addr → Prop} {ad : Str → Addr} {s : Shared} {a : Addr} {h' : Heap} {tk : Nat} (F : FR K sE kp O env σ ad s) (W : FW kp env σ ad s) (hL : a ≠ env.locals) (hcl : ∀ y c, env.cells.lookup y = some c → c ≠ a) (hk : kp a = none)
    (hsq : ∀ o, s.heap.get? a = some o → isSeq o = false) (hs : Heap.SameBut a s.heap h') : FR K sE kp O env σ ad { s with heap := h', toks := tk } ∧ FW kp env σ ad { s with heap := h', toks := tk } := by
  have vk : ∀ {x v}, VarIs env s.heap x v → VarIs env h' x v := by
    rintro x v (⟨k, m, n, e⟩ | ⟨k, c, l, e⟩)
    · exact .inl ⟨k, m, n.sameBut hs (Ne.symm hL), e⟩
    · exact .inr ⟨k, c, l, e.sameBut hs (hcl x c l)⟩
  have sq : ∀ b o, s.heap.get? b = some o → isSeq o = true → h'.get? b = some o := fun b o e q => hs.extBut b o (by rintro rfl; rw [hsq o e] at q; cases q) e
  refine ⟨⟨?_, ?_, F.bs, F.dom, F.kd, F.gl, F.bi, ?_, ?_⟩, ⟨?_, W.new, ?_, W.inj, W.sep⟩⟩
  · obtain ⟨h, t, rfl⟩ := F.sh; exact ⟨h', _, rfl⟩
  · intro b o e
    exact hs.extBut b o (by rintro rfl; rw [hk] at e; cases e) (F.kept b o e)
  · intro x d e
    obtain ⟨v, hv, r⟩ := F.vals x d e
    exact ⟨v, vk hv, r.mono (fun _ q => q) fun b o _ e q => sq b o e q⟩
  · intro x ds e
    obtain ⟨hv, hk', vs, n, e', r⟩ := F.owns x ds e
    exact ⟨vk hv, hk', vs, n, sq _ _ e' rfl, r.mono (fun _ q => q) fun b o _ e q => sq b o e q⟩
  · obtain ⟨m, hm⟩ := W.ns; exact ⟨m, hm.sameBut hs (Ne.symm hL)⟩
  · intro x c kx l
    obtain ⟨b, v, e⟩ := W.cel x c kx l
    exact ⟨b, v, e.sameBut hs (hcl x c l)⟩

theorem comp_assign {y : Str} {py spos : Pos} {σ' : Sto} (hi : ItrE prog w K n env σ iter ds) (cf : CompFacts prog w K n env scope cl σ σf x ifs elt ds p r) (hz : ds.length ≤ 1000000) (hclos : closureFor scope env = pure cl)
    (hnames : ∀ y ∈ scope.names, y.2 = .local → scope.names.lookup y.1 = some .local) (hs : ∀ v, foldedSetIterable iter env v = pure v)
    (hsw : swapsWith (.ListComp elt [⟨.Name x px, iter, ifs, 0⟩] scope pos) (some (.Name y py)) spos.line env = pure true) (hy : Storable env y) (hce : ∀ y c, env.cells.lookup y = some c → env.kindOf y = some .cell)
    (fin : ∀ (sE : Shared) (kp : Kpt) (O : Addr → Prop) (ad : Str → Addr) (s s₁ s₂ : Shared) (a : Addr) (vs : List Value) (k : Nat), FR K sE kp O env σ ad s → FW kp env σ ad s → Keeps s s₁ → s.heap.get? a = none → s₁.heap.get? a = some (lobj vs k) →
      Reps (fun b => O b ∨ b = a) s₁.heap vs ((ds.filter p).map r) → Stored env y (.ref a) kp s₁ s₂ → ∃ ad', FR K sE kp O env σ' ad' s₂ ∧ FW kp env σ' ad' s₂) :
    Ex prog w K true n env σ (.Assign [.Name y py] (.ListComp elt [⟨.Name x px, iter, ifs, 0⟩] scope pos) spos) (.next σ') := by
  intro sE kp O ad s A E F W R
  rw [exec_Assign_Name_used _ _ _ _ hsw]
  refine wpAny_bind (wpAny_standAt (wpAny_bind ?_))
  show wpAny _ A (do let _ ← comprehension (.ListComp elt [⟨.Name x px, iter, ifs, 0⟩] scope pos) scope env _ (newList []) false (eval iter env) (some (assign (.Name y py) env))) _ _ s
  refine wpAny_bind (wpAny_mono (wpAny_comprehension_free (use := some (assign (.Name y py) env)) (Q := fun _ s' => (Res.next σ').is K sE kp O env s' .next) rfl hs hclos cf.kind hnames
    (wpAny_mono (hi sE kp O ad s A E F R) (fun xv s₁ q => wpAny_mono q (fun it s₂ q => ?_) fun _ _ e => e) fun _ _ e => e)) (fun _ s' hq => wpAny_pure (wpAny_pure hq)) fun _ _ e => e)
  obtain ⟨I, fp, wr, P, St, rfl, Wk, k, hst, hwr, hfp, hwn, hP⟩ := q
  refine comp_block cf hz F R k Wk hst hwr hfp hwn hP (RR := fun acc C => compPost (model prog w) A E (some (assign (.Name y py) env)) _ acc C) ?_
  intro Dd C h' tk m ys k' hD hC hDC hns hl hys hk
  have k₃ : Keeps s { s₂ with heap := h', toks := tk } := by obtain ⟨h₂, tk₂, rfl, _⟩ := k; exact ⟨h', tk, rfl, hk⟩
  have hD0 : s.heap.get? Dd = none := by
    cases e : s.heap.get? Dd with
    | none => rfl
    | some o => have := kheap k _ _ e; rw [hD] at this; cases this
  have hC0 : s.heap.get? C = none := by
    cases e : s.heap.get? C with
    | none => rfl
    | some o => have := kheap k _ _ e; rw [hC] at this; cases this
  have hCL : C ≠ env.locals := by
    rintro rfl
    obtain ⟨m, o, _, _, e, _⟩ := W.ns
    rw [hC0] at e; cases e
  have hCc : ∀ y c, env.cells.lookup y = some c → c ≠ C := by
    rintro y c l rfl
    obtain ⟨_, v, o, e, _⟩ := W.cel y c (hce y c l) l
    rw [hC0] at e; cases e
  show wpAny _ A (assign (.Name y py) env (.ref Dd)) _ _ _
  refine wpAny_assign_Name (store F.kd (W.keeps k₃) hy fun s₄ S => ?_)
  obtain ⟨ad₄, F₄, W₄⟩ := fin sE kp O ad s _ s₄ Dd ys k' F W k₃ hD0 hl hys S
  obtain ⟨a₀, hs₀, ha₀⟩ := S.spot
  have hCa : C ≠ a₀ := by
    rcases ha₀ with rfl | l
    · exact hCL
    · exact Ne.symm (hCc _ _ l)
  have hns₄ : s₄.heap.Ns C m := hns.sameBut hs₀ hCa
  refine ⟨m, hns₄, fun h'' hs'' => ⟨rfl, ad₄, ?_⟩⟩
  refine off_moved (tk := s₄.toks) F₄ W₄ hCL hCc ?_ (fun o e => ns_notSeq hns₄ e) hs''
  cases e : kp C with
  | none => rfl
  | some o => have := F.kept _ _ e; rw [hC0] at this; cases this
/-- y = [..], the list becomes the frame's own -/
theorem Ex.compOwn {y : Str} {py spos : Pos} (hi : ItrE prog w K n env σ iter ds) (cf : CompFacts prog w K n env scope cl σ σf x ifs elt ds p r) (hz : ds.length ≤ 1000000) (hclos : closureFor scope env = pure cl)
    (hnames : ∀ y ∈ scope.names, y.2 = .local → scope.names.lookup y.1 = some .local) (hs : ∀ v, foldedSetIterable iter env v = pure v)
    (hsw : swapsWith (.ListComp elt [⟨.Name x px, iter, ifs, 0⟩] scope pos) (some (.Name y py)) spos.line env = pure true) (hy : Storable env y) (hce : ∀ y c, env.cells.lookup y = some c → env.kindOf y = some .cell) (him : ((ds.filter p).map r).all D.imm = true) :
    Ex prog w K true n env σ (.Assign [.Name y py] (.ListComp elt [⟨.Name x px, iter, ifs, 0⟩] scope pos) spos) (.next (Sto.set σ y (.o ((ds.filter p).map r)))) :=
  comp_assign hi cf hz hclos hnames hs hsw hy hce fun _ _ O _ _ _ _ _ _ _ F W k h0 h1 hr S => ⟨_, set_fresh F W k h0 h1 him (hr.mono (P' := O) (fun _ q => .inl q) fun _ _ _ e _ => e) S⟩
/-- y = [..], in a frame that owns no list -/
theorem Ex.compVal {y : Str} {py spos : Pos} (hi : ItrE prog w K n env σ iter ds) (cf : CompFacts prog w K n env scope cl σ σf x ifs elt ds p r) (hz : ds.length ≤ 1000000) (hclos : closureFor scope env = pure cl)
    (hnames : ∀ y ∈ scope.names, y.2 = .local → scope.names.lookup y.1 = some .local) (hs : ∀ v, foldedSetIterable iter env v = pure v)
    (hsw : swapsWith (.ListComp elt [⟨.Name x px, iter, ifs, 0⟩] scope pos) (some (.Name y py)) spos.line env = pure true) (hy : Storable env y) (hce : ∀ y c, env.cells.lookup y = some c → env.kindOf y = some .cell) (hno : noOwn σ = true) :
    Ex prog w K true n env σ (.Assign [.Name y py] (.ListComp elt [⟨.Name x px, iter, ifs, 0⟩] scope pos) spos) (.next (Sto.set σ y (.v (.list ((ds.filter p).map r))))) :=
  comp_assign hi cf hz hclos hnames hs hsw hy hce fun _ _ O ad s s₁ _ a vs m F W k h0 h1 hr S => ⟨ad, set_v (F.keeps k) (W.keeps k) S (rep_up (.list (n := m) (fun q => by
    obtain ⟨o, e⟩ := F.domS _ q; rw [h0] at e; cases e) h1 (hr.mono (P' := O) (fun _ q => .inl q) fun _ _ _ e _ => e)) (.inr (noOwn_set hno)))⟩
end
end
-- M14
section
set_option maxRecDepth 100000
open PySem.SeqAt

noncomputable def dRange (k : Nat) : List D := (List.range k).map fun (i : Nat) => D.int (i : Int)
section
variable {prog : Program} {w : World} {K : Frag} {n : Nat} {env : Env} {σ : Sto}

theorem rangeSize_nat (k : Nat) : Builtin.Range.rangeSize 0 (k : Int) 1 = k := by
  unfold Builtin.Range.rangeSize
  rw [if_pos (by decide)]
  by_cases h : (0 : Int) < k
  · rw [if_pos h, Int.ediv_one]; omega
  · rw [if_neg h]; omega
theorem fits_of {i : Int} (h1 : 0 ≤ i) (h2 : i ≤ 1000001) : Builtin.Range.rangeFitsLong i = true := by
  unfold Builtin.Range.rangeFitsLong
  rw [decide_eq_true (by omega), decide_eq_true (by omega)]; rfl
theorem range_small {k : Nat} (h : k ≤ 1000000) : Builtin.Range.small 0 (k : Int) 1 = true := by
  unfold Builtin.Range.small
  rw [rangeSize_nat, fits_of (by omega) (by omega), fits_of (i := (k : Int)) (by omega) (by omega), fits_of (i := 1) (by omega) (by omega)]
  rw [if_pos (by decide), fits_of (i := (k : Int) + (1 - 1)) (by omega) (by omega)]
  simp
/-- range(e) -/
theorem ItrE.range {x : Str} {np pos : Pos} {e : Expr} {k : Nat} (hf : Ev prog w K true n env σ (.Name x np) (.raw (.type "range"))) (hst : notStar e = true) (he : Ev prog w K true n env σ e (.int k)) (hk : k ≤ 1000000) :
    ItrE prog w K n env σ (.Call (.Name x np) [e] [] pos) (dRange k) := by
  intro sE kp O ad s A E F R
  refine wpAny_Call_Name_kw (wpAny_mono (hf sE kp O ad s A E F R) (fun v s₁ ⟨k1, r1⟩ => ?_) fun _ _ x => x)
  replace r1 := r1.inv; cases r1
  have F1 := F.keeps k1
  have h1 := (Evs.cons hst he Evs.nil : Evs prog w K true n env σ [e] [.int k]) sE kp O ad s₁ A E pos F1 R
  refine callWith_g h1.1 rfl (wpAny_mono h1.2 (fun vs s₂ ⟨k2, r2⟩ => wpAny_evalAll_nil ⟨.inl fun a => nofun, ?_⟩) fun _ _ x => x)
  replace r2 := r2.inv; cases r2 with
  | cons a r2 =>
    replace r2 := r2.inv; cases r2
    replace a := a.inv; cases a with
    | int t =>
      show wpAny _ _ (call (.type "range") [.int (k : Int) t] []) _ _ _
      refine call_range_1 ?_
      have kA := kpush s₂ { cls := .type "range", data := .fields #[.int 0 s₂.toks, .int (k : Int) t, .int 1 (s₂.toks + 1)] } (s₂.toks + 1 + 1)
      generalize hs3 : ({ s₂ with heap := s₂.heap.push { cls := .type "range", data := .fields #[.int 0 s₂.toks, .int (k : Int) t, .int 1 (s₂.toks + 1)] }, toks := s₂.toks + 1 + 1 } : Shared) = s₃ at kA
      have hR : IsRange s₃.heap s₂.heap.objs.size 0 (k : Int) 1 s₂.toks t (s₂.toks + 1) := by rw [← hs3]; exact Heap.get?_push_size _ rfl
      refine wpAny_pyIter_range hR (range_small hk) ?_
      rw [rangeSize_nat]
      have kk := ktrans k1 (ktrans k2 kA)
      have hn := none_size s₃.heap
      have W := Walks.range (prog := prog) (w := w) (R.hand rfl) s₃.heap.objs.size 0 1 k
      refine ⟨s₃.heap.objs.size, [s₃.heap.objs.size], [s₃.heap.objs.size], fun i v => i < k ∧ ∃ t, v = .int (0 + i * 1) t, fun i h => IsRangeIter h s₃.heap.objs.size (0 + (i : Nat) * 1) ((k : Int) - (i : Nat)) 1, rfl, ?_, ktrans kk (kpush s₃ _ _), ?_, ?_, ?_, ?_, ?_⟩
      · rw [show (dRange k).length = k by simp [dRange]]
        exact W.bound
      · have := Heap.get?_push_size s₃.heap (o := { cls := .type "range_iterator", data := .fields #[rawInt 0, rawInt (k : Int), rawInt 1] }) rfl
        simpa [IsRangeIter] using this
      · intro i h e b hb
        rw [List.mem_singleton.mp hb]
        exact ⟨_, e, rfl, rfl⟩
      · intro b hb
        rw [List.mem_singleton.mp hb]
        exact ⟨_, Heap.get?_push_size _ rfl⟩
      · intro b hb; rw [List.mem_singleton.mp hb]
        cases q : s.heap.get? s₃.heap.objs.size with
        | none => rfl
        | some o => have := kheap kk _ _ q; rw [hn] at this; cases this
      · rintro i v ⟨hi, t, rfl⟩
        refine ⟨.int (i : Int), ?_, ?_⟩
        · simp [dRange, hi]
        · simpa using Rep.int (P := O) (i : Int) t
end
end
-- M15
section

section
variable {prog : Program} {w : World} {K : Frag} {sE : Shared} {kp : Kpt} {O : Addr → Prop} {env : Env} {σ : Sto} {ad : Str → Addr} {s s' : Shared} {A : Around} {E : Value → Shared → Prop}

/-- a frame beside new lists that nothing names yet -/
structure FX (K : Frag) (sE : Shared) (kp : Kpt) (O : Addr → Prop) (env : Env) (σ : Sto) (ad : Str → Addr) (s : Shared) (L : List Addr) : Prop where
  F : FR K sE kp O env σ ad s
  W : FW kp env σ ad s
  nk : ∀ a ∈ L, kp a = none ∧ ∃ m, s.heap.get? a = some (lobj [] m)
  vals : ∀ x d, σ.lookup x = some (.v d) → ∃ v, VarIs env s.heap x v ∧ Rep (fun b => Pf O σ ad b ∨ b ∈ L) s.heap v d
  owns : ∀ x ds, σ.lookup x = some (.o ds) → ad x ∉ L ∧ ∃ vs n, s.heap.get? (ad x) = some (lobj vs n) ∧ Reps (fun b => Pf O σ ad b ∨ b ∈ L) s.heap vs ds

theorem FX.start {L : List Addr} (F : FR K sE kp O env σ ad s) (W : FW kp env σ ad s) (k : Keeps s s') (h0 : ∀ a ∈ L, s.heap.get? a = none) (h1 : ∀ a ∈ L, ∃ m, s'.heap.get? a = some (lobj [] m)) : FX K sE kp O env σ ad s' L := by
  have hp : ∀ b, (Pf O σ ad b ∨ b ∈ L) → Pf O σ ad b ∨ s.heap.get? b = none := by
    rintro b (q | q)
    · exact .inl q
    · exact .inr (h0 b q)
  refine ⟨F.keeps k, W.keeps k, fun a ha => ⟨?_, h1 a ha⟩, ?_, ?_⟩
  · cases e : kp a with
    | none => rfl
    | some o => have := F.kept _ _ e; rw [h0 a ha] at this; cases this
  · intro y e hy
    obtain ⟨u, hu, ru⟩ := F.vals y e hy
    exact ⟨u, hu.keeps (kheap k), (ru.fresh hp).keeps (kheap k)⟩
  · intro y es hy
    obtain ⟨_, _, us, m, e, ru⟩ := F.owns y es hy
    refine ⟨fun q => ?_, us, m, kheap k _ _ e, (ru.fresh hp).keeps (kheap k)⟩
    rw [h0 _ q] at e; cases e

theorem FX.take {x : Str} {a : Addr} {L : List Addr} (X : FX K sE kp O env σ ad s (a :: L)) (ha : a ∉ L) (S : Stored env x (.ref a) kp s s') : FX K sE kp O env (Sto.set σ x (.o [])) (fun y => if y = x then a else ad y) s' L := by
  obtain ⟨hk, m, hm⟩ := X.nk a (.head _)
  have hp1 : ∀ b, (Pf O σ ad b ∨ b = a) → Pf O σ ad b ∨ b ∈ a :: L := by
    rintro b (q | rfl)
    · exact .inl q
    · exact .inr (.head _)
  obtain ⟨F', W'⟩ := set_o (ds := []) X.F X.W S hm hk (fun y e _ hy => let ⟨v, h1, h2⟩ := X.vals y e hy; ⟨v, h1, h2.mono hp1 fun _ _ _ e _ => e⟩)
    (fun y es _ hy => let ⟨h0, us, k, h1, h2⟩ := X.owns y es hy; ⟨fun e => h0 (e ▸ .head _), us, k, h1, h2.mono hp1 fun _ _ _ e _ => e⟩) .nil
  have hp : ∀ b, (Pf O (Sto.set σ x (.o [])) (fun y => if y = x then a else ad y) b ∨ b ∈ L) → Pf O σ ad b ∨ b ∈ a :: L := by
    rintro b ((q | ⟨y, es, e, q⟩) | q)
    · exact .inl (.inl q)
    · rw [Sto.set_get] at e
      dsimp only at q
      by_cases hy : y = x
      · rw [if_pos hy] at q; exact .inr (q ▸ .head _)
      · rw [if_neg hy] at e q; exact .inl (.inr ⟨y, es, e, q⟩)
    · exact .inr (.tail _ q)
  refine ⟨F', W', ?_, ?_, ?_⟩
  · intro b hb
    obtain ⟨h1, m, h2⟩ := X.nk b (.tail _ hb)
    exact ⟨h1, m, S.seq _ _ h2 rfl⟩
  · intro y d hy
    rw [Sto.set_get] at hy
    split at hy
    · cases hy
    · obtain ⟨u, hu, ru⟩ := X.vals y d hy
      exact ⟨u, S.oth y u (by assumption) hu, (S.rep ru).mono hp fun _ _ _ e _ => e⟩
  · intro y ds hy
    rw [Sto.set_get] at hy
    by_cases hyx : y = x
    · rw [if_pos hyx] at hy; cases hy
      rw [if_pos hyx]
      exact ⟨ha, [], m, S.seq _ _ hm rfl, .nil⟩
    · rw [if_neg hyx] at hy
      rw [if_neg hyx]
      obtain ⟨h0, us, k, h1, h2⟩ := X.owns y ds hy
      exact ⟨fun q => h0 (.tail _ q), us, k, S.seq _ _ h1 rfl, (S.reps h2).mono hp fun _ _ _ e _ => e⟩
end

section
variable {prog : Program} {w : World} {K : Frag} {n : Nat} {env : Env} {σ : Sto}
theorem empty_list {A : Around} {E : Value → Shared → Prop} {p : Pos} (s : Shared) : wpAny (model prog w) A (eval (.List [] p) env) (fun v s' => ∃ a, v = .ref a ∧ Keeps s s' ∧ s.heap.get? a = none ∧ ∃ m, s'.heap.get? a = some (lobj [] m)) E s := by
  refine List_ (Calls.spliced_nil (wpAny_newList ?_ (by simp)))
  refine ⟨_, rfl, kpush s { cls := .type "list", data := .seq ([] : List Value).toArray } s.toks, none_size _, 0, ?_⟩
  exact Heap.get?_push_size _ rfl
noncomputable abbrev threeT (x y z : Str) (px py pz : Pos) (c : Nat) (tp : Pos) : Expr := .Tuple [.Name x px, .Name y py, .Name z pz] c tp
noncomputable abbrev threeE (q1 q2 q3 : Pos) (c : Nat) (tp : Pos) : Expr := .Tuple [.List [] q1, .List [] q2, .List [] q3] c tp
/-- x, y, z = ([], [], []) -/
theorem Ex.three {x y z : Str} {px py pz q1 q2 q3 tp vp pos : Pos} {c c2 : Nat} (hx : Storable env x) (hy : Storable env y) (hz : Storable env z) (hs : swapsWithSole [threeT x y z px py pz c tp] (threeE q1 q2 q3 c2 vp) pos.line env = pure false)
    (hw : swappedStores [threeT x y z px py pz c tp] (threeE q1 q2 q3 c2 vp) env = pure (some [x, y, z])) :
    Ex prog w K true n env σ (.Assign [threeT x y z px py pz c tp] (threeE q1 q2 q3 c2 vp) pos) (.next (Sto.set (Sto.set (Sto.set σ z (.o [])) y (.o [])) x (.o []))) := by
  intro sE kp O ad s A E F W R
  refine Assign_Tuple_swapped (names := [x, y, z]) (Tuple_ ?_) hs hw
  rw [starEach_cons rfl, starEach_cons rfl, starEach_cons rfl]
  refine Calls.spliced_cons (wpAny_mono (empty_list s) (fun v1 s1 ⟨a1, e1, k1, n1, g1⟩ => ?_) fun _ _ x => x)
  refine Calls.spliced_cons (wpAny_mono (empty_list s1) (fun v2 s2 ⟨a2, e2, k2, n2, g2⟩ => ?_) fun _ _ x => x)
  refine Calls.spliced_cons (wpAny_mono (empty_list s2) (fun v3 s3 ⟨a3, e3, k3, n3, g3⟩ => ?_) fun _ _ x => x)
  refine Calls.spliced_nil (wpAny_newTuple ?_ (by rw [sizeLine_eq]; show 3 ≤ 16777216; decide))
  subst e1 e2 e3
  have k4 := kpush s3 { cls := .type "tuple", data := .seq [Value.ref a1, .ref a2, .ref a3].toArray } s3.toks
  have ht : (s3.heap.push { cls := .type "tuple", data := .seq [Value.ref a1, .ref a2, .ref a3].toArray }).IsTuple s3.heap.objs.size #[.ref a1, .ref a2, .ref a3] := ⟨_, Heap.get?_push_size _ rfl, rfl, _, rfl⟩
  generalize hn : [x, y, z].length = nn
  have hn3 : nn = (#[Value.ref a1, .ref a2, .ref a3] : Array Value).size := by rw [← hn]; rfl
  subst hn3
  refine wpAny_unpackItems_tuple (s := { s3 with heap := s3.heap.push { cls := .type "tuple", data := .seq [Value.ref a1, .ref a2, .ref a3].toArray } }) (R.hand rfl) ht (fun h' hh => ?_)
  have k5 : Keeps { s3 with heap := s3.heap.push { cls := .type "tuple", data := .seq [Value.ref a1, .ref a2, .ref a3].toArray } } { s3 with heap := h' } := ⟨h', s3.toks, rfl, fun b o e => hh b o (Nat.ne_of_lt (Heap.lt_size e)) e⟩
  have k45 := ktrans k4 k5
  have k := ktrans k1 (ktrans k2 (ktrans k3 k45))
  have back : ∀ {t t' : Shared} (_ : Keeps t t') {a : Addr}, t'.heap.get? a = none → t.heap.get? a = none := fun {t t'} kk {a} h => by
    cases e : t.heap.get? a with
    | none => rfl
    | some o => rw [kheap kk _ _ e] at h; cases h
  have X0 : FX K sE kp O env σ ad { s3 with heap := h' } [a3, a2, a1] := by
    refine FX.start F W k ?_ ?_
    · intro a ha
      rcases List.mem_cons.mp ha with rfl | ha
      · exact back (ktrans k1 k2) n3
      · rcases List.mem_cons.mp ha with rfl | ha
        · exact back k1 n2
        · rw [List.mem_singleton.mp ha]; exact n1
    · intro a ha
      rcases List.mem_cons.mp ha with rfl | ha
      · obtain ⟨m, g⟩ := g3; exact ⟨m, kheap k45 _ _ g⟩
      · rcases List.mem_cons.mp ha with rfl | ha
        · obtain ⟨m, g⟩ := g2; exact ⟨m, kheap (ktrans k3 k45) _ _ g⟩
        · rw [List.mem_singleton.mp ha]; obtain ⟨m, g⟩ := g1; exact ⟨m, kheap (ktrans k2 (ktrans k3 k45)) _ _ g⟩
  have h12 : a2 ≠ a1 := by rintro rfl; obtain ⟨m, g⟩ := g1; rw [n2] at g; cases g
  have h23 : a3 ≠ a2 := by rintro rfl; obtain ⟨m, g⟩ := g2; rw [n3] at g; cases g
  have h13 : a3 ≠ a1 := by rintro rfl; obtain ⟨m, g⟩ := g1; rw [kheap k2 _ _ g] at n3; cases n3
  show wpAny _ _ (assignInOrder [bindName env z, bindName env y, bindName env x] [.ref a3, .ref a2, .ref a1]) _ _ _
  refine wpAny_assignInOrder_more (bindName_ (store F.kd X0.W hz fun s6 S6 => ?_))
  have X1 := X0.take (by simp [h23, h13]) S6
  refine wpAny_assignInOrder_more (bindName_ (store F.kd X1.W hy fun s7 S7 => ?_))
  have X2 := X1.take (by simp [h12]) S7
  refine wpAny_assignInOrder_more (bindName_ (store F.kd X2.W hx fun s8 S8 => ?_))
  have X3 := X2.take (by simp) S8
  exact wpAny_assignInOrder_none ⟨rfl, _, X3.F, X3.W⟩
end
end
-- F1
section
set_option maxRecDepth 100000

noncomputable abbrev KK (w : World) : Frag := Mine.hd.heap_39 w.params
noncomputable def fdOf (K : Frag) (a : Nat) : FuncData := match K.lookup a with
  | some ⟨_, _, .func fd, _⟩ => fd
  | _ => default
noncomputable def fenv (w : World) (a : Nat) (L : Addr) : Env := callEnvC (fdOf (KK w) a) L a

variable {prog : Program} {w : World}

theorem Spec.fn {n : Nat} (a : Nat) {body : List Stmt} {args : List D} {kws bd : List (Str × D)} {r : D}
    (hf : (KK w).lookup a = some ⟨.type "function", none, .func (fdOf (KK w) a), #[]⟩) (hbody : (fdOf (KK w) a).body = .stmts body) (hcl : (fdOf (KK w) a).closure = []) (hg : (fdOf (KK w) a).globals = mainGlobals) (hbi : (fdOf (KK w) a).builtins = builtinsNs) (hkd : (fdOf (KK w) a).scope.kind = .function)
    (hco : (fdOf (KK w) a).scope.isCoroutine = false) (hgen : (fdOf (KK w) a).scope.isGenerator = false) (hcode : codeIn (KK w) (fdOf (KK w) a).code (fdOf (KK w) a).qualname = true)
    (hkind : (bd.all fun y => (fdOf (KK w) a).scope.names.lookup y.1 == some .local || (fdOf (KK w) a).scope.names.lookup y.1 == some .cell) = true) (hbind : BindsD (KK w) (fdOf (KK w) a) args kws bd)
    (h : ∀ L, Exs prog w (KK w) true n (fenv w a L) (sto0 bd) body (.ret r)) : Spec prog w (KK w) (n + 1) (.ref a) args kws r :=
  Spec.of hf hbody hcl hg hbi hkd hco hgen hcode hbind hkind h

theorem BindsD.one {K : Frag} {fd : FuncData} {x : Str} {d : D} (h : ∀ v, bindArgs fd ⟨[v], []⟩ = pure [(x, v)]) : BindsD K fd [d] [] [(x, d)] := by
  intro s O vs ks _ r1 r2
  replace r2 := r2.inv; cases r2
  replace r1 := r1.inv; cases r1 with | @cons v _ a r1 => replace r1 := r1.inv; cases r1; exact ⟨[v], BindsTo.of_eq (h v), .cons a .nil⟩
theorem BindsD.two {K : Frag} {fd : FuncData} {x y : Str} {d e : D} (h : ∀ v u, bindArgs fd ⟨[v, u], []⟩ = pure [(x, v), (y, u)]) : BindsD K fd [d, e] [] [(x, d), (y, e)] := by
  intro s O vs ks _ r1 r2
  replace r2 := r2.inv; cases r2
  replace r1 := r1.inv; cases r1 with | @cons v _ a r1 => replace r1 := r1.inv; cases r1 with | @cons u _ b r1 => replace r1 := r1.inv; cases r1; exact ⟨[v, u], BindsTo.of_eq (h v u), .cons a (.cons b .nil)⟩
theorem BindsD.three {K : Frag} {fd : FuncData} {x y z : Str} {d e f : D} (h : ∀ v u t, bindArgs fd ⟨[v, u, t], []⟩ = pure [(x, v), (y, u), (z, t)]) : BindsD K fd [d, e, f] [] [(x, d), (y, e), (z, f)] := by
  intro s O vs ks _ r1 r2
  replace r2 := r2.inv; cases r2
  replace r1 := r1.inv; cases r1 with | @cons v _ a r1 => replace r1 := r1.inv; cases r1 with | @cons u _ b r1 => replace r1 := r1.inv; cases r1 with | @cons t _ c r1 => replace r1 := r1.inv; cases r1; exact ⟨[v, u, t], BindsTo.of_eq (h v u t), .cons a (.cons b (.cons c .nil))⟩
/-- one by place, one by name -/
theorem BindsD.kw {K : Frag} {fd : FuncData} {x y : Str} {d e : D} (h : ∀ v u, bindArgs fd ⟨[v], [(y, u)]⟩ = pure [(x, v), (y, u)]) : BindsD K fd [d] [(y, e)] [(x, d), (y, e)] := by
  intro s O vs ks _ r1 r2
  replace r1 := r1.inv; cases r1 with | @cons v _ a r1 =>
  replace r1 := r1.inv; cases r1
  replace r2 := r2.inv; cases r2 with | @cons u _ b r2 => replace r2 := r2.inv; cases r2; exact ⟨[v, u], BindsTo.of_eq (h v u), .cons a (.cons b .nil)⟩

theorem sp_cmp (x y : List UInt8) : Spec prog w (KK w) 5 (.ref 52) [.bytes x, .bytes y] [] (.int (b2i (decide (nums y < nums x)) - b2i (decide (nums x < nums y)))) := by
  refine Spec.fn (n := 4) 52 (bd := [("x", .bytes x), ("y", .bytes y)]) (by kernel_rfl) (body := ?b) ?hb (by kernel_rfl) (by kernel_rfl) (by kernel_rfl) (by kernel_rfl) (by kernel_rfl) (by kernel_rfl) (by kernel_rfl) (by kernel_rfl) (.two fun v u => by kernel_rfl) ?h
  case hb => rfl
  intro L
  refine Exs.stop (Ex.ret (Ev.bin (Ev.cmp (Ev.val (by rfl)) (Ev.val (by rfl)) Cop.gtB (by rfl)) (Ev.cmp (Ev.val (by rfl)) (Ev.val (by rfl)) Cop.ltB (by rfl)) Bop.subB)) rfl
end
local macro_rules | `(tactic| walk_at "ms") => `(tactic| first | rfl | decide | omega | assumption)
local macro_rules | `(tactic| walk_at "mb") => `(tactic| first
  | with_reducible exact Bop.add | with_reducible exact Bop.sub | with_reducible exact Bop.and | with_reducible exact Bop.or
  | ((with_reducible refine' Bop.fmod ?_); walk_at "ms")
  | ((with_reducible refine' Bop.fdiv ?_ ?_) <;> walk_at "ms")
  | ((with_reducible refine' Bop.shl ?_ ?_ ?_) <;> walk_at "ms")
  | ((with_reducible refine' Bop.shr ?_); walk_at "ms")
  | ((with_reducible refine' Bop.mul ?_ ?_) <;> walk_at "ms")
  | with_reducible exact Bop.subB)
local macro_rules | `(tactic| walk_at "mc") => `(tactic| first
  | with_reducible exact Cop.eq | with_reducible exact Cop.ne | with_reducible exact Cop.lt | with_reducible exact Cop.le | with_reducible exact Cop.gt | with_reducible exact Cop.ge | with_reducible exact Cop.eqB | with_reducible exact Cop.ltB | with_reducible exact Cop.gtB
  | with_reducible exact Cop.isSelf
  | ((with_reducible refine' Cop.is ?_); rfl) | ((with_reducible refine' Cop.isNot ?_); rfl)
  | with_reducible exact Cop.isNone none_none | with_reducible exact Cop.isNone bool_none | with_reducible exact Cop.isNotNone none_none | with_reducible exact Cop.isNotNone bool_none)
local macro_rules | `(tactic| walk_at "mg") => `(tactic| first
  | ((with_reducible refine' Ev.glob ?mg1 ?mg2 ?mg3 ?mg4); (case mg1 => rfl); (case mg2 => rfl); (case mg3 => exact fun _ _ => .raw _); (case mg4 => decide))
  | ((with_reducible refine' Ev.blt ?mg1 ?mg2 ?mg3 ?mg4 ?mg5); (case mg1 => kernel_rfl); (case mg2 => boot_fact); (case mg3 => decide); (case mg4 => rfl); (case mg5 => decide)))
local macro_rules | `(tactic| walk_at "me") => `(tactic| first
  | with_reducible exact Ev.int | with_reducible exact Ev.bool | with_reducible exact Ev.none | with_reducible exact Ev.str | with_reducible exact Ev.bytes
  | ((with_reducible refine' Ev.val ?me1 ?me2); (case me1 => rfl); (case me2 => decide)) | ((with_reducible refine' Ev.own ?me1 ?me2); (case me1 => rfl); (case me2 => decide))
  | ((with_reducible refine' Ev.bin ?me1 ?me2 ?me3); (case me1 => walk_at "me"); (case me2 => walk_at "me"); (case me3 => walk_at "mb"))
  | ((with_reducible refine' Ev.cmp ?me1 ?me2 ?me3 ?me4); (case me1 => walk_at "me"); (case me2 => walk_at "me"); (case me3 => walk_at "mc"); (case me4 => rfl))
  | ((with_reducible refine' Ev.un ?me1 Uop.neg); (case me1 => walk_at "me"))
  | walk_at "mg")
-- F2
section
set_option maxRecDepth 100000
variable {prog : Program} {w : World}

noncomputable def b64v (c : Int) : Int := if 65 ≤ c ∧ c ≤ 90 then c - 65 else if 97 ≤ c ∧ c ≤ 122 then c - 71 else if 48 ≤ c ∧ c ≤ 57 then c + 4 else if c = 43 then 62 else if c = 47 then 63 else 64

theorem sp_b64v (c : Int) : Spec prog w (KK w) 5 (.ref 106) [.int c] [] (.int (b64v c)) := by
  refine Spec.fn (n := 4) 106 (bd := [("c", .int c)]) (by kernel_rfl) (body := ?b) ?hb (by kernel_rfl) (by kernel_rfl) (by kernel_rfl) (by kernel_rfl) (by kernel_rfl) (by kernel_rfl) (by kernel_rfl) (by kernel_rfl) (.one fun v => by kernel_rfl) ?h
  case hb => rfl
  intro L
  have hv : b64v c = b64v c := rfl
  conv at hv => rhs; unfold b64v
  (((with_reducible refine' Exs.ite ?z1.mif1 ?z1.mif2 ?z1.mif3); (case z1.mif1 => (first | ((with_reducible refine' Tr.cmp ?z2.mt1 ?z2.mt2 ?z2.mt3 ?z2.mt4); (case z2.mt1 => walk_at "me"); (case z2.mt2 => walk_at "me"); (case z2.mt3 => walk_at "mc"); (case z2.mt4 => rfl)) | ((with_reducible refine' Tr.chain ?z2.mt1 ?z2.mt2 ?z2.mt3 ?z2.mt4 ?z2.mt5 ?z2.mt6); (case z2.mt1 => walk_at "me"); (case z2.mt2 => walk_at "me"); (case z2.mt3 => walk_at "me"); (case z2.mt4 => walk_at "mc"); (case z2.mt5 => walk_at "mc"); (case z2.mt6 => rfl)) | ((with_reducible refine' Tr.val ?z2.mt1 ?z2.mt2 ?z2.mt3); (case z2.mt1 => walk_at "me"); (case z2.mt2 => first | with_reducible exact Tru.bool | with_reducible exact Tru.int | with_reducible exact Tru.none); (case z2.mt3 => rfl)))); all_goals (try dsimp only [List.cons_append, List.nil_append])))
  · intro h; simp only [Bool.and_eq_true, decide_eq_true_eq] at h
    rw [if_pos h] at hv
    (((with_reducible refine' Exs.stop (Ex.ret (Ev.mono ?z3.mret1 ?z3.mret2)) ?z3.mret3); (case z3.mret3 => rfl); (case z3.mret1 => walk_at "me"))); rw [hv]
  · intro h; simp only [Bool.and_eq_false_iff, decide_eq_false_iff_not] at h
    rw [if_neg (by omega)] at hv
    (((with_reducible refine' Exs.ite ?z4.mif1 ?z4.mif2 ?z4.mif3); (case z4.mif1 => (first | ((with_reducible refine' Tr.cmp ?z5.mt1 ?z5.mt2 ?z5.mt3 ?z5.mt4); (case z5.mt1 => walk_at "me"); (case z5.mt2 => walk_at "me"); (case z5.mt3 => walk_at "mc"); (case z5.mt4 => rfl)) | ((with_reducible refine' Tr.chain ?z5.mt1 ?z5.mt2 ?z5.mt3 ?z5.mt4 ?z5.mt5 ?z5.mt6); (case z5.mt1 => walk_at "me"); (case z5.mt2 => walk_at "me"); (case z5.mt3 => walk_at "me"); (case z5.mt4 => walk_at "mc"); (case z5.mt5 => walk_at "mc"); (case z5.mt6 => rfl)) | ((with_reducible refine' Tr.val ?z5.mt1 ?z5.mt2 ?z5.mt3); (case z5.mt1 => walk_at "me"); (case z5.mt2 => first | with_reducible exact Tru.bool | with_reducible exact Tru.int | with_reducible exact Tru.none); (case z5.mt3 => rfl)))); all_goals (try dsimp only [List.cons_append, List.nil_append])))
    · intro h; simp only [Bool.and_eq_true, decide_eq_true_eq] at h
      rw [if_pos h] at hv
      (((with_reducible refine' Exs.stop (Ex.ret (Ev.mono ?z6.mret1 ?z6.mret2)) ?z6.mret3); (case z6.mret3 => rfl); (case z6.mret1 => walk_at "me"))); rw [hv]
    · intro h; simp only [Bool.and_eq_false_iff, decide_eq_false_iff_not] at h
      rw [if_neg (by omega)] at hv
      (((with_reducible refine' Exs.ite ?z7.mif1 ?z7.mif2 ?z7.mif3); (case z7.mif1 => (first | ((with_reducible refine' Tr.cmp ?z8.mt1 ?z8.mt2 ?z8.mt3 ?z8.mt4); (case z8.mt1 => walk_at "me"); (case z8.mt2 => walk_at "me"); (case z8.mt3 => walk_at "mc"); (case z8.mt4 => rfl)) | ((with_reducible refine' Tr.chain ?z8.mt1 ?z8.mt2 ?z8.mt3 ?z8.mt4 ?z8.mt5 ?z8.mt6); (case z8.mt1 => walk_at "me"); (case z8.mt2 => walk_at "me"); (case z8.mt3 => walk_at "me"); (case z8.mt4 => walk_at "mc"); (case z8.mt5 => walk_at "mc"); (case z8.mt6 => rfl)) | ((with_reducible refine' Tr.val ?z8.mt1 ?z8.mt2 ?z8.mt3); (case z8.mt1 => walk_at "me"); (case z8.mt2 => first | with_reducible exact Tru.bool | with_reducible exact Tru.int | with_reducible exact Tru.none); (case z8.mt3 => rfl)))); all_goals (try dsimp only [List.cons_append, List.nil_append])))
      · intro h; simp only [Bool.and_eq_true, decide_eq_true_eq] at h
        rw [if_pos h] at hv
        (((with_reducible refine' Exs.stop (Ex.ret (Ev.mono ?z9.mret1 ?z9.mret2)) ?z9.mret3); (case z9.mret3 => rfl); (case z9.mret1 => walk_at "me"))); rw [hv]
      · intro h; simp only [Bool.and_eq_false_iff, decide_eq_false_iff_not] at h
        rw [if_neg (by omega)] at hv
        (((with_reducible refine' Exs.ite ?z10.mif1 ?z10.mif2 ?z10.mif3); (case z10.mif1 => (first | ((with_reducible refine' Tr.cmp ?z11.mt1 ?z11.mt2 ?z11.mt3 ?z11.mt4); (case z11.mt1 => walk_at "me"); (case z11.mt2 => walk_at "me"); (case z11.mt3 => walk_at "mc"); (case z11.mt4 => rfl)) | ((with_reducible refine' Tr.chain ?z11.mt1 ?z11.mt2 ?z11.mt3 ?z11.mt4 ?z11.mt5 ?z11.mt6); (case z11.mt1 => walk_at "me"); (case z11.mt2 => walk_at "me"); (case z11.mt3 => walk_at "me"); (case z11.mt4 => walk_at "mc"); (case z11.mt5 => walk_at "mc"); (case z11.mt6 => rfl)) | ((with_reducible refine' Tr.val ?z11.mt1 ?z11.mt2 ?z11.mt3); (case z11.mt1 => walk_at "me"); (case z11.mt2 => first | with_reducible exact Tru.bool | with_reducible exact Tru.int | with_reducible exact Tru.none); (case z11.mt3 => rfl)))); all_goals (try dsimp only [List.cons_append, List.nil_append])))
        · intro h; simp only [beq_iff_eq] at h
          rw [if_pos h] at hv
          (((with_reducible refine' Exs.stop (Ex.ret (Ev.mono ?z12.mret1 ?z12.mret2)) ?z12.mret3); (case z12.mret3 => rfl); (case z12.mret1 => walk_at "me"))); rw [hv]
        · intro h; simp only [beq_eq_false_iff_ne] at h
          rw [if_neg h] at hv
          (((with_reducible refine' Exs.ite ?z13.mif1 ?z13.mif2 ?z13.mif3); (case z13.mif1 => (first | ((with_reducible refine' Tr.cmp ?z14.mt1 ?z14.mt2 ?z14.mt3 ?z14.mt4); (case z14.mt1 => walk_at "me"); (case z14.mt2 => walk_at "me"); (case z14.mt3 => walk_at "mc"); (case z14.mt4 => rfl)) | ((with_reducible refine' Tr.chain ?z14.mt1 ?z14.mt2 ?z14.mt3 ?z14.mt4 ?z14.mt5 ?z14.mt6); (case z14.mt1 => walk_at "me"); (case z14.mt2 => walk_at "me"); (case z14.mt3 => walk_at "me"); (case z14.mt4 => walk_at "mc"); (case z14.mt5 => walk_at "mc"); (case z14.mt6 => rfl)) | ((with_reducible refine' Tr.val ?z14.mt1 ?z14.mt2 ?z14.mt3); (case z14.mt1 => walk_at "me"); (case z14.mt2 => first | with_reducible exact Tru.bool | with_reducible exact Tru.int | with_reducible exact Tru.none); (case z14.mt3 => rfl)))); all_goals (try dsimp only [List.cons_append, List.nil_append])))
          · intro h; simp only [beq_iff_eq] at h
            rw [if_pos h] at hv
            (((with_reducible refine' Exs.stop (Ex.ret (Ev.mono ?z15.mret1 ?z15.mret2)) ?z15.mret3); (case z15.mret3 => rfl); (case z15.mret1 => walk_at "me"))); rw [hv]
          · intro h; simp only [beq_eq_false_iff_ne] at h
            rw [if_neg h] at hv
            (((with_reducible refine' Exs.stop (Ex.ret (Ev.mono ?z16.mret1 ?z16.mret2)) ?z16.mret3); (case z16.mret3 => rfl); (case z16.mret1 => walk_at "me"))); rw [hv]
end
-- F3
section
set_option maxRecDepth 100000
variable {prog : Program} {w : World}

theorem kpr {a : Addr} {fd : FuncData} (hf : (KK w).lookup a = some ⟨.type "function", none, .func fd, #[]⟩) : ∀ h, Bs (KK w) h → Kpr (.ref a) h := kpr_fn hf

/-- a call of a def by places alone -/
theorem Ev.fn {n : Nat} {env : Env} {σ : Sto} (a : Addr) {x : Str} {np pos : Pos} {args : List Expr} {ds : List D} {r : D} (hx : nsIn (KK w) mainGlobals x = some (some (.ref a))) (hk : env.kindOf x = some .globalImplicit) (hd : (x == ("__debug__" : Str)) = false)
    (hf : (KK w).lookup a = some ⟨.type "function", Option.none, .func (fdOf (KK w) a), #[]⟩) (ha : Evs prog w (KK w) true (n + 1) env σ args ds) (hs : Spec prog w (KK w) n (.ref a) ds [] r) : Ev prog w (KK w) true (n + 1) env σ (.Call (.Name x np) args [] pos) r :=
  Ev.call (Ev.glob hx hk (fun _ _ => .raw _) hd) ha Evk.nil (kpr_fn hf) hs
/-- a call of a built-in by places alone -/
theorem Ev.bfn {n : Nat} {env : Env} {σ : Sto} {f : Value} {x : Str} {np pos : Pos} {args : List Expr} {ds : List D} {r : D} (hf : Ev prog w (KK w) true (n + 1) env σ (.Name x np) (.raw f)) (hr : ∀ a, f ≠ .ref a) (ha : Evs prog w (KK w) true (n + 1) env σ args ds) (hs : Spec prog w (KK w) n f ds [] r) :
    Ev prog w (KK w) true (n + 1) env σ (.Call (.Name x np) args [] pos) r :=
  Ev.call hf ha Evk.nil (kpr_blt hr) hs


theorem sp_buffer (l : List UInt8) : Spec prog w (KK w) 5 (.ref 92) [.bytes l] [] (.bytes l) := by
  refine Spec.fn (n := 4) 92 (bd := [("data", .bytes l)]) (by kernel_rfl) (body := ?b) ?hb (by kernel_rfl) (by kernel_rfl) (by kernel_rfl) (by kernel_rfl) (by kernel_rfl) (by kernel_rfl) (by kernel_rfl) (by kernel_rfl) (.one fun v => by kernel_rfl) ?h
  case hb => rfl
  intro L
  refine Exs.cons (Ex.assign (d := .raw (.type "bytes")) (Ev.bfn (by (((with_reducible refine' Ev.blt ?z17.mbn1 ?z17.mbn2 ?z17.mbn3 ?z17.mbn4 ?z17.mbn5); (case z17.mbn1 => kernel_rfl); (case z17.mbn2 => boot_fact); (case z17.mbn3 => decide); (case z17.mbn4 => rfl); (case z17.mbn5 => decide)))) (by nofun) (Evs.cons rfl (by walk_at "me") Evs.nil) sp_typeBytes) (.inl rfl) (.inl rfl) rfl) ?_
  (((with_reducible refine' Exs.ite ?z18.mif1 ?z18.mif2 ?z18.mif3); (case z18.mif1 => (first | ((with_reducible refine' Tr.cmp ?z19.mt1 ?z19.mt2 ?z19.mt3 ?z19.mt4); (case z19.mt1 => walk_at "me"); (case z19.mt2 => walk_at "me"); (case z19.mt3 => walk_at "mc"); (case z19.mt4 => rfl)) | ((with_reducible refine' Tr.chain ?z19.mt1 ?z19.mt2 ?z19.mt3 ?z19.mt4 ?z19.mt5 ?z19.mt6); (case z19.mt1 => walk_at "me"); (case z19.mt2 => walk_at "me"); (case z19.mt3 => walk_at "me"); (case z19.mt4 => walk_at "mc"); (case z19.mt5 => walk_at "mc"); (case z19.mt6 => rfl)) | ((with_reducible refine' Tr.val ?z19.mt1 ?z19.mt2 ?z19.mt3); (case z19.mt1 => walk_at "me"); (case z19.mt2 => first | with_reducible exact Tru.bool | with_reducible exact Tru.int | with_reducible exact Tru.none); (case z19.mt3 => rfl)))); all_goals (try dsimp only [List.cons_append, List.nil_append])))
  · intro _
    (((with_reducible refine' Exs.stop (Ex.ret (Ev.mono ?z20.mret1 ?z20.mret2)) ?z20.mret3); (case z20.mret3 => rfl); (case z20.mret1 => walk_at "me"))); rfl
  · intro h; exact absurd h (by decide)

theorem sp_ascii (l : List UInt8) : Spec prog w (KK w) 5 (.ref 85) [.bytes l] [] (.bytes l) := by
  refine Spec.fn (n := 4) 85 (bd := [("data", .bytes l)]) (by kernel_rfl) (body := ?b) ?hb (by kernel_rfl) (by kernel_rfl) (by kernel_rfl) (by kernel_rfl) (by kernel_rfl) (by kernel_rfl) (by kernel_rfl) (by kernel_rfl) (.one fun v => by kernel_rfl) ?h
  case hb => rfl
  intro L
  refine Exs.cons (Ex.assign (d := .raw (.type "bytes")) (Ev.bfn (by (((with_reducible refine' Ev.blt ?z21.mbn1 ?z21.mbn2 ?z21.mbn3 ?z21.mbn4 ?z21.mbn5); (case z21.mbn1 => kernel_rfl); (case z21.mbn2 => boot_fact); (case z21.mbn3 => decide); (case z21.mbn4 => rfl); (case z21.mbn5 => decide)))) (by nofun) (Evs.cons rfl (by walk_at "me") Evs.nil) sp_typeBytes) (.inl rfl) (.inl rfl) rfl) ?_
  (((with_reducible refine' Exs.ite ?z22.mif1 ?z22.mif2 ?z22.mif3); (case z22.mif1 => (first | ((with_reducible refine' Tr.cmp ?z23.mt1 ?z23.mt2 ?z23.mt3 ?z23.mt4); (case z23.mt1 => walk_at "me"); (case z23.mt2 => walk_at "me"); (case z23.mt3 => walk_at "mc"); (case z23.mt4 => rfl)) | ((with_reducible refine' Tr.chain ?z23.mt1 ?z23.mt2 ?z23.mt3 ?z23.mt4 ?z23.mt5 ?z23.mt6); (case z23.mt1 => walk_at "me"); (case z23.mt2 => walk_at "me"); (case z23.mt3 => walk_at "me"); (case z23.mt4 => walk_at "mc"); (case z23.mt5 => walk_at "mc"); (case z23.mt6 => rfl)) | ((with_reducible refine' Tr.val ?z23.mt1 ?z23.mt2 ?z23.mt3); (case z23.mt1 => walk_at "me"); (case z23.mt2 => first | with_reducible exact Tru.bool | with_reducible exact Tru.int | with_reducible exact Tru.none); (case z23.mt3 => rfl)))); all_goals (try dsimp only [List.cons_append, List.nil_append])))
  · intro h; exact absurd h (by decide)
  · intro _
    (((with_reducible refine' Exs.ite ?z24.mif1 ?z24.mif2 ?z24.mif3); (case z24.mif1 => (first | ((with_reducible refine' Tr.cmp ?z25.mt1 ?z25.mt2 ?z25.mt3 ?z25.mt4); (case z25.mt1 => walk_at "me"); (case z25.mt2 => walk_at "me"); (case z25.mt3 => walk_at "mc"); (case z25.mt4 => rfl)) | ((with_reducible refine' Tr.chain ?z25.mt1 ?z25.mt2 ?z25.mt3 ?z25.mt4 ?z25.mt5 ?z25.mt6); (case z25.mt1 => walk_at "me"); (case z25.mt2 => walk_at "me"); (case z25.mt3 => walk_at "me"); (case z25.mt4 => walk_at "mc"); (case z25.mt5 => walk_at "mc"); (case z25.mt6 => rfl)) | ((with_reducible refine' Tr.val ?z25.mt1 ?z25.mt2 ?z25.mt3); (case z25.mt1 => walk_at "me"); (case z25.mt2 => first | with_reducible exact Tru.bool | with_reducible exact Tru.int | with_reducible exact Tru.none); (case z25.mt3 => rfl)))); all_goals (try dsimp only [List.cons_append, List.nil_append])))
    · intro _
      (((with_reducible refine' Exs.stop (Ex.ret (Ev.mono ?z26.mret1 ?z26.mret2)) ?z26.mret3); (case z26.mret3 => rfl); (case z26.mret1 => walk_at "me"))); rfl
    · intro h; exact absurd h (by decide)

theorem sp_truth (b : Bool) : Spec prog w (KK w) 5 (.ref 99) [.bool b] [] (.bool b) := by
  refine Spec.fn (n := 4) 99 (bd := [("x", .bool b)]) (by kernel_rfl) (body := ?b) ?hb (by kernel_rfl) (by kernel_rfl) (by kernel_rfl) (by kernel_rfl) (by kernel_rfl) (by kernel_rfl) (by kernel_rfl) (by kernel_rfl) (.one fun v => by kernel_rfl) ?h
  case hb => rfl
  intro L
  refine Exs.cons (Ex.assign (d := .raw (.type "bool")) (Ev.bfn (by (((with_reducible refine' Ev.blt ?z27.mbn1 ?z27.mbn2 ?z27.mbn3 ?z27.mbn4 ?z27.mbn5); (case z27.mbn1 => kernel_rfl); (case z27.mbn2 => boot_fact); (case z27.mbn3 => decide); (case z27.mbn4 => rfl); (case z27.mbn5 => decide)))) (by nofun) (Evs.cons rfl (by walk_at "me") Evs.nil) sp_typeBool) (.inl rfl) (.inl rfl) rfl) ?_
  refine Exs.ite (c := true) (Tr.bools (Trs.or (b := false) (c := true) (by (((with_reducible refine' Tr.mono ?z28.mtb1 ?z28.mtb2); (case z28.mtb1 => (first | ((with_reducible refine' Tr.cmp ?z30.mt1 ?z30.mt2 ?z30.mt3 ?z30.mt4); (case z30.mt1 => walk_at "me"); (case z30.mt2 => walk_at "me"); (case z30.mt3 => walk_at "mc"); (case z30.mt4 => rfl)) | ((with_reducible refine' Tr.chain ?z30.mt1 ?z30.mt2 ?z30.mt3 ?z30.mt4 ?z30.mt5 ?z30.mt6); (case z30.mt1 => walk_at "me"); (case z30.mt2 => walk_at "me"); (case z30.mt3 => walk_at "me"); (case z30.mt4 => walk_at "mc"); (case z30.mt5 => walk_at "mc"); (case z30.mt6 => rfl)) | ((with_reducible refine' Tr.val ?z30.mt1 ?z30.mt2 ?z30.mt3); (case z30.mt1 => walk_at "me"); (case z30.mt2 => first | with_reducible exact Tru.bool | with_reducible exact Tru.int | with_reducible exact Tru.none); (case z30.mt3 => rfl)))); (case z28.mtb2 => first | rfl | decide)))) fun _ => Trs.or (b := true) (c := false) (by (((with_reducible refine' Tr.mono ?z29.mtb1 ?z29.mtb2); (case z29.mtb1 => (first | ((with_reducible refine' Tr.cmp ?z31.mt1 ?z31.mt2 ?z31.mt3 ?z31.mt4); (case z31.mt1 => walk_at "me"); (case z31.mt2 => walk_at "me"); (case z31.mt3 => walk_at "mc"); (case z31.mt4 => rfl)) | ((with_reducible refine' Tr.chain ?z31.mt1 ?z31.mt2 ?z31.mt3 ?z31.mt4 ?z31.mt5 ?z31.mt6); (case z31.mt1 => walk_at "me"); (case z31.mt2 => walk_at "me"); (case z31.mt3 => walk_at "me"); (case z31.mt4 => walk_at "mc"); (case z31.mt5 => walk_at "mc"); (case z31.mt6 => rfl)) | ((with_reducible refine' Tr.val ?z31.mt1 ?z31.mt2 ?z31.mt3); (case z31.mt1 => walk_at "me"); (case z31.mt2 => first | with_reducible exact Tru.bool | with_reducible exact Tru.int | with_reducible exact Tru.none); (case z31.mt3 => rfl)))); (case z29.mtb2 => first | rfl | decide)))) fun h => absurd h (by decide))) (fun _ => ?_) (fun h => absurd h (by decide))
  dsimp only [List.cons_append, List.nil_append]
  refine Exs.stop (Ex.ret (Ev.ite (c := b) (by (first | ((with_reducible refine' Tr.cmp ?z32.mt1 ?z32.mt2 ?z32.mt3 ?z32.mt4); (case z32.mt1 => walk_at "me"); (case z32.mt2 => walk_at "me"); (case z32.mt3 => walk_at "mc"); (case z32.mt4 => rfl)) | ((with_reducible refine' Tr.chain ?z32.mt1 ?z32.mt2 ?z32.mt3 ?z32.mt4 ?z32.mt5 ?z32.mt6); (case z32.mt1 => walk_at "me"); (case z32.mt2 => walk_at "me"); (case z32.mt3 => walk_at "me"); (case z32.mt4 => walk_at "mc"); (case z32.mt5 => walk_at "mc"); (case z32.mt6 => rfl)) | ((with_reducible refine' Tr.val ?z32.mt1 ?z32.mt2 ?z32.mt3); (case z32.mt1 => walk_at "me"); (case z32.mt2 => first | with_reducible exact Tru.bool | with_reducible exact Tru.int | with_reducible exact Tru.none); (case z32.mt3 => rfl)))) (fun h => ?_) (fun h => ?_))) rfl
  · rw [h]; walk_at "me"
  · rw [h]; walk_at "me"

theorem sp_decodeData (l : List UInt8) : Spec prog w (KK w) 5 (.ref 65) [.bytes l] [] (.bytes l) := by
  refine Spec.fn (n := 4) 65 (bd := [("s", .bytes l)]) (by kernel_rfl) (body := ?b) ?hb (by kernel_rfl) (by kernel_rfl) (by kernel_rfl) (by kernel_rfl) (by kernel_rfl) (by kernel_rfl) (by kernel_rfl) (by kernel_rfl) (.one fun v => by kernel_rfl) ?h
  case hb => rfl
  intro L
  refine Exs.ite (c := false) (Tr.val (Ev.bfn (r := .bool false) (by (((with_reducible refine' Ev.blt ?z33.mbn1 ?z33.mbn2 ?z33.mbn3 ?z33.mbn4 ?z33.mbn5); (case z33.mbn1 => kernel_rfl); (case z33.mbn2 => boot_fact); (case z33.mbn3 => decide); (case z33.mbn4 => rfl); (case z33.mbn5 => decide)))) (by nofun) (Evs.cons rfl (by walk_at "me") (Evs.cons rfl (by (((with_reducible refine' Ev.blt ?z34.mbn1 ?z34.mbn2 ?z34.mbn3 ?z34.mbn4 ?z34.mbn5); (case z34.mbn1 => kernel_rfl); (case z34.mbn2 => boot_fact); (case z34.mbn3 => decide); (case z34.mbn4 => rfl); (case z34.mbn5 => decide)))) Evs.nil)) (sp_isBytes (T := "str") (by kernel_rfl))) Tru.bool rfl) (fun h => absurd h (by decide)) (fun _ => ?_)
  dsimp only [List.cons_append, List.nil_append]
  refine Exs.ite (c := true) (Tr.val (Ev.bfn (r := .bool true) (by (((with_reducible refine' Ev.blt ?z35.mbn1 ?z35.mbn2 ?z35.mbn3 ?z35.mbn4 ?z35.mbn5); (case z35.mbn1 => kernel_rfl); (case z35.mbn2 => boot_fact); (case z35.mbn3 => decide); (case z35.mbn4 => rfl); (case z35.mbn5 => decide)))) (by nofun) (Evs.cons rfl (by walk_at "me") (Evs.cons rfl (Ev.glob (v := .ref 58) (by kernel_rfl) rfl (fun _ _ => .raw _) (by decide)) Evs.nil)) (sp_isBytesT (its := [.type "bytes", .type "bytearray"]) (m := 0) (by kernel_rfl) (by kernel_rfl))) Tru.bool rfl) (fun _ => ?_) (fun h => absurd h (by decide))
  dsimp only [List.cons_append, List.nil_append]
  (((with_reducible refine' Exs.stop (Ex.ret (Ev.mono ?z36.mret1 ?z36.mret2)) ?z36.mret3); (case z36.mret3 => rfl); (case z36.mret1 => walk_at "me"))); rfl

noncomputable def lrank (f : Int) : Int := if f < 52 then f + 13 else if f < 62 then f - 50 else f - 62
theorem sp_rank (f : Int) : Spec prog w (KK w) 5 (.ref 197) [.int f] [] (.int (lrank f)) := by
  refine Spec.fn (n := 4) 197 (bd := [("figure", .int f)]) (by kernel_rfl) (body := ?b) ?hb (by kernel_rfl) (by kernel_rfl) (by kernel_rfl) (by kernel_rfl) (by kernel_rfl) (by kernel_rfl) (by kernel_rfl) (by kernel_rfl) (.one fun v => by kernel_rfl) ?h
  case hb => rfl
  intro L
  have hv : lrank f = lrank f := rfl
  conv at hv => rhs; unfold lrank
  (((with_reducible refine' Exs.ite ?z37.mif1 ?z37.mif2 ?z37.mif3); (case z37.mif1 => (first | ((with_reducible refine' Tr.cmp ?z38.mt1 ?z38.mt2 ?z38.mt3 ?z38.mt4); (case z38.mt1 => walk_at "me"); (case z38.mt2 => walk_at "me"); (case z38.mt3 => walk_at "mc"); (case z38.mt4 => rfl)) | ((with_reducible refine' Tr.chain ?z38.mt1 ?z38.mt2 ?z38.mt3 ?z38.mt4 ?z38.mt5 ?z38.mt6); (case z38.mt1 => walk_at "me"); (case z38.mt2 => walk_at "me"); (case z38.mt3 => walk_at "me"); (case z38.mt4 => walk_at "mc"); (case z38.mt5 => walk_at "mc"); (case z38.mt6 => rfl)) | ((with_reducible refine' Tr.val ?z38.mt1 ?z38.mt2 ?z38.mt3); (case z38.mt1 => walk_at "me"); (case z38.mt2 => first | with_reducible exact Tru.bool | with_reducible exact Tru.int | with_reducible exact Tru.none); (case z38.mt3 => rfl)))); all_goals (try dsimp only [List.cons_append, List.nil_append])))
  · intro h; simp only [decide_eq_true_eq] at h
    rw [if_pos h] at hv
    (((with_reducible refine' Exs.stop (Ex.ret (Ev.mono ?z39.mret1 ?z39.mret2)) ?z39.mret3); (case z39.mret3 => rfl); (case z39.mret1 => walk_at "me"))); rw [hv]
  · intro h; simp only [decide_eq_false_iff_not] at h
    rw [if_neg h] at hv
    refine Exs.stop (Ex.ret (Ev.ite (c := decide (f < 62)) (by (first | ((with_reducible refine' Tr.cmp ?z40.mt1 ?z40.mt2 ?z40.mt3 ?z40.mt4); (case z40.mt1 => walk_at "me"); (case z40.mt2 => walk_at "me"); (case z40.mt3 => walk_at "mc"); (case z40.mt4 => rfl)) | ((with_reducible refine' Tr.chain ?z40.mt1 ?z40.mt2 ?z40.mt3 ?z40.mt4 ?z40.mt5 ?z40.mt6); (case z40.mt1 => walk_at "me"); (case z40.mt2 => walk_at "me"); (case z40.mt3 => walk_at "me"); (case z40.mt4 => walk_at "mc"); (case z40.mt5 => walk_at "mc"); (case z40.mt6 => rfl)) | ((with_reducible refine' Tr.val ?z40.mt1 ?z40.mt2 ?z40.mt3); (case z40.mt1 => walk_at "me"); (case z40.mt2 => first | with_reducible exact Tru.bool | with_reducible exact Tru.int | with_reducible exact Tru.none); (case z40.mt3 => rfl)))) (fun h => ?_) (fun h => ?_))) rfl
    · simp only [decide_eq_true_eq] at h
      rw [if_pos h] at hv; rw [hv]; walk_at "me"
    · simp only [decide_eq_false_iff_not] at h
      rw [if_neg h] at hv; rw [hv]; walk_at "me"

noncomputable def hexv (c : Int) : Int := if 48 ≤ c ∧ c ≤ 57 then c - 48 else if 65 ≤ c ∧ c ≤ 70 then c - 55 else if 97 ≤ c ∧ c ≤ 102 then c - 87 else 16
theorem sp_hexv (c : Int) : Spec prog w (KK w) 5 (.ref 138) [.int c] [] (.int (hexv c)) := by
  refine Spec.fn (n := 4) 138 (bd := [("c", .int c)]) (by kernel_rfl) (body := ?b) ?hb (by kernel_rfl) (by kernel_rfl) (by kernel_rfl) (by kernel_rfl) (by kernel_rfl) (by kernel_rfl) (by kernel_rfl) (by kernel_rfl) (.one fun v => by kernel_rfl) ?h
  case hb => rfl
  intro L
  have hv : hexv c = hexv c := rfl
  conv at hv => rhs; unfold hexv
  (((with_reducible refine' Exs.ite ?z41.mif1 ?z41.mif2 ?z41.mif3); (case z41.mif1 => (first | ((with_reducible refine' Tr.cmp ?z42.mt1 ?z42.mt2 ?z42.mt3 ?z42.mt4); (case z42.mt1 => walk_at "me"); (case z42.mt2 => walk_at "me"); (case z42.mt3 => walk_at "mc"); (case z42.mt4 => rfl)) | ((with_reducible refine' Tr.chain ?z42.mt1 ?z42.mt2 ?z42.mt3 ?z42.mt4 ?z42.mt5 ?z42.mt6); (case z42.mt1 => walk_at "me"); (case z42.mt2 => walk_at "me"); (case z42.mt3 => walk_at "me"); (case z42.mt4 => walk_at "mc"); (case z42.mt5 => walk_at "mc"); (case z42.mt6 => rfl)) | ((with_reducible refine' Tr.val ?z42.mt1 ?z42.mt2 ?z42.mt3); (case z42.mt1 => walk_at "me"); (case z42.mt2 => first | with_reducible exact Tru.bool | with_reducible exact Tru.int | with_reducible exact Tru.none); (case z42.mt3 => rfl)))); all_goals (try dsimp only [List.cons_append, List.nil_append])))
  · intro h; simp only [Bool.and_eq_true, decide_eq_true_eq] at h
    rw [if_pos h] at hv
    (((with_reducible refine' Exs.stop (Ex.ret (Ev.mono ?z43.mret1 ?z43.mret2)) ?z43.mret3); (case z43.mret3 => rfl); (case z43.mret1 => walk_at "me"))); rw [hv]
  · intro h; simp only [Bool.and_eq_false_iff, decide_eq_false_iff_not] at h
    rw [if_neg (by omega)] at hv
    (((with_reducible refine' Exs.ite ?z44.mif1 ?z44.mif2 ?z44.mif3); (case z44.mif1 => (first | ((with_reducible refine' Tr.cmp ?z45.mt1 ?z45.mt2 ?z45.mt3 ?z45.mt4); (case z45.mt1 => walk_at "me"); (case z45.mt2 => walk_at "me"); (case z45.mt3 => walk_at "mc"); (case z45.mt4 => rfl)) | ((with_reducible refine' Tr.chain ?z45.mt1 ?z45.mt2 ?z45.mt3 ?z45.mt4 ?z45.mt5 ?z45.mt6); (case z45.mt1 => walk_at "me"); (case z45.mt2 => walk_at "me"); (case z45.mt3 => walk_at "me"); (case z45.mt4 => walk_at "mc"); (case z45.mt5 => walk_at "mc"); (case z45.mt6 => rfl)) | ((with_reducible refine' Tr.val ?z45.mt1 ?z45.mt2 ?z45.mt3); (case z45.mt1 => walk_at "me"); (case z45.mt2 => first | with_reducible exact Tru.bool | with_reducible exact Tru.int | with_reducible exact Tru.none); (case z45.mt3 => rfl)))); all_goals (try dsimp only [List.cons_append, List.nil_append])))
    · intro h; simp only [Bool.and_eq_true, decide_eq_true_eq] at h
      rw [if_pos h] at hv
      (((with_reducible refine' Exs.stop (Ex.ret (Ev.mono ?z46.mret1 ?z46.mret2)) ?z46.mret3); (case z46.mret3 => rfl); (case z46.mret1 => walk_at "me"))); rw [hv]
    · intro h; simp only [Bool.and_eq_false_iff, decide_eq_false_iff_not] at h
      rw [if_neg (by omega)] at hv
      (((with_reducible refine' Exs.ite ?z47.mif1 ?z47.mif2 ?z47.mif3); (case z47.mif1 => (first | ((with_reducible refine' Tr.cmp ?z48.mt1 ?z48.mt2 ?z48.mt3 ?z48.mt4); (case z48.mt1 => walk_at "me"); (case z48.mt2 => walk_at "me"); (case z48.mt3 => walk_at "mc"); (case z48.mt4 => rfl)) | ((with_reducible refine' Tr.chain ?z48.mt1 ?z48.mt2 ?z48.mt3 ?z48.mt4 ?z48.mt5 ?z48.mt6); (case z48.mt1 => walk_at "me"); (case z48.mt2 => walk_at "me"); (case z48.mt3 => walk_at "me"); (case z48.mt4 => walk_at "mc"); (case z48.mt5 => walk_at "mc"); (case z48.mt6 => rfl)) | ((with_reducible refine' Tr.val ?z48.mt1 ?z48.mt2 ?z48.mt3); (case z48.mt1 => walk_at "me"); (case z48.mt2 => first | with_reducible exact Tru.bool | with_reducible exact Tru.int | with_reducible exact Tru.none); (case z48.mt3 => rfl)))); all_goals (try dsimp only [List.cons_append, List.nil_append])))
      · intro h; simp only [Bool.and_eq_true, decide_eq_true_eq] at h
        rw [if_pos h] at hv
        (((with_reducible refine' Exs.stop (Ex.ret (Ev.mono ?z49.mret1 ?z49.mret2)) ?z49.mret3); (case z49.mret3 => rfl); (case z49.mret1 => walk_at "me"))); rw [hv]
      · intro h; simp only [Bool.and_eq_false_iff, decide_eq_false_iff_not] at h
        rw [if_neg (by omega)] at hv
        (((with_reducible refine' Exs.stop (Ex.ret (Ev.mono ?z50.mret1 ?z50.mret2)) ?z50.mret3); (case z50.mret3 => rfl); (case z50.mret1 => walk_at "me"))); rw [hv]
end
-- F4
section
set_option maxRecDepth 100000
set_option maxHeartbeats 4000000
variable {prog : Program} {w : World}

theorem subSto.app {σ τ : Sto} : subSto σ (σ ++ τ) := fun x p h => by
  induction σ with
  | nil => cases h
  | cons a r ih =>
    obtain ⟨y, q⟩ := a
    rw [List.cons_append]
    rw [List.lookup_cons] at h ⊢
    split at h
    · exact h
    · exact ih h

theorem or_lo {a b k : Nat} (h : b < 2 ^ k) : Builtin.bitOr ((a : Int) * 2 ^ k) (b : Int) = ((a * 2 ^ k + b : Nat) : Int) := by
  have h1 : ((a : Int) * 2 ^ k) = ((a * 2 ^ k : Nat) : Int) := by push_cast; rfl
  rw [bitOr_and, h1, bitAnd_pp (Int.natCast_nonneg _) (Int.natCast_nonneg _), Int.toNat_natCast, Int.toNat_natCast]
  have h2 := nat_or_add_and (a * 2 ^ k) b
  have h3 : a * 2 ^ k ||| b = a * 2 ^ k + b := by rw [← Nat.shiftLeft_eq, Nat.shiftLeft_add_eq_or_of_lt h]
  omega
theorem and_hi {a k : Nat} : Builtin.bitAnd (a : Int) ((2 ^ k - 1 : Nat) : Int) = ((a % 2 ^ k : Nat) : Int) := by
  rw [bitAnd_pp (Int.natCast_nonneg _) (Int.natCast_nonneg _), Int.toNat_natCast, Int.toNat_natCast, Nat.and_two_pow_sub_one_eq_mod]
theorem and3 (a : Nat) : Builtin.bitAnd (a : Int) 3 = ((a % 4 : Nat) : Int) := and_hi (k := 2)
theorem and15 (a : Nat) : Builtin.bitAnd (a : Int) 15 = ((a % 16 : Nat) : Int) := and_hi (k := 4)
theorem and63 (a : Nat) : Builtin.bitAnd (a : Int) 63 = ((a % 64 : Nat) : Int) := and_hi (k := 6)
theorem and65535 (a : Nat) : Builtin.bitAnd (a : Int) 65535 = ((a % 65536 : Nat) : Int) := and_hi (k := 16)
theorem fdiv_nat (a b : Nat) : (a : Int).fdiv (b : Int) = ((a / b : Nat) : Int) := by
  rw [Int.fdiv_eq_ediv_of_nonneg _ (Int.natCast_nonneg _)]; rfl

noncomputable def tab : List UInt8 := [65, 66, 67, 68, 69, 70, 71, 72, 73, 74, 75, 76, 77, 78, 79, 80, 81, 82, 83, 84, 85, 86, 87, 88, 89, 90, 97, 98, 99, 100, 101, 102, 103, 104, 105, 106, 107, 108, 109, 110, 111, 112, 113, 114, 115, 116, 117, 118, 119, 120, 121, 122, 48, 49, 50, 51, 52, 53, 54, 55, 56, 57, 43, 47]
noncomputable def chr64 (x : Nat) : Int := ((tab.getD x 0).toNat : Int)
noncomputable def b2S (l : List UInt8) (out : List D) (lb : Int) (lc : Nat) : Sto := [("newline", .v (.bool false)), ("data", .v (.bytes l)), ("bin_data", .v (.bytes l)), ("out", .o out), ("leftbits", .v (.int lb)), ("leftchar", .v (.int (lc : Int)))]
noncomputable def b2step : List Nat × Nat × Nat → Nat → List Nat × Nat × Nat
  | (out, 0, lc), b => (out ++ [(lc * 256 + b) % 65536 / 4 % 64], 2, (lc * 256 + b) % 65536)
  | (out, 2, lc), b => (out ++ [(lc * 256 + b) % 65536 / 16 % 64], 4, (lc * 256 + b) % 65536)
  | (out, _, lc), b => (out ++ [(lc * 256 + b) % 65536 / 64 % 64, (lc * 256 + b) % 65536 % 64], 0, (lc * 256 + b) % 65536)
noncomputable def b2all (l : List UInt8) : List Nat × Nat × Nat := (nums l).foldl b2step ([], 0, 0)
noncomputable def b2end : List Nat × Nat × Nat → List Int
  | (out, 2, lc) => out.map chr64 ++ [chr64 (lc % 4 * 16), 61, 61]
  | (out, 4, lc) => out.map chr64 ++ [chr64 (lc % 16 * 4), 61]
  | (out, _, _) => out.map chr64

theorem ev_chr {n : Nat} {env : Env} {σ : Sto} {e : Expr} {np pos : Pos} {x : Nat} (hk : env.kindOf "_B64" = some .globalImplicit) (hx : x < 64) (h : Ev prog w (KK w) true n env σ e (.int (x : Int))) (hs : ∀ o i, subscripted e false o i = operate [o, i] (getItem o i)) : Ev prog w (KK w) true n env σ (.Subscript (.Name "_B64" np) e pos) (.int (chr64 x)) := by
  have ⟨t, ht⟩ : ∃ t, nsIn (KK w) mainGlobals "_B64" = some (some (.bytes tab.toArray t)) := ⟨_, by rfl⟩
  exact Ev.sub (d1 := .bytes tab) (Ev.glob ht hk (fun _ _ => .bytes _ _) (by decide)) h (Sop.bytesItem (Int.natCast_nonneg _) (by show (x : Int) < 64; omega) (by decide) hs)

theorem ev_lc {n : Nat} {env : Env} {σ : Sto} {p0 p1 p2 p3 p4 p5 p6 : Pos} {k1 k2} {lc b : Nat} (h : σ.lookup ("leftchar" : Str) = some (PV.v (D.int (lc : Int)))) (hb : σ.lookup ("b" : Str) = some (PV.v (D.int (b : Int)))) (hl : lc < 65536) (h256 : b < 256) : Ev prog w (KK w) true n env σ (.BinOp (.BinOp (.BinOp (.Name "leftchar" p0) .LShift (.Constant (.int 8) k1 p1) p2) .BitOr (.Name "b" p3) p4) .BitAnd (.Constant (.int 65535) k2 p5) p6) (.int (((lc * 256 + b) % 65536 : Nat) : Int)) := by
  refine Ev.mono (Ev.bin (Ev.bin (Ev.bin (Ev.val h) Ev.int (Bop.shl (by decide) (by decide) (by omega))) (Ev.val hb) Bop.or) Ev.int Bop.and) ?_
  rw [show (8 : Int).toNat = 8 from rfl, or_lo (k := 8) h256, and65535]
theorem fold_take {α β : Type} (f : β → α → β) (z : β) (l : List α) {i : Nat} {c : α} (h : l[i]? = some c) : (l.take (i + 1)).foldl f z = f ((l.take i).foldl f z) c := by
  rw [List.take_add_one, h]; simp
theorem fold_inv {α β : Type} {f : β → α → β} (P : β → Prop) (hs : ∀ b a, P b → P (f b a)) (l : List α) : ∀ {z : β}, P z → P (l.foldl f z) := by
  induction l with
  | nil => exact fun h => h
  | cons a r ih => exact fun h => ih (hs _ _ h)
noncomputable def b2ok (q : List Nat × Nat × Nat) : Prop := (q.2.1 = 0 ∨ q.2.1 = 2 ∨ q.2.1 = 4) ∧ q.2.2 < 65536
theorem b2ok_step (q : List Nat × Nat × Nat) (b : Nat) (h : b2ok q) : b2ok (b2step q b) := by
  obtain ⟨out, lb, lc⟩ := q
  obtain ⟨h, h2⟩ := h
  dsimp only at h h2
  rcases h with rfl | rfl | rfl
  · exact ⟨.inr (.inl rfl), Nat.mod_lt _ (by decide)⟩
  · exact ⟨.inr (.inr rfl), Nat.mod_lt _ (by decide)⟩
  · exact ⟨.inl rfl, Nat.mod_lt _ (by decide)⟩
theorem nums_get {l : List UInt8} {i : Nat} {d : D} (h : (dBytes l)[i]? = some d) : ∃ c : Nat, (nums l)[i]? = some c ∧ c < 256 ∧ d = .int (c : Int) := by
  unfold dBytes at h
  rw [List.getElem?_map] at h
  match e : l[i]?, h with
  | some c, h =>
    cases h
    exact ⟨c.toNat, by unfold nums; rw [List.getElem?_map, e]; rfl, c.toNat_lt, rfl⟩
  | none, h => cases h
theorem b2len (l : List Nat) : ∀ z : List Nat × Nat × Nat, (l.foldl b2step z).1.length ≤ z.1.length + 2 * l.length := by
  induction l with
  | nil => intro z; exact Nat.le_refl _
  | cons a r ih =>
    intro z
    refine Nat.le_trans (ih (b2step z a)) ?_
    have : (b2step z a).1.length ≤ z.1.length + 2 := by
      obtain ⟨out, lb, lc⟩ := z
      unfold b2step
      split <;> (rename_i heq; cases heq; simp)
    rw [List.length_cons]; omega
theorem chr64_lt (x : Nat) : 0 ≤ chr64 x ∧ chr64 x < 256 := by
  unfold chr64
  have := (tab.getD x 0).toNat_lt
  omega
theorem b2bytes (q : List Nat × Nat × Nat) : ∀ k ∈ b2end q, 0 ≤ k ∧ k < 256 := by
  intro k hk
  unfold b2end at hk
  split at hk <;> simp only [List.mem_append, List.mem_map, List.mem_cons, List.not_mem_nil, or_false] at hk
  · rcases hk with ⟨x, _, rfl⟩ | rfl | rfl | rfl
    · exact chr64_lt _
    · exact chr64_lt _
    · decide
    · decide
  · rcases hk with ⟨x, _, rfl⟩ | rfl | rfl
    · exact chr64_lt _
    · exact chr64_lt _
    · decide
  · obtain ⟨x, _, rfl⟩ := hk
    exact chr64_lt _
theorem sp_b2a (l : List UInt8) (hz : l.length ≤ 1000) : Spec prog w (KK w) 7 (.ref 122) [.bytes l] [("newline", .bool false)] (.bytes (toBytes (b2end (b2all l)))) := by
  refine Spec.fn (n := 6) 122 (bd := [("data", .bytes l), ("newline", .bool false)]) (by kernel_rfl) (body := ?b) ?hb (by kernel_rfl) (by kernel_rfl) (by kernel_rfl) (by kernel_rfl) (by kernel_rfl) (by kernel_rfl) (by kernel_rfl) (by kernel_rfl) (.kw fun v u => by kernel_rfl) ?h
  case hb => rfl
  intro L
  refine Exs.cons (Ex.assign (d := .bytes l) (Ev.fn 92 (by kernel_rfl) (by rfl) (by decide) (by kernel_rfl) (Evs.cons rfl (by walk_at "me") Evs.nil) (Spec.le (sp_buffer l) (by decide))) (.inl rfl) (.inl rfl) rfl) ?_
  refine Exs.cons (Ex.assign (d := .bool false) (Ev.fn 99 (by kernel_rfl) (by rfl) (by decide) (by kernel_rfl) (Evs.cons rfl (by walk_at "me") Evs.nil) (Spec.le (sp_truth false) (by decide))) (.inl rfl) (.inl rfl) rfl) ?_
  refine Exs.cons (Ex.newlist (.inl rfl)) ?_
  (((with_reducible refine' Exs.cons (Ex.assign ?z51.mas1 ?z51.mas2 ?z51.mas3 ?z51.mas4) ?z51.mas5); (case z51.mas2 => exact .inl rfl); (case z51.mas4 => rfl))); (case mas1 => walk_at "me"); (case mas3 => (first | exact .inl rfl | exact .inr rfl))
  (((with_reducible refine' Exs.cons (Ex.assign ?z53.mas1 ?z53.mas2 ?z53.mas3 ?z53.mas4) ?z53.mas5); (case z53.mas2 => exact .inl rfl); (case z53.mas4 => rfl))); (case mas1 => walk_at "me"); (case mas3 => (first | exact .inl rfl | exact .inr rfl))
  refine Exs.cons (Ex.for (fun i => b2S l ((((nums l).take i).foldl b2step ([], 0, 0)).1.map fun x => D.int (chr64 x)) ((((nums l).take i).foldl b2step ([], 0, 0)).2.1 : Nat) (((nums l).take i).foldl b2step ([], 0, 0)).2.2) (Itr.bytes (by walk_at "me")) (subSto.refl _) (.inl rfl) ?hbd (fun _ => rfl)) ?_
  case hbd =>
    intro i d hd
    obtain ⟨c, hc, hlt, rfl⟩ := nums_get hd
    have hq := fold_inv b2ok b2ok_step ((nums l).take i) (z := ([], 0, 0)) ⟨.inl rfl, by decide⟩
    have hsz : ((((nums l).take i).foldl b2step ([], 0, 0)).1).length ≤ 2000 := by
      refine Nat.le_trans (b2len _ _) ?_
      have : ((nums l).take i).length ≤ l.length := by rw [List.length_take]; unfold nums; rw [List.length_map]; omega
      show 0 + _ ≤ _; omega
    rw [fold_take b2step _ _ hc]
    generalize ((nums l).take i).foldl b2step ([], 0, 0) = q at hq hsz
    obtain ⟨out, lb, lc⟩ := q
    obtain ⟨hq, hlc⟩ := hq
    dsimp only at hq hlc hsz
    refine .inl (Exs.sub ?_ (subSto.app (τ := ([("b", PV.v (D.int c))] : Sto))))
    rcases hq with rfl | rfl | rfl
    · simp only [b2step, List.map_append, List.map_cons, List.map_nil]
      generalize hlc' : (lc * 256 + c) % 65536 = lc'
      have hl' : lc' < 65536 := by omega
      refine Exs.cons (Ex.assign (ev_lc rfl rfl hlc hlt) (.inl rfl) (.inl rfl) rfl) ?_
      rw [hlc']
      (((with_reducible refine' Exs.cons (Ex.assign ?z55.mas1 ?z55.mas2 ?z55.mas3 ?z55.mas4) ?z55.mas5); (case z55.mas2 => exact .inl rfl); (case z55.mas4 => rfl))); (case mas1 => walk_at "me"); (case mas3 => (first | exact .inl rfl | exact .inr rfl))
      refine Exs.cons (Ex.while (N := 1) (fun i => match i with | 0 => b2S l (out.map fun x => D.int (chr64 x)) 8 lc' ++ ([("b", PV.v (D.int c))] : Sto) | _ => b2S l ((out.map fun x => D.int (chr64 x)) ++ [D.int (chr64 (lc' / 4 % 64))]) 2 lc' ++ ([("b", PV.v (D.int c))] : Sto)) (subSto.refl _) ?ht ?hb) ?fin
      case ht =>
        intro i hi
        match i, hi with
        | 0, _ => (((with_reducible refine' Tr.mono ?z57.mtb1 ?z57.mtb2); (case z57.mtb1 => (first | ((with_reducible refine' Tr.cmp ?z58.mt1 ?z58.mt2 ?z58.mt3 ?z58.mt4); (case z58.mt1 => walk_at "me"); (case z58.mt2 => walk_at "me"); (case z58.mt3 => walk_at "mc"); (case z58.mt4 => rfl)) | ((with_reducible refine' Tr.chain ?z58.mt1 ?z58.mt2 ?z58.mt3 ?z58.mt4 ?z58.mt5 ?z58.mt6); (case z58.mt1 => walk_at "me"); (case z58.mt2 => walk_at "me"); (case z58.mt3 => walk_at "me"); (case z58.mt4 => walk_at "mc"); (case z58.mt5 => walk_at "mc"); (case z58.mt6 => rfl)) | ((with_reducible refine' Tr.val ?z58.mt1 ?z58.mt2 ?z58.mt3); (case z58.mt1 => walk_at "me"); (case z58.mt2 => first | with_reducible exact Tru.bool | with_reducible exact Tru.int | with_reducible exact Tru.none); (case z58.mt3 => rfl)))); (case z57.mtb2 => first | rfl | decide)))
        | 1, _ => (((with_reducible refine' Tr.mono ?z59.mtb1 ?z59.mtb2); (case z59.mtb1 => (first | ((with_reducible refine' Tr.cmp ?z60.mt1 ?z60.mt2 ?z60.mt3 ?z60.mt4); (case z60.mt1 => walk_at "me"); (case z60.mt2 => walk_at "me"); (case z60.mt3 => walk_at "mc"); (case z60.mt4 => rfl)) | ((with_reducible refine' Tr.chain ?z60.mt1 ?z60.mt2 ?z60.mt3 ?z60.mt4 ?z60.mt5 ?z60.mt6); (case z60.mt1 => walk_at "me"); (case z60.mt2 => walk_at "me"); (case z60.mt3 => walk_at "me"); (case z60.mt4 => walk_at "mc"); (case z60.mt5 => walk_at "mc"); (case z60.mt6 => rfl)) | ((with_reducible refine' Tr.val ?z60.mt1 ?z60.mt2 ?z60.mt3); (case z60.mt1 => walk_at "me"); (case z60.mt2 => first | with_reducible exact Tru.bool | with_reducible exact Tru.int | with_reducible exact Tru.none); (case z60.mt3 => rfl)))); (case z59.mtb2 => first | rfl | decide)))
      case hb =>
        intro i hi
        match i, hi with
        | 0, _ =>
          refine Exs.cons (Ex.append rfl (ev_chr (x := lc' / 4 % 64) rfl (Nat.mod_lt _ (by decide)) (Ev.mono (Ev.bin (Ev.bin (by walk_at "me") (by walk_at "me") (Bop.shr (by decide))) Ev.int Bop.and) ?_) (fun _ _ => rfl)) rfl (by rw [List.length_map]; omega) (by decide) rfl rfl) ?_
          · show D.int (Builtin.bitAnd ((lc' : Int).fdiv ((2 ^ 2 : Nat) : Int)) 63) = _
            rw [fdiv_nat, and63]
          (((with_reducible refine' Exs.cons (Ex.assign ?z61.mas1 ?z61.mas2 ?z61.mas3 ?z61.mas4) ?z61.mas5); (case z61.mas2 => exact .inl rfl); (case z61.mas4 => rfl))); (case mas1 => walk_at "me"); (case mas3 => (first | exact .inl rfl | exact .inr rfl))
          exact Exs.nil
      case fin => exact Exs.nil
    · simp only [b2step, List.map_append, List.map_cons, List.map_nil]
      generalize hlc' : (lc * 256 + c) % 65536 = lc'
      have hl' : lc' < 65536 := by omega
      refine Exs.cons (Ex.assign (ev_lc rfl rfl hlc hlt) (.inl rfl) (.inl rfl) rfl) ?_
      rw [hlc']
      (((with_reducible refine' Exs.cons (Ex.assign ?z63.mas1 ?z63.mas2 ?z63.mas3 ?z63.mas4) ?z63.mas5); (case z63.mas2 => exact .inl rfl); (case z63.mas4 => rfl))); (case mas1 => walk_at "me"); (case mas3 => (first | exact .inl rfl | exact .inr rfl))
      refine Exs.cons (Ex.while (N := 1) (fun i => match i with | 0 => b2S l (out.map fun x => D.int (chr64 x)) 10 lc' ++ ([("b", PV.v (D.int c))] : Sto) | _ => b2S l ((out.map fun x => D.int (chr64 x)) ++ [D.int (chr64 (lc' / 16 % 64))]) 4 lc' ++ ([("b", PV.v (D.int c))] : Sto)) (subSto.refl _) ?ht ?hb) ?fin
      case ht =>
        intro i hi
        match i, hi with
        | 0, _ => (((with_reducible refine' Tr.mono ?z65.mtb1 ?z65.mtb2); (case z65.mtb1 => (first | ((with_reducible refine' Tr.cmp ?z66.mt1 ?z66.mt2 ?z66.mt3 ?z66.mt4); (case z66.mt1 => walk_at "me"); (case z66.mt2 => walk_at "me"); (case z66.mt3 => walk_at "mc"); (case z66.mt4 => rfl)) | ((with_reducible refine' Tr.chain ?z66.mt1 ?z66.mt2 ?z66.mt3 ?z66.mt4 ?z66.mt5 ?z66.mt6); (case z66.mt1 => walk_at "me"); (case z66.mt2 => walk_at "me"); (case z66.mt3 => walk_at "me"); (case z66.mt4 => walk_at "mc"); (case z66.mt5 => walk_at "mc"); (case z66.mt6 => rfl)) | ((with_reducible refine' Tr.val ?z66.mt1 ?z66.mt2 ?z66.mt3); (case z66.mt1 => walk_at "me"); (case z66.mt2 => first | with_reducible exact Tru.bool | with_reducible exact Tru.int | with_reducible exact Tru.none); (case z66.mt3 => rfl)))); (case z65.mtb2 => first | rfl | decide)))
        | 1, _ => (((with_reducible refine' Tr.mono ?z67.mtb1 ?z67.mtb2); (case z67.mtb1 => (first | ((with_reducible refine' Tr.cmp ?z68.mt1 ?z68.mt2 ?z68.mt3 ?z68.mt4); (case z68.mt1 => walk_at "me"); (case z68.mt2 => walk_at "me"); (case z68.mt3 => walk_at "mc"); (case z68.mt4 => rfl)) | ((with_reducible refine' Tr.chain ?z68.mt1 ?z68.mt2 ?z68.mt3 ?z68.mt4 ?z68.mt5 ?z68.mt6); (case z68.mt1 => walk_at "me"); (case z68.mt2 => walk_at "me"); (case z68.mt3 => walk_at "me"); (case z68.mt4 => walk_at "mc"); (case z68.mt5 => walk_at "mc"); (case z68.mt6 => rfl)) | ((with_reducible refine' Tr.val ?z68.mt1 ?z68.mt2 ?z68.mt3); (case z68.mt1 => walk_at "me"); (case z68.mt2 => first | with_reducible exact Tru.bool | with_reducible exact Tru.int | with_reducible exact Tru.none); (case z68.mt3 => rfl)))); (case z67.mtb2 => first | rfl | decide)))
      case hb =>
        intro i hi
        match i, hi with
        | 0, _ =>
          refine Exs.cons (Ex.append rfl (ev_chr (x := lc' / 16 % 64) rfl (Nat.mod_lt _ (by decide)) (Ev.mono (Ev.bin (Ev.bin (by walk_at "me") (by walk_at "me") (Bop.shr (by decide))) Ev.int Bop.and) ?_) (fun _ _ => rfl)) rfl (by rw [List.length_map]; omega) (by decide) rfl rfl) ?_
          · show D.int (Builtin.bitAnd ((lc' : Int).fdiv ((2 ^ 4 : Nat) : Int)) 63) = _
            rw [fdiv_nat, and63]
          (((with_reducible refine' Exs.cons (Ex.assign ?z69.mas1 ?z69.mas2 ?z69.mas3 ?z69.mas4) ?z69.mas5); (case z69.mas2 => exact .inl rfl); (case z69.mas4 => rfl))); (case mas1 => walk_at "me"); (case mas3 => (first | exact .inl rfl | exact .inr rfl))
          exact Exs.nil
      case fin => exact Exs.nil
    · simp only [b2step, List.map_append, List.map_cons, List.map_nil]
      generalize hlc' : (lc * 256 + c) % 65536 = lc'
      have hl' : lc' < 65536 := by omega
      refine Exs.cons (Ex.assign (ev_lc rfl rfl hlc hlt) (.inl rfl) (.inl rfl) rfl) ?_
      rw [hlc']
      (((with_reducible refine' Exs.cons (Ex.assign ?z71.mas1 ?z71.mas2 ?z71.mas3 ?z71.mas4) ?z71.mas5); (case z71.mas2 => exact .inl rfl); (case z71.mas4 => rfl))); (case mas1 => walk_at "me"); (case mas3 => (first | exact .inl rfl | exact .inr rfl))
      refine Exs.cons (Ex.while (N := 2) (fun i => match i with | 0 => b2S l (out.map fun x => D.int (chr64 x)) 12 lc' ++ ([("b", PV.v (D.int c))] : Sto) | 1 => b2S l ((out.map fun x => D.int (chr64 x)) ++ [D.int (chr64 (lc' / 64 % 64))]) 6 lc' ++ ([("b", PV.v (D.int c))] : Sto) | _ => b2S l (((out.map fun x => D.int (chr64 x)) ++ [D.int (chr64 (lc' / 64 % 64))]) ++ [D.int (chr64 (lc' / 1 % 64))]) 0 lc' ++ ([("b", PV.v (D.int c))] : Sto)) (subSto.refl _) ?ht ?hb) ?fin
      case ht =>
        intro i hi
        match i, hi with
        | 0, _ => (((with_reducible refine' Tr.mono ?z73.mtb1 ?z73.mtb2); (case z73.mtb1 => (first | ((with_reducible refine' Tr.cmp ?z74.mt1 ?z74.mt2 ?z74.mt3 ?z74.mt4); (case z74.mt1 => walk_at "me"); (case z74.mt2 => walk_at "me"); (case z74.mt3 => walk_at "mc"); (case z74.mt4 => rfl)) | ((with_reducible refine' Tr.chain ?z74.mt1 ?z74.mt2 ?z74.mt3 ?z74.mt4 ?z74.mt5 ?z74.mt6); (case z74.mt1 => walk_at "me"); (case z74.mt2 => walk_at "me"); (case z74.mt3 => walk_at "me"); (case z74.mt4 => walk_at "mc"); (case z74.mt5 => walk_at "mc"); (case z74.mt6 => rfl)) | ((with_reducible refine' Tr.val ?z74.mt1 ?z74.mt2 ?z74.mt3); (case z74.mt1 => walk_at "me"); (case z74.mt2 => first | with_reducible exact Tru.bool | with_reducible exact Tru.int | with_reducible exact Tru.none); (case z74.mt3 => rfl)))); (case z73.mtb2 => first | rfl | decide)))
        | 1, _ => (((with_reducible refine' Tr.mono ?z75.mtb1 ?z75.mtb2); (case z75.mtb1 => (first | ((with_reducible refine' Tr.cmp ?z76.mt1 ?z76.mt2 ?z76.mt3 ?z76.mt4); (case z76.mt1 => walk_at "me"); (case z76.mt2 => walk_at "me"); (case z76.mt3 => walk_at "mc"); (case z76.mt4 => rfl)) | ((with_reducible refine' Tr.chain ?z76.mt1 ?z76.mt2 ?z76.mt3 ?z76.mt4 ?z76.mt5 ?z76.mt6); (case z76.mt1 => walk_at "me"); (case z76.mt2 => walk_at "me"); (case z76.mt3 => walk_at "me"); (case z76.mt4 => walk_at "mc"); (case z76.mt5 => walk_at "mc"); (case z76.mt6 => rfl)) | ((with_reducible refine' Tr.val ?z76.mt1 ?z76.mt2 ?z76.mt3); (case z76.mt1 => walk_at "me"); (case z76.mt2 => first | with_reducible exact Tru.bool | with_reducible exact Tru.int | with_reducible exact Tru.none); (case z76.mt3 => rfl)))); (case z75.mtb2 => first | rfl | decide)))
        | 2, _ => (((with_reducible refine' Tr.mono ?z77.mtb1 ?z77.mtb2); (case z77.mtb1 => (first | ((with_reducible refine' Tr.cmp ?z78.mt1 ?z78.mt2 ?z78.mt3 ?z78.mt4); (case z78.mt1 => walk_at "me"); (case z78.mt2 => walk_at "me"); (case z78.mt3 => walk_at "mc"); (case z78.mt4 => rfl)) | ((with_reducible refine' Tr.chain ?z78.mt1 ?z78.mt2 ?z78.mt3 ?z78.mt4 ?z78.mt5 ?z78.mt6); (case z78.mt1 => walk_at "me"); (case z78.mt2 => walk_at "me"); (case z78.mt3 => walk_at "me"); (case z78.mt4 => walk_at "mc"); (case z78.mt5 => walk_at "mc"); (case z78.mt6 => rfl)) | ((with_reducible refine' Tr.val ?z78.mt1 ?z78.mt2 ?z78.mt3); (case z78.mt1 => walk_at "me"); (case z78.mt2 => first | with_reducible exact Tru.bool | with_reducible exact Tru.int | with_reducible exact Tru.none); (case z78.mt3 => rfl)))); (case z77.mtb2 => first | rfl | decide)))
      case hb =>
        intro i hi
        match i, hi with
        | 0, _ =>
          refine Exs.cons (Ex.append rfl (ev_chr (x := lc' / 64 % 64) rfl (Nat.mod_lt _ (by decide)) (Ev.mono (Ev.bin (Ev.bin (by walk_at "me") (by walk_at "me") (Bop.shr (by decide))) Ev.int Bop.and) ?_) (fun _ _ => rfl)) rfl (by rw [List.length_map]; omega) (by decide) rfl rfl) ?_
          · show D.int (Builtin.bitAnd ((lc' : Int).fdiv ((2 ^ 6 : Nat) : Int)) 63) = _
            rw [fdiv_nat, and63]
          (((with_reducible refine' Exs.cons (Ex.assign ?z79.mas1 ?z79.mas2 ?z79.mas3 ?z79.mas4) ?z79.mas5); (case z79.mas2 => exact .inl rfl); (case z79.mas4 => rfl))); (case mas1 => walk_at "me"); (case mas3 => (first | exact .inl rfl | exact .inr rfl))
          exact Exs.nil
        | 1, _ =>
          refine Exs.cons (Ex.append rfl (ev_chr (x := lc' / 1 % 64) rfl (Nat.mod_lt _ (by decide)) (Ev.mono (Ev.bin (Ev.bin (by walk_at "me") (by walk_at "me") (Bop.shr (by decide))) Ev.int Bop.and) ?_) (fun _ _ => rfl)) rfl (by rw [List.length_append, List.length_map]; exact Nat.le_trans (Nat.add_le_add_right hsz _) (by show 2000 + 1 ≤ 100000; decide)) (by decide) rfl rfl) ?_
          · show D.int (Builtin.bitAnd ((lc' : Int).fdiv ((2 ^ 0 : Nat) : Int)) 63) = _
            rw [fdiv_nat, and63]
          (((with_reducible refine' Exs.cons (Ex.assign ?z81.mas1 ?z81.mas2 ?z81.mas3 ?z81.mas4) ?z81.mas5); (case z81.mas2 => exact .inl rfl); (case z81.mas4 => rfl))); (case mas1 => walk_at "me"); (case mas3 => (first | exact .inl rfl | exact .inr rfl))
          exact Exs.nil
      case fin => rw [show [D.int (chr64 (lc' / 64 % 64)), D.int (chr64 (lc' % 64))] = [D.int (chr64 (lc' / 64 % 64))] ++ [D.int (chr64 (lc' / 1 % 64))] by rw [Nat.div_one]; rfl, ← List.append_assoc]; exact Exs.nil
  rw [show (nums l).take (dBytes l).length = nums l from List.take_of_length_le (by simp [nums, dBytes])]
  have hq := fold_inv b2ok b2ok_step (nums l) (z := ([], 0, 0)) ⟨.inl rfl, by decide⟩
  have hsz : ((nums l).foldl b2step ([], 0, 0)).1.length ≤ 2000 := by
    refine Nat.le_trans (b2len _ _) ?_
    have : (nums l).length ≤ l.length := by unfold nums; rw [List.length_map]; omega
    show 0 + _ ≤ _; omega
  unfold b2all
  generalize (nums l).foldl b2step ([], 0, 0) = q at hq hsz
  obtain ⟨out, lb, lc⟩ := q
  obtain ⟨hq, hlc⟩ := hq
  dsimp only at hq hlc hsz
  rcases hq with rfl | rfl | rfl
  · refine Exs.ite (c := false) (by (((with_reducible refine' Tr.mono ?z83.mtb1 ?z83.mtb2); (case z83.mtb1 => (first | ((with_reducible refine' Tr.cmp ?z84.mt1 ?z84.mt2 ?z84.mt3 ?z84.mt4); (case z84.mt1 => walk_at "me"); (case z84.mt2 => walk_at "me"); (case z84.mt3 => walk_at "mc"); (case z84.mt4 => rfl)) | ((with_reducible refine' Tr.chain ?z84.mt1 ?z84.mt2 ?z84.mt3 ?z84.mt4 ?z84.mt5 ?z84.mt6); (case z84.mt1 => walk_at "me"); (case z84.mt2 => walk_at "me"); (case z84.mt3 => walk_at "me"); (case z84.mt4 => walk_at "mc"); (case z84.mt5 => walk_at "mc"); (case z84.mt6 => rfl)) | ((with_reducible refine' Tr.val ?z84.mt1 ?z84.mt2 ?z84.mt3); (case z84.mt1 => walk_at "me"); (case z84.mt2 => first | with_reducible exact Tru.bool | with_reducible exact Tru.int | with_reducible exact Tru.none); (case z84.mt3 => rfl)))); (case z83.mtb2 => first | rfl | decide)))) (fun h => absurd h (by decide)) (fun _ => ?_)
    dsimp only [List.cons_append, List.nil_append]
    refine Exs.ite (c := false) (by (((with_reducible refine' Tr.mono ?z85.mtb1 ?z85.mtb2); (case z85.mtb1 => (first | ((with_reducible refine' Tr.cmp ?z86.mt1 ?z86.mt2 ?z86.mt3 ?z86.mt4); (case z86.mt1 => walk_at "me"); (case z86.mt2 => walk_at "me"); (case z86.mt3 => walk_at "mc"); (case z86.mt4 => rfl)) | ((with_reducible refine' Tr.chain ?z86.mt1 ?z86.mt2 ?z86.mt3 ?z86.mt4 ?z86.mt5 ?z86.mt6); (case z86.mt1 => walk_at "me"); (case z86.mt2 => walk_at "me"); (case z86.mt3 => walk_at "me"); (case z86.mt4 => walk_at "mc"); (case z86.mt5 => walk_at "mc"); (case z86.mt6 => rfl)) | ((with_reducible refine' Tr.val ?z86.mt1 ?z86.mt2 ?z86.mt3); (case z86.mt1 => walk_at "me"); (case z86.mt2 => first | with_reducible exact Tru.bool | with_reducible exact Tru.int | with_reducible exact Tru.none); (case z86.mt3 => rfl)))); (case z85.mtb2 => first | rfl | decide)))) (fun h => absurd h (by decide)) (fun _ => ?_)
    dsimp only [List.cons_append, List.nil_append]
    refine Exs.ite (c := false) (by (((with_reducible refine' Tr.mono ?z87.mtb1 ?z87.mtb2); (case z87.mtb1 => (first | ((with_reducible refine' Tr.cmp ?z88.mt1 ?z88.mt2 ?z88.mt3 ?z88.mt4); (case z88.mt1 => walk_at "me"); (case z88.mt2 => walk_at "me"); (case z88.mt3 => walk_at "mc"); (case z88.mt4 => rfl)) | ((with_reducible refine' Tr.chain ?z88.mt1 ?z88.mt2 ?z88.mt3 ?z88.mt4 ?z88.mt5 ?z88.mt6); (case z88.mt1 => walk_at "me"); (case z88.mt2 => walk_at "me"); (case z88.mt3 => walk_at "me"); (case z88.mt4 => walk_at "mc"); (case z88.mt5 => walk_at "mc"); (case z88.mt6 => rfl)) | ((with_reducible refine' Tr.val ?z88.mt1 ?z88.mt2 ?z88.mt3); (case z88.mt1 => walk_at "me"); (case z88.mt2 => first | with_reducible exact Tru.bool | with_reducible exact Tru.int | with_reducible exact Tru.none); (case z88.mt3 => rfl)))); (case z87.mtb2 => first | rfl | decide)))) (fun h => absurd h (by decide)) (fun _ => ?_)
    dsimp only [List.cons_append, List.nil_append]
    refine Exs.stop (Ex.ret (Ev.bfn (r := .bytes (toBytes (b2end (out, 0, lc)))) (by (((with_reducible refine' Ev.blt ?z89.mbn1 ?z89.mbn2 ?z89.mbn3 ?z89.mbn4 ?z89.mbn5); (case z89.mbn1 => kernel_rfl); (case z89.mbn2 => boot_fact); (case z89.mbn3 => decide); (case z89.mbn4 => rfl); (case z89.mbn5 => decide)))) (by nofun) (Evs.cons rfl (Ev.mono (by walk_at "me") ?_) Evs.nil) (sp_bytes (ns := b2end (out, 0, lc)) (b2bytes _) (by simp only [b2end, List.length_append, List.length_map, List.length_cons, List.length_nil]; omega)))) rfl
    simp [b2end, List.map_append, List.append_assoc, Function.comp_def]
  · refine Exs.ite (c := true) (by (((with_reducible refine' Tr.mono ?z90.mtb1 ?z90.mtb2); (case z90.mtb1 => (first | ((with_reducible refine' Tr.cmp ?z91.mt1 ?z91.mt2 ?z91.mt3 ?z91.mt4); (case z91.mt1 => walk_at "me"); (case z91.mt2 => walk_at "me"); (case z91.mt3 => walk_at "mc"); (case z91.mt4 => rfl)) | ((with_reducible refine' Tr.chain ?z91.mt1 ?z91.mt2 ?z91.mt3 ?z91.mt4 ?z91.mt5 ?z91.mt6); (case z91.mt1 => walk_at "me"); (case z91.mt2 => walk_at "me"); (case z91.mt3 => walk_at "me"); (case z91.mt4 => walk_at "mc"); (case z91.mt5 => walk_at "mc"); (case z91.mt6 => rfl)) | ((with_reducible refine' Tr.val ?z91.mt1 ?z91.mt2 ?z91.mt3); (case z91.mt1 => walk_at "me"); (case z91.mt2 => first | with_reducible exact Tru.bool | with_reducible exact Tru.int | with_reducible exact Tru.none); (case z91.mt3 => rfl)))); (case z90.mtb2 => first | rfl | decide)))) (fun _ => ?_) (fun h => absurd h (by decide))
    dsimp only [List.cons_append, List.nil_append]
    refine Exs.cons (Ex.append rfl (ev_chr (x := lc % 4 * 16) rfl (by omega) (Ev.mono (Ev.bin (Ev.bin (by walk_at "me") (by walk_at "me") Bop.and) Ev.int (Bop.shl (by decide) (by decide) (by rw [and3]; omega))) ?_) (fun _ _ => rfl)) rfl (by rw [List.length_map]; omega) (by decide) rfl rfl) ?_
    · rw [and3]; rfl
    refine Exs.cons (Ex.append rfl Ev.int rfl (by simp only [List.length_append, List.length_map, List.length_cons, List.length_nil]; omega) (by decide) rfl rfl) ?_
    refine Exs.cons (Ex.append rfl Ev.int rfl (by simp only [List.length_append, List.length_map, List.length_cons, List.length_nil]; omega) (by decide) rfl rfl) ?_
    refine Exs.ite (c := false) (by (((with_reducible refine' Tr.mono ?z92.mtb1 ?z92.mtb2); (case z92.mtb1 => (first | ((with_reducible refine' Tr.cmp ?z93.mt1 ?z93.mt2 ?z93.mt3 ?z93.mt4); (case z93.mt1 => walk_at "me"); (case z93.mt2 => walk_at "me"); (case z93.mt3 => walk_at "mc"); (case z93.mt4 => rfl)) | ((with_reducible refine' Tr.chain ?z93.mt1 ?z93.mt2 ?z93.mt3 ?z93.mt4 ?z93.mt5 ?z93.mt6); (case z93.mt1 => walk_at "me"); (case z93.mt2 => walk_at "me"); (case z93.mt3 => walk_at "me"); (case z93.mt4 => walk_at "mc"); (case z93.mt5 => walk_at "mc"); (case z93.mt6 => rfl)) | ((with_reducible refine' Tr.val ?z93.mt1 ?z93.mt2 ?z93.mt3); (case z93.mt1 => walk_at "me"); (case z93.mt2 => first | with_reducible exact Tru.bool | with_reducible exact Tru.int | with_reducible exact Tru.none); (case z93.mt3 => rfl)))); (case z92.mtb2 => first | rfl | decide)))) (fun h => absurd h (by decide)) (fun _ => ?_)
    dsimp only [List.cons_append, List.nil_append]
    refine Exs.stop (Ex.ret (Ev.bfn (r := .bytes (toBytes (b2end (out, 2, lc)))) (by (((with_reducible refine' Ev.blt ?z94.mbn1 ?z94.mbn2 ?z94.mbn3 ?z94.mbn4 ?z94.mbn5); (case z94.mbn1 => kernel_rfl); (case z94.mbn2 => boot_fact); (case z94.mbn3 => decide); (case z94.mbn4 => rfl); (case z94.mbn5 => decide)))) (by nofun) (Evs.cons rfl (Ev.mono (by walk_at "me") ?_) Evs.nil) (sp_bytes (ns := b2end (out, 2, lc)) (b2bytes _) (by simp only [b2end, List.length_append, List.length_map, List.length_cons, List.length_nil]; omega)))) rfl
    simp [b2end, List.map_append, List.append_assoc, Function.comp_def]
  · refine Exs.ite (c := false) (by (((with_reducible refine' Tr.mono ?z95.mtb1 ?z95.mtb2); (case z95.mtb1 => (first | ((with_reducible refine' Tr.cmp ?z96.mt1 ?z96.mt2 ?z96.mt3 ?z96.mt4); (case z96.mt1 => walk_at "me"); (case z96.mt2 => walk_at "me"); (case z96.mt3 => walk_at "mc"); (case z96.mt4 => rfl)) | ((with_reducible refine' Tr.chain ?z96.mt1 ?z96.mt2 ?z96.mt3 ?z96.mt4 ?z96.mt5 ?z96.mt6); (case z96.mt1 => walk_at "me"); (case z96.mt2 => walk_at "me"); (case z96.mt3 => walk_at "me"); (case z96.mt4 => walk_at "mc"); (case z96.mt5 => walk_at "mc"); (case z96.mt6 => rfl)) | ((with_reducible refine' Tr.val ?z96.mt1 ?z96.mt2 ?z96.mt3); (case z96.mt1 => walk_at "me"); (case z96.mt2 => first | with_reducible exact Tru.bool | with_reducible exact Tru.int | with_reducible exact Tru.none); (case z96.mt3 => rfl)))); (case z95.mtb2 => first | rfl | decide)))) (fun h => absurd h (by decide)) (fun _ => ?_)
    dsimp only [List.cons_append, List.nil_append]
    refine Exs.ite (c := true) (by (((with_reducible refine' Tr.mono ?z97.mtb1 ?z97.mtb2); (case z97.mtb1 => (first | ((with_reducible refine' Tr.cmp ?z98.mt1 ?z98.mt2 ?z98.mt3 ?z98.mt4); (case z98.mt1 => walk_at "me"); (case z98.mt2 => walk_at "me"); (case z98.mt3 => walk_at "mc"); (case z98.mt4 => rfl)) | ((with_reducible refine' Tr.chain ?z98.mt1 ?z98.mt2 ?z98.mt3 ?z98.mt4 ?z98.mt5 ?z98.mt6); (case z98.mt1 => walk_at "me"); (case z98.mt2 => walk_at "me"); (case z98.mt3 => walk_at "me"); (case z98.mt4 => walk_at "mc"); (case z98.mt5 => walk_at "mc"); (case z98.mt6 => rfl)) | ((with_reducible refine' Tr.val ?z98.mt1 ?z98.mt2 ?z98.mt3); (case z98.mt1 => walk_at "me"); (case z98.mt2 => first | with_reducible exact Tru.bool | with_reducible exact Tru.int | with_reducible exact Tru.none); (case z98.mt3 => rfl)))); (case z97.mtb2 => first | rfl | decide)))) (fun _ => ?_) (fun h => absurd h (by decide))
    dsimp only [List.cons_append, List.nil_append]
    refine Exs.cons (Ex.append rfl (ev_chr (x := lc % 16 * 4) rfl (by omega) (Ev.mono (Ev.bin (Ev.bin (by walk_at "me") (by walk_at "me") Bop.and) Ev.int (Bop.shl (by decide) (by decide) (by rw [and15]; omega))) ?_) (fun _ _ => rfl)) rfl (by rw [List.length_map]; omega) (by decide) rfl rfl) ?_
    · rw [and15]; rfl
    refine Exs.cons (Ex.append rfl Ev.int rfl (by simp only [List.length_append, List.length_map, List.length_cons, List.length_nil]; omega) (by decide) rfl rfl) ?_
    refine Exs.ite (c := false) (by (((with_reducible refine' Tr.mono ?z99.mtb1 ?z99.mtb2); (case z99.mtb1 => (first | ((with_reducible refine' Tr.cmp ?z100.mt1 ?z100.mt2 ?z100.mt3 ?z100.mt4); (case z100.mt1 => walk_at "me"); (case z100.mt2 => walk_at "me"); (case z100.mt3 => walk_at "mc"); (case z100.mt4 => rfl)) | ((with_reducible refine' Tr.chain ?z100.mt1 ?z100.mt2 ?z100.mt3 ?z100.mt4 ?z100.mt5 ?z100.mt6); (case z100.mt1 => walk_at "me"); (case z100.mt2 => walk_at "me"); (case z100.mt3 => walk_at "me"); (case z100.mt4 => walk_at "mc"); (case z100.mt5 => walk_at "mc"); (case z100.mt6 => rfl)) | ((with_reducible refine' Tr.val ?z100.mt1 ?z100.mt2 ?z100.mt3); (case z100.mt1 => walk_at "me"); (case z100.mt2 => first | with_reducible exact Tru.bool | with_reducible exact Tru.int | with_reducible exact Tru.none); (case z100.mt3 => rfl)))); (case z99.mtb2 => first | rfl | decide)))) (fun h => absurd h (by decide)) (fun _ => ?_)
    dsimp only [List.cons_append, List.nil_append]
    refine Exs.stop (Ex.ret (Ev.bfn (r := .bytes (toBytes (b2end (out, 4, lc)))) (by (((with_reducible refine' Ev.blt ?z101.mbn1 ?z101.mbn2 ?z101.mbn3 ?z101.mbn4 ?z101.mbn5); (case z101.mbn1 => kernel_rfl); (case z101.mbn2 => boot_fact); (case z101.mbn3 => decide); (case z101.mbn4 => rfl); (case z101.mbn5 => decide)))) (by nofun) (Evs.cons rfl (Ev.mono (by walk_at "me") ?_) Evs.nil) (sp_bytes (ns := b2end (out, 4, lc)) (b2bytes _) (by simp only [b2end, List.length_append, List.length_map, List.length_cons, List.length_nil]; omega)))) rfl
    simp [b2end, List.map_append, List.append_assoc, Function.comp_def]
end
-- F5
section
set_option maxRecDepth 100000
set_option maxHeartbeats 4000000
variable {prog : Program} {w : World}

theorem Exs.subC {n : Nat} {env : Env} {σ : Sto} {st : List Stmt} {σ' σ'' : Sto} (h : Exs prog w (KK w) true n env σ st (.cont σ')) (hs : subSto σ'' σ') : Exs prog w (KK w) true n env σ st (.cont σ'') :=
  fun sE kp O ad s A E F W R => wpAny_mono (h sE kp O ad s A E F W R) (fun _ _ ⟨e, ad, F, W⟩ => ⟨e, ad, F.sub hs, W.sub hs⟩) fun _ _ x => x
theorem Tr_and2 {n : Nat} {env : Env} {σ : Sto} {e f : Expr} {b c r : Bool} (h : Tr prog w (KK w) true n env σ e b) (h2 : Tr prog w (KK w) true n env σ f c) (hr : (b && c) = r) : Trs prog w (KK w) true n env σ .And [e, f] r := by
  have := Trs.and h fun _ => Trs.and h2 fun _ => Trs.and_nil
  rw [Bool.and_true, hr] at this
  exact this
noncomputable def a2step : List Nat × Nat × Nat → Nat → List Nat × Nat × Nat
  | (out, 0, _), f => (out, 1, f)
  | (out, 1, lc), f => (out ++ [lc * 4 + f / 16], 2, f % 16)
  | (out, 2, lc), f => (out ++ [lc * 16 + f / 4], 3, f % 4)
  | (out, _, lc), f => (out ++ [lc * 64 + f], 0, 0)
noncomputable def a2all (fs : List Nat) : List Nat × Nat × Nat := fs.foldl a2step ([], 0, 0)
noncomputable def a2ok (q : List Nat × Nat × Nat) : Prop := (q.2.1 = 0 ∨ (q.2.1 = 1 ∧ q.2.2 < 64) ∨ (q.2.1 = 2 ∧ q.2.2 < 16) ∨ (q.2.1 = 3 ∧ q.2.2 < 4)) ∧ ∀ k ∈ q.1, k < 256
theorem a2ok_step (q : List Nat × Nat × Nat) (f : Nat) (hf : f < 64) (h : a2ok q) : a2ok (a2step q f) := by
  obtain ⟨out, qp, lc⟩ := q
  obtain ⟨h, h2⟩ := h
  dsimp only at h h2
  have add : ∀ x, x < 256 → ∀ k ∈ out ++ [x], k < 256 := by
    intro x hx k hk
    rcases List.mem_append.mp hk with hk | hk
    · exact h2 k hk
    · rw [List.mem_singleton.mp hk]; exact hx
  rcases h with rfl | ⟨rfl, h⟩ | ⟨rfl, h⟩ | ⟨rfl, h⟩
  · exact ⟨.inr (.inl ⟨rfl, hf⟩), h2⟩
  · exact ⟨.inr (.inr (.inl ⟨rfl, Nat.mod_lt _ (by decide)⟩)), add _ (by omega)⟩
  · exact ⟨.inr (.inr (.inr ⟨rfl, Nat.mod_lt _ (by decide)⟩)), add _ (by omega)⟩
  · exact ⟨.inl rfl, add _ (by omega)⟩
theorem a2ok_all (fs : List Nat) (h : ∀ f ∈ fs, f < 64) : ∀ z, a2ok z → a2ok (fs.foldl a2step z) := by
  induction fs with
  | nil => exact fun _ h => h
  | cons a r ih => exact fun z hz => ih (fun f hf => h f (List.mem_cons_of_mem _ hf)) _ (a2ok_step _ _ (h a List.mem_cons_self) hz)
theorem a2qp (fs : List Nat) : ∀ z, a2ok z → (∀ f ∈ fs, f < 64) → (fs.foldl a2step z).2.1 = (z.2.1 + fs.length) % 4 := by
  induction fs with
  | nil =>
    rintro ⟨out, qp, lc⟩ ⟨h, _⟩ _
    dsimp only at h
    show qp = (qp + 0) % 4
    omega
  | cons a r ih =>
    intro z hz hf
    have h1 := a2ok_step z a (hf a List.mem_cons_self) hz
    show (r.foldl a2step (a2step z a)).2.1 = _
    rw [ih _ h1 fun f h => hf f (List.mem_cons_of_mem _ h)]
    obtain ⟨out, qp, lc⟩ := z
    obtain ⟨h, _⟩ := hz
    dsimp only at h
    rw [List.length_cons]
    rcases h with rfl | ⟨rfl, h⟩ | ⟨rfl, h⟩ | ⟨rfl, h⟩ <;> simp only [a2step] <;> omega
theorem a2len (l : List Nat) : ∀ z : List Nat × Nat × Nat, (l.foldl a2step z).1.length ≤ z.1.length + l.length := by
  induction l with
  | nil => intro z; exact Nat.le_refl _
  | cons a r ih =>
    intro z
    refine Nat.le_trans (ih (a2step z a)) ?_
    have : (a2step z a).1.length ≤ z.1.length + 1 := by
      obtain ⟨out, lb, lc⟩ := z
      unfold a2step
      split <;> (rename_i heq; cases heq; simp)
    rw [List.length_cons]; omega
/-- the text of figures and signs behind -/
noncomputable def txt64 (fs : List Nat) (pad : Nat) : List UInt8 := toBytes (fs.map chr64 ++ List.replicate pad 61)
theorem chr_v : ∀ f : Nat, f < 64 → chr64 f ≠ 61 ∧ b64v (chr64 f) = f := by decide
theorem chr_nat (f : Nat) : ((chr64 f).toNat.toUInt8.toNat : Int) = chr64 f := by
  unfold chr64
  have := (tab.getD f 0).toNat_lt
  simp
theorem txt_get {fs : List Nat} {pad i : Nat} {d : D} (h : (dBytes (txt64 fs pad))[i]? = some d) : (∃ f, fs[i]? = some f ∧ d = .int (chr64 f)) ∨ (fs.length ≤ i ∧ i - fs.length < pad ∧ d = .int 61) := by
  unfold dBytes txt64 toBytes at h
  rw [List.getElem?_map, List.getElem?_map, List.getElem?_append] at h
  split at h
  · rename_i hi
    rw [List.length_map] at hi
    rw [List.getElem?_map, List.getElem?_eq_getElem hi] at h
    refine .inl ⟨fs[i], List.getElem?_eq_getElem hi, ?_⟩
    simp only [Option.map_some, Option.some.injEq] at h
    rw [← h, chr_nat]
  · rename_i hi
    rw [List.length_map] at hi h
    rw [List.getElem?_replicate] at h
    split at h
    · rename_i h2
      exact .inr ⟨by omega, h2, by simpa using h.symm⟩
    · cases h
theorem txt_len (fs : List Nat) (pad : Nat) : (dBytes (txt64 fs pad)).length = fs.length + pad := by simp [dBytes, txt64, toBytes]

noncomputable def a2S (l : List UInt8) (out : List D) (qp lc pads i : Nat) : Sto := [("strict_mode", .v (.bool true)), ("data", .v (.bytes l)), ("ascii_data", .v (.bytes l)), ("out", .o out), ("quad_pos", .v (.int (qp : Int))), ("leftchar", .v (.int (lc : Int))), ("pads", .v (.int (pads : Int))), ("i", .v (.int (i : Int)))]

theorem sp_a2b (fs : List Nat) (pad : Nat) (hf : ∀ f ∈ fs, f < 64) (hp : (fs.length % 4 = 0 ∧ pad = 0) ∨ (fs.length % 4 = 2 ∧ pad = 2) ∨ (fs.length % 4 = 3 ∧ pad = 1)) (hz : fs.length ≤ 1000) : Spec prog w (KK w) 7 (.ref 114) [.bytes (txt64 fs pad)] [("strict_mode", .bool true)] (.bytes (toBytes ((a2all fs).1.map fun (x : Nat) => (x : Int)))) := by
  refine Spec.fn (n := 6) 114 (bd := [("data", .bytes (txt64 fs pad)), ("strict_mode", .bool true)]) (by kernel_rfl) (body := ?b) ?hb (by kernel_rfl) (by kernel_rfl) (by kernel_rfl) (by kernel_rfl) (by kernel_rfl) (by kernel_rfl) (by kernel_rfl) (by kernel_rfl) (.kw fun v u => by kernel_rfl) ?h
  case hb => rfl
  intro L
  refine Exs.cons (Ex.assign (d := .bytes (txt64 fs pad)) (Ev.fn 85 (by kernel_rfl) (by rfl) (by decide) (by kernel_rfl) (Evs.cons rfl (by walk_at "me") Evs.nil) (Spec.le (sp_ascii _) (by decide))) (.inl rfl) (.inl rfl) rfl) ?_
  refine Exs.cons (Ex.assign (d := .bool true) (Ev.fn 99 (by kernel_rfl) (by rfl) (by decide) (by kernel_rfl) (Evs.cons rfl (by walk_at "me") Evs.nil) (Spec.le (sp_truth true) (by decide))) (.inl rfl) (.inl rfl) rfl) ?_
  refine Exs.cons (Ex.newlist (.inl rfl)) ?_
  (((with_reducible refine' Exs.cons (Ex.assign ?z102.mas1 ?z102.mas2 ?z102.mas3 ?z102.mas4) ?z102.mas5); (case z102.mas2 => exact .inl rfl); (case z102.mas4 => rfl))); (case mas1 => walk_at "me"); (case mas3 => (first | exact .inl rfl | exact .inr rfl))
  (((with_reducible refine' Exs.cons (Ex.assign ?z104.mas1 ?z104.mas2 ?z104.mas3 ?z104.mas4) ?z104.mas5); (case z104.mas2 => exact .inl rfl); (case z104.mas4 => rfl))); (case mas1 => walk_at "me"); (case mas3 => (first | exact .inl rfl | exact .inr rfl))
  (((with_reducible refine' Exs.cons (Ex.assign ?z106.mas1 ?z106.mas2 ?z106.mas3 ?z106.mas4) ?z106.mas5); (case z106.mas2 => exact .inl rfl); (case z106.mas4 => rfl))); (case mas1 => walk_at "me"); (case mas3 => (first | exact .inl rfl | exact .inr rfl))
  (((with_reducible refine' Exs.cons (Ex.assign ?z108.mas1 ?z108.mas2 ?z108.mas3 ?z108.mas4) ?z108.mas5); (case z108.mas2 => exact .inl rfl); (case z108.mas4 => rfl))); (case mas1 => walk_at "me"); (case mas3 => (first | exact .inl rfl | exact .inr rfl))
  have fsz : ∀ i, ((fs.take i).foldl a2step ([], 0, 0)).1.length ≤ 1000 := fun i => by
    refine Nat.le_trans (a2len _ _) ?_
    rw [List.length_take]; show 0 + _ ≤ _; omega
  have ftk : ∀ i, ∀ f ∈ fs.take i, f < 64 := fun i f h => hf f (List.mem_of_mem_take h)
  have ok0 : a2ok ([], 0, 0) := ⟨.inl rfl, nofun⟩
  refine Exs.cons (Ex.for (fun i => a2S (txt64 fs pad) (((fs.take i).foldl a2step ([], 0, 0)).1.map fun (x : Nat) => D.int (x : Int)) ((fs.take i).foldl a2step ([], 0, 0)).2.1 ((fs.take i).foldl a2step ([], 0, 0)).2.2 (i - fs.length) i) (Itr.bytes (by walk_at "me")) ?h0 (.inl rfl) ?hbd (fun _ => rfl)) ?_
  case h0 =>
    rw [Nat.zero_sub]
    exact subSto.refl _
  case hbd =>
    intro i d hd
    rcases txt_get hd with ⟨f, hfi, rfl⟩ | ⟨h1, h2, rfl⟩
    · have hlt : i < fs.length := (List.getElem?_eq_some_iff.mp hfi).1
      have hfl : f < 64 := hf f (List.mem_of_getElem? hfi)
      have hq := a2ok_all _ (ftk i) _ ok0
      have hs := fsz i
      rw [fold_take a2step _ _ hfi, show i - fs.length = 0 by omega, show i + 1 - fs.length = 0 by omega]
      generalize (fs.take i).foldl a2step ([], 0, 0) = q at hq hs
      obtain ⟨out, qp, lc⟩ := q
      obtain ⟨hq, _⟩ := hq
      dsimp only at hq hs
      obtain ⟨hc1, hc2⟩ := chr_v f hfl
      refine .inl (Exs.sub ?_ (subSto.app (τ := ([("this_ch", PV.v (D.int f))] : Sto))))
      refine Exs.ite (c := false) (Tr.mono (by (first | ((with_reducible refine' Tr.cmp ?z110.mt1 ?z110.mt2 ?z110.mt3 ?z110.mt4); (case z110.mt1 => walk_at "me"); (case z110.mt2 => walk_at "me"); (case z110.mt3 => walk_at "mc"); (case z110.mt4 => rfl)) | ((with_reducible refine' Tr.chain ?z110.mt1 ?z110.mt2 ?z110.mt3 ?z110.mt4 ?z110.mt5 ?z110.mt6); (case z110.mt1 => walk_at "me"); (case z110.mt2 => walk_at "me"); (case z110.mt3 => walk_at "me"); (case z110.mt4 => walk_at "mc"); (case z110.mt5 => walk_at "mc"); (case z110.mt6 => rfl)) | ((with_reducible refine' Tr.val ?z110.mt1 ?z110.mt2 ?z110.mt3); (case z110.mt1 => walk_at "me"); (case z110.mt2 => first | with_reducible exact Tru.bool | with_reducible exact Tru.int | with_reducible exact Tru.none); (case z110.mt3 => rfl)))) (by rw [beq_eq_false_iff_ne]; exact hc1)) (fun h => absurd h (by decide)) (fun _ => ?_)
      dsimp only [List.cons_append, List.nil_append]
      refine Exs.cons (Ex.assign (d := .int f) (Ev.fn 106 (by kernel_rfl) (by rfl) (by decide) (by kernel_rfl) (Evs.cons rfl (by walk_at "me") Evs.nil) (Spec.le (Spec.mono (sp_b64v _) (by rw [hc2])) (by decide))) (.inl rfl) (.inl rfl) rfl) ?_
      refine Exs.ite (c := false) (Tr.mono (by (first | ((with_reducible refine' Tr.cmp ?z111.mt1 ?z111.mt2 ?z111.mt3 ?z111.mt4); (case z111.mt1 => walk_at "me"); (case z111.mt2 => walk_at "me"); (case z111.mt3 => walk_at "mc"); (case z111.mt4 => rfl)) | ((with_reducible refine' Tr.chain ?z111.mt1 ?z111.mt2 ?z111.mt3 ?z111.mt4 ?z111.mt5 ?z111.mt6); (case z111.mt1 => walk_at "me"); (case z111.mt2 => walk_at "me"); (case z111.mt3 => walk_at "me"); (case z111.mt4 => walk_at "mc"); (case z111.mt5 => walk_at "mc"); (case z111.mt6 => rfl)) | ((with_reducible refine' Tr.val ?z111.mt1 ?z111.mt2 ?z111.mt3); (case z111.mt1 => walk_at "me"); (case z111.mt2 => first | with_reducible exact Tru.bool | with_reducible exact Tru.int | with_reducible exact Tru.none); (case z111.mt3 => rfl)))) (by rw [decide_eq_false_iff_not]; omega)) (fun h => absurd h (by decide)) (fun _ => ?_)
      dsimp only [List.cons_append, List.nil_append]
      refine Exs.ite (c := false) (Tr.bools (Trs.and (b := false) (c := false) (by (((with_reducible refine' Tr.mono ?z112.mtb1 ?z112.mtb2); (case z112.mtb1 => (first | ((with_reducible refine' Tr.cmp ?z113.mt1 ?z113.mt2 ?z113.mt3 ?z113.mt4); (case z113.mt1 => walk_at "me"); (case z113.mt2 => walk_at "me"); (case z113.mt3 => walk_at "mc"); (case z113.mt4 => rfl)) | ((with_reducible refine' Tr.chain ?z113.mt1 ?z113.mt2 ?z113.mt3 ?z113.mt4 ?z113.mt5 ?z113.mt6); (case z113.mt1 => walk_at "me"); (case z113.mt2 => walk_at "me"); (case z113.mt3 => walk_at "me"); (case z113.mt4 => walk_at "mc"); (case z113.mt5 => walk_at "mc"); (case z113.mt6 => rfl)) | ((with_reducible refine' Tr.val ?z113.mt1 ?z113.mt2 ?z113.mt3); (case z113.mt1 => walk_at "me"); (case z113.mt2 => first | with_reducible exact Tru.bool | with_reducible exact Tru.int | with_reducible exact Tru.none); (case z113.mt3 => rfl)))); (case z112.mtb2 => first | rfl | decide)))) (fun h => absurd h (by decide)))) (fun h => absurd h (by decide)) (fun _ => ?_)
      dsimp only [List.cons_append, List.nil_append]
      (((with_reducible refine' Exs.cons (Ex.assign ?z114.mas1 ?z114.mas2 ?z114.mas3 ?z114.mas4) ?z114.mas5); (case z114.mas2 => exact .inl rfl); (case z114.mas4 => rfl))); (case mas1 => walk_at "me"); (case mas3 => (first | exact .inl rfl | exact .inr rfl))
      rcases hq with rfl | ⟨rfl, hq⟩ | ⟨rfl, hq⟩ | ⟨rfl, hq⟩ <;> simp only [a2step, List.map_append, List.map_cons, List.map_nil]
      · refine Exs.ite (c := true) (by (((with_reducible refine' Tr.mono ?z116.mtb1 ?z116.mtb2); (case z116.mtb1 => (first | ((with_reducible refine' Tr.cmp ?z117.mt1 ?z117.mt2 ?z117.mt3 ?z117.mt4); (case z117.mt1 => walk_at "me"); (case z117.mt2 => walk_at "me"); (case z117.mt3 => walk_at "mc"); (case z117.mt4 => rfl)) | ((with_reducible refine' Tr.chain ?z117.mt1 ?z117.mt2 ?z117.mt3 ?z117.mt4 ?z117.mt5 ?z117.mt6); (case z117.mt1 => walk_at "me"); (case z117.mt2 => walk_at "me"); (case z117.mt3 => walk_at "me"); (case z117.mt4 => walk_at "mc"); (case z117.mt5 => walk_at "mc"); (case z117.mt6 => rfl)) | ((with_reducible refine' Tr.val ?z117.mt1 ?z117.mt2 ?z117.mt3); (case z117.mt1 => walk_at "me"); (case z117.mt2 => first | with_reducible exact Tru.bool | with_reducible exact Tru.int | with_reducible exact Tru.none); (case z117.mt3 => rfl)))); (case z116.mtb2 => first | rfl | decide)))) (fun _ => ?_) (fun h => absurd h (by decide))
        dsimp only [List.cons_append, List.nil_append]
        (((with_reducible refine' Exs.cons (Ex.assign ?z118.mas1 ?z118.mas2 ?z118.mas3 ?z118.mas4) ?z118.mas5); (case z118.mas2 => exact .inl rfl); (case z118.mas4 => rfl))); (case mas1 => walk_at "me"); (case mas3 => (first | exact .inl rfl | exact .inr rfl))
        (((with_reducible refine' Exs.cons (Ex.assign ?z120.mas1 ?z120.mas2 ?z120.mas3 ?z120.mas4) ?z120.mas5); (case z120.mas2 => exact .inl rfl); (case z120.mas4 => rfl))); (case mas1 => walk_at "me"); (case mas3 => (first | exact .inl rfl | exact .inr rfl))
        (((with_reducible refine' Exs.cons (Ex.assign ?z122.mas1 ?z122.mas2 ?z122.mas3 ?z122.mas4) ?z122.mas5); (case z122.mas2 => exact .inl rfl); (case z122.mas4 => rfl))); (case mas1 => walk_at "me"); (case mas3 => (first | exact .inl rfl | exact .inr rfl))
        exact Exs.nil
      · refine Exs.ite (c := false) (by (((with_reducible refine' Tr.mono ?z124.mtb1 ?z124.mtb2); (case z124.mtb1 => (first | ((with_reducible refine' Tr.cmp ?z125.mt1 ?z125.mt2 ?z125.mt3 ?z125.mt4); (case z125.mt1 => walk_at "me"); (case z125.mt2 => walk_at "me"); (case z125.mt3 => walk_at "mc"); (case z125.mt4 => rfl)) | ((with_reducible refine' Tr.chain ?z125.mt1 ?z125.mt2 ?z125.mt3 ?z125.mt4 ?z125.mt5 ?z125.mt6); (case z125.mt1 => walk_at "me"); (case z125.mt2 => walk_at "me"); (case z125.mt3 => walk_at "me"); (case z125.mt4 => walk_at "mc"); (case z125.mt5 => walk_at "mc"); (case z125.mt6 => rfl)) | ((with_reducible refine' Tr.val ?z125.mt1 ?z125.mt2 ?z125.mt3); (case z125.mt1 => walk_at "me"); (case z125.mt2 => first | with_reducible exact Tru.bool | with_reducible exact Tru.int | with_reducible exact Tru.none); (case z125.mt3 => rfl)))); (case z124.mtb2 => first | rfl | decide)))) (fun h => absurd h (by decide)) (fun _ => ?_)
        dsimp only [List.cons_append, List.nil_append]
        refine Exs.ite (c := true) (by (((with_reducible refine' Tr.mono ?z126.mtb1 ?z126.mtb2); (case z126.mtb1 => (first | ((with_reducible refine' Tr.cmp ?z127.mt1 ?z127.mt2 ?z127.mt3 ?z127.mt4); (case z127.mt1 => walk_at "me"); (case z127.mt2 => walk_at "me"); (case z127.mt3 => walk_at "mc"); (case z127.mt4 => rfl)) | ((with_reducible refine' Tr.chain ?z127.mt1 ?z127.mt2 ?z127.mt3 ?z127.mt4 ?z127.mt5 ?z127.mt6); (case z127.mt1 => walk_at "me"); (case z127.mt2 => walk_at "me"); (case z127.mt3 => walk_at "me"); (case z127.mt4 => walk_at "mc"); (case z127.mt5 => walk_at "mc"); (case z127.mt6 => rfl)) | ((with_reducible refine' Tr.val ?z127.mt1 ?z127.mt2 ?z127.mt3); (case z127.mt1 => walk_at "me"); (case z127.mt2 => first | with_reducible exact Tru.bool | with_reducible exact Tru.int | with_reducible exact Tru.none); (case z127.mt3 => rfl)))); (case z126.mtb2 => first | rfl | decide)))) (fun _ => ?_) (fun h => absurd h (by decide))
        dsimp only [List.cons_append, List.nil_append]
        (((with_reducible refine' Exs.cons (Ex.assign ?z128.mas1 ?z128.mas2 ?z128.mas3 ?z128.mas4) ?z128.mas5); (case z128.mas2 => exact .inl rfl); (case z128.mas4 => rfl))); (case mas1 => walk_at "me"); (case mas3 => (first | exact .inl rfl | exact .inr rfl))
        refine Exs.cons (Ex.append rfl (Ev.mono (d' := D.int ((lc * 4 + f / 16 : Nat) : Int)) (Ev.bin (Ev.bin (by walk_at "me") (by walk_at "me") (Bop.shl (by decide) (by decide) (by omega))) (Ev.bin (by walk_at "me") (by walk_at "me") (Bop.shr (by decide))) Bop.or) ?_) rfl (by rw [List.length_map]; omega) (by decide) rfl rfl) ?_
        · show D.int (Builtin.bitOr ((lc : Int) * 2 ^ 2) ((f : Int).fdiv ((2 ^ 4 : Nat) : Int))) = _
          rw [fdiv_nat, or_lo (by omega)]
        refine Exs.cons (Ex.assign (d := D.int ((f % 16 : Nat) : Int)) (Ev.mono (Ev.bin (by walk_at "me") (by walk_at "me") Bop.and) (by rw [and15])) (.inl rfl) (.inl rfl) rfl) ?_
        (((with_reducible refine' Exs.cons (Ex.assign ?z130.mas1 ?z130.mas2 ?z130.mas3 ?z130.mas4) ?z130.mas5); (case z130.mas2 => exact .inl rfl); (case z130.mas4 => rfl))); (case mas1 => walk_at "me"); (case mas3 => (first | exact .inl rfl | exact .inr rfl))
        exact Exs.nil
      · refine Exs.ite (c := false) (by (((with_reducible refine' Tr.mono ?z132.mtb1 ?z132.mtb2); (case z132.mtb1 => (first | ((with_reducible refine' Tr.cmp ?z133.mt1 ?z133.mt2 ?z133.mt3 ?z133.mt4); (case z133.mt1 => walk_at "me"); (case z133.mt2 => walk_at "me"); (case z133.mt3 => walk_at "mc"); (case z133.mt4 => rfl)) | ((with_reducible refine' Tr.chain ?z133.mt1 ?z133.mt2 ?z133.mt3 ?z133.mt4 ?z133.mt5 ?z133.mt6); (case z133.mt1 => walk_at "me"); (case z133.mt2 => walk_at "me"); (case z133.mt3 => walk_at "me"); (case z133.mt4 => walk_at "mc"); (case z133.mt5 => walk_at "mc"); (case z133.mt6 => rfl)) | ((with_reducible refine' Tr.val ?z133.mt1 ?z133.mt2 ?z133.mt3); (case z133.mt1 => walk_at "me"); (case z133.mt2 => first | with_reducible exact Tru.bool | with_reducible exact Tru.int | with_reducible exact Tru.none); (case z133.mt3 => rfl)))); (case z132.mtb2 => first | rfl | decide)))) (fun h => absurd h (by decide)) (fun _ => ?_)
        dsimp only [List.cons_append, List.nil_append]
        refine Exs.ite (c := false) (by (((with_reducible refine' Tr.mono ?z134.mtb1 ?z134.mtb2); (case z134.mtb1 => (first | ((with_reducible refine' Tr.cmp ?z135.mt1 ?z135.mt2 ?z135.mt3 ?z135.mt4); (case z135.mt1 => walk_at "me"); (case z135.mt2 => walk_at "me"); (case z135.mt3 => walk_at "mc"); (case z135.mt4 => rfl)) | ((with_reducible refine' Tr.chain ?z135.mt1 ?z135.mt2 ?z135.mt3 ?z135.mt4 ?z135.mt5 ?z135.mt6); (case z135.mt1 => walk_at "me"); (case z135.mt2 => walk_at "me"); (case z135.mt3 => walk_at "me"); (case z135.mt4 => walk_at "mc"); (case z135.mt5 => walk_at "mc"); (case z135.mt6 => rfl)) | ((with_reducible refine' Tr.val ?z135.mt1 ?z135.mt2 ?z135.mt3); (case z135.mt1 => walk_at "me"); (case z135.mt2 => first | with_reducible exact Tru.bool | with_reducible exact Tru.int | with_reducible exact Tru.none); (case z135.mt3 => rfl)))); (case z134.mtb2 => first | rfl | decide)))) (fun h => absurd h (by decide)) (fun _ => ?_)
        dsimp only [List.cons_append, List.nil_append]
        refine Exs.ite (c := true) (by (((with_reducible refine' Tr.mono ?z136.mtb1 ?z136.mtb2); (case z136.mtb1 => (first | ((with_reducible refine' Tr.cmp ?z137.mt1 ?z137.mt2 ?z137.mt3 ?z137.mt4); (case z137.mt1 => walk_at "me"); (case z137.mt2 => walk_at "me"); (case z137.mt3 => walk_at "mc"); (case z137.mt4 => rfl)) | ((with_reducible refine' Tr.chain ?z137.mt1 ?z137.mt2 ?z137.mt3 ?z137.mt4 ?z137.mt5 ?z137.mt6); (case z137.mt1 => walk_at "me"); (case z137.mt2 => walk_at "me"); (case z137.mt3 => walk_at "me"); (case z137.mt4 => walk_at "mc"); (case z137.mt5 => walk_at "mc"); (case z137.mt6 => rfl)) | ((with_reducible refine' Tr.val ?z137.mt1 ?z137.mt2 ?z137.mt3); (case z137.mt1 => walk_at "me"); (case z137.mt2 => first | with_reducible exact Tru.bool | with_reducible exact Tru.int | with_reducible exact Tru.none); (case z137.mt3 => rfl)))); (case z136.mtb2 => first | rfl | decide)))) (fun _ => ?_) (fun h => absurd h (by decide))
        dsimp only [List.cons_append, List.nil_append]
        (((with_reducible refine' Exs.cons (Ex.assign ?z138.mas1 ?z138.mas2 ?z138.mas3 ?z138.mas4) ?z138.mas5); (case z138.mas2 => exact .inl rfl); (case z138.mas4 => rfl))); (case mas1 => walk_at "me"); (case mas3 => (first | exact .inl rfl | exact .inr rfl))
        refine Exs.cons (Ex.append rfl (Ev.mono (d' := D.int ((lc * 16 + f / 4 : Nat) : Int)) (Ev.bin (Ev.bin (by walk_at "me") (by walk_at "me") (Bop.shl (by decide) (by decide) (by omega))) (Ev.bin (by walk_at "me") (by walk_at "me") (Bop.shr (by decide))) Bop.or) ?_) rfl (by rw [List.length_map]; omega) (by decide) rfl rfl) ?_
        · show D.int (Builtin.bitOr ((lc : Int) * 2 ^ 4) ((f : Int).fdiv ((2 ^ 2 : Nat) : Int))) = _
          rw [fdiv_nat, or_lo (by omega)]
        refine Exs.cons (Ex.assign (d := D.int ((f % 4 : Nat) : Int)) (Ev.mono (Ev.bin (by walk_at "me") (by walk_at "me") Bop.and) (by rw [and3])) (.inl rfl) (.inl rfl) rfl) ?_
        (((with_reducible refine' Exs.cons (Ex.assign ?z140.mas1 ?z140.mas2 ?z140.mas3 ?z140.mas4) ?z140.mas5); (case z140.mas2 => exact .inl rfl); (case z140.mas4 => rfl))); (case mas1 => walk_at "me"); (case mas3 => (first | exact .inl rfl | exact .inr rfl))
        exact Exs.nil
      · refine Exs.ite (c := false) (by (((with_reducible refine' Tr.mono ?z142.mtb1 ?z142.mtb2); (case z142.mtb1 => (first | ((with_reducible refine' Tr.cmp ?z143.mt1 ?z143.mt2 ?z143.mt3 ?z143.mt4); (case z143.mt1 => walk_at "me"); (case z143.mt2 => walk_at "me"); (case z143.mt3 => walk_at "mc"); (case z143.mt4 => rfl)) | ((with_reducible refine' Tr.chain ?z143.mt1 ?z143.mt2 ?z143.mt3 ?z143.mt4 ?z143.mt5 ?z143.mt6); (case z143.mt1 => walk_at "me"); (case z143.mt2 => walk_at "me"); (case z143.mt3 => walk_at "me"); (case z143.mt4 => walk_at "mc"); (case z143.mt5 => walk_at "mc"); (case z143.mt6 => rfl)) | ((with_reducible refine' Tr.val ?z143.mt1 ?z143.mt2 ?z143.mt3); (case z143.mt1 => walk_at "me"); (case z143.mt2 => first | with_reducible exact Tru.bool | with_reducible exact Tru.int | with_reducible exact Tru.none); (case z143.mt3 => rfl)))); (case z142.mtb2 => first | rfl | decide)))) (fun h => absurd h (by decide)) (fun _ => ?_)
        dsimp only [List.cons_append, List.nil_append]
        refine Exs.ite (c := false) (by (((with_reducible refine' Tr.mono ?z144.mtb1 ?z144.mtb2); (case z144.mtb1 => (first | ((with_reducible refine' Tr.cmp ?z145.mt1 ?z145.mt2 ?z145.mt3 ?z145.mt4); (case z145.mt1 => walk_at "me"); (case z145.mt2 => walk_at "me"); (case z145.mt3 => walk_at "mc"); (case z145.mt4 => rfl)) | ((with_reducible refine' Tr.chain ?z145.mt1 ?z145.mt2 ?z145.mt3 ?z145.mt4 ?z145.mt5 ?z145.mt6); (case z145.mt1 => walk_at "me"); (case z145.mt2 => walk_at "me"); (case z145.mt3 => walk_at "me"); (case z145.mt4 => walk_at "mc"); (case z145.mt5 => walk_at "mc"); (case z145.mt6 => rfl)) | ((with_reducible refine' Tr.val ?z145.mt1 ?z145.mt2 ?z145.mt3); (case z145.mt1 => walk_at "me"); (case z145.mt2 => first | with_reducible exact Tru.bool | with_reducible exact Tru.int | with_reducible exact Tru.none); (case z145.mt3 => rfl)))); (case z144.mtb2 => first | rfl | decide)))) (fun h => absurd h (by decide)) (fun _ => ?_)
        dsimp only [List.cons_append, List.nil_append]
        refine Exs.ite (c := false) (by (((with_reducible refine' Tr.mono ?z146.mtb1 ?z146.mtb2); (case z146.mtb1 => (first | ((with_reducible refine' Tr.cmp ?z147.mt1 ?z147.mt2 ?z147.mt3 ?z147.mt4); (case z147.mt1 => walk_at "me"); (case z147.mt2 => walk_at "me"); (case z147.mt3 => walk_at "mc"); (case z147.mt4 => rfl)) | ((with_reducible refine' Tr.chain ?z147.mt1 ?z147.mt2 ?z147.mt3 ?z147.mt4 ?z147.mt5 ?z147.mt6); (case z147.mt1 => walk_at "me"); (case z147.mt2 => walk_at "me"); (case z147.mt3 => walk_at "me"); (case z147.mt4 => walk_at "mc"); (case z147.mt5 => walk_at "mc"); (case z147.mt6 => rfl)) | ((with_reducible refine' Tr.val ?z147.mt1 ?z147.mt2 ?z147.mt3); (case z147.mt1 => walk_at "me"); (case z147.mt2 => first | with_reducible exact Tru.bool | with_reducible exact Tru.int | with_reducible exact Tru.none); (case z147.mt3 => rfl)))); (case z146.mtb2 => first | rfl | decide)))) (fun h => absurd h (by decide)) (fun _ => ?_)
        dsimp only [List.cons_append, List.nil_append]
        (((with_reducible refine' Exs.cons (Ex.assign ?z148.mas1 ?z148.mas2 ?z148.mas3 ?z148.mas4) ?z148.mas5); (case z148.mas2 => exact .inl rfl); (case z148.mas4 => rfl))); (case mas1 => walk_at "me"); (case mas3 => (first | exact .inl rfl | exact .inr rfl))
        refine Exs.cons (Ex.append rfl (Ev.mono (d' := D.int ((lc * 64 + f : Nat) : Int)) (Ev.bin (Ev.bin (by walk_at "me") (by walk_at "me") (Bop.shl (by decide) (by decide) (by omega))) (by walk_at "me") Bop.or) ?_) rfl (by rw [List.length_map]; omega) (by decide) rfl rfl) ?_
        · show D.int (Builtin.bitOr ((lc : Int) * 2 ^ 6) (f : Int)) = _
          rw [or_lo (by omega)]
        (((with_reducible refine' Exs.cons (Ex.assign ?z150.mas1 ?z150.mas2 ?z150.mas3 ?z150.mas4) ?z150.mas5); (case z150.mas2 => exact .inl rfl); (case z150.mas4 => rfl))); (case mas1 => walk_at "me"); (case mas3 => (first | exact .inl rfl | exact .inr rfl))
        (((with_reducible refine' Exs.cons (Ex.assign ?z152.mas1 ?z152.mas2 ?z152.mas3 ?z152.mas4) ?z152.mas5); (case z152.mas2 => exact .inl rfl); (case z152.mas4 => rfl))); (case mas1 => walk_at "me"); (case mas3 => (first | exact .inl rfl | exact .inr rfl))
        exact Exs.nil
    · have hq := a2ok_all _ (ftk i) _ ok0
      have hqp := a2qp _ _ ok0 (ftk i)
      rw [List.take_of_length_le h1] at hq hqp ⊢
      rw [List.take_of_length_le (by omega : fs.length ≤ i + 1), show i + 1 - fs.length = (i - fs.length) + 1 by omega]
      generalize hpd : i - fs.length = pd at h2
      generalize fs.foldl a2step ([], 0, 0) = q at hq hqp
      obtain ⟨out, qp, lc⟩ := q
      dsimp only at hqp
      rw [Nat.zero_add] at hqp
      refine .inr ?_
      have hb : 2 ≤ qp ∧ qp + (pd + 1) ≤ 4 := by omega
      refine Exs.subC ?_ (subSto.app (τ := ([("this_ch", PV.v (D.int 61))] : Sto)))
      refine Exs.ite (c := true) (by (((with_reducible refine' Tr.mono ?z154.mtb1 ?z154.mtb2); (case z154.mtb1 => (first | ((with_reducible refine' Tr.cmp ?z155.mt1 ?z155.mt2 ?z155.mt3 ?z155.mt4); (case z155.mt1 => walk_at "me"); (case z155.mt2 => walk_at "me"); (case z155.mt3 => walk_at "mc"); (case z155.mt4 => rfl)) | ((with_reducible refine' Tr.chain ?z155.mt1 ?z155.mt2 ?z155.mt3 ?z155.mt4 ?z155.mt5 ?z155.mt6); (case z155.mt1 => walk_at "me"); (case z155.mt2 => walk_at "me"); (case z155.mt3 => walk_at "me"); (case z155.mt4 => walk_at "mc"); (case z155.mt5 => walk_at "mc"); (case z155.mt6 => rfl)) | ((with_reducible refine' Tr.val ?z155.mt1 ?z155.mt2 ?z155.mt3); (case z155.mt1 => walk_at "me"); (case z155.mt2 => first | with_reducible exact Tru.bool | with_reducible exact Tru.int | with_reducible exact Tru.none); (case z155.mt3 => rfl)))); (case z154.mtb2 => first | rfl | decide)))) (fun _ => ?_) (fun h => absurd h (by decide))
      dsimp only [List.cons_append, List.nil_append]
      (((with_reducible refine' Exs.cons (Ex.assign ?z156.mas1 ?z156.mas2 ?z156.mas3 ?z156.mas4) ?z156.mas5); (case z156.mas2 => exact .inl rfl); (case z156.mas4 => rfl))); (case mas1 => walk_at "me"); (case mas3 => (first | exact .inl rfl | exact .inr rfl))
      refine Exs.ite (c := true) (Tr.bools (Trs.and (b := true) (c := true) (Tr.mono (by (first | ((with_reducible refine' Tr.cmp ?z158.mt1 ?z158.mt2 ?z158.mt3 ?z158.mt4); (case z158.mt1 => walk_at "me"); (case z158.mt2 => walk_at "me"); (case z158.mt3 => walk_at "mc"); (case z158.mt4 => rfl)) | ((with_reducible refine' Tr.chain ?z158.mt1 ?z158.mt2 ?z158.mt3 ?z158.mt4 ?z158.mt5 ?z158.mt6); (case z158.mt1 => walk_at "me"); (case z158.mt2 => walk_at "me"); (case z158.mt3 => walk_at "me"); (case z158.mt4 => walk_at "mc"); (case z158.mt5 => walk_at "mc"); (case z158.mt6 => rfl)) | ((with_reducible refine' Tr.val ?z158.mt1 ?z158.mt2 ?z158.mt3); (case z158.mt1 => walk_at "me"); (case z158.mt2 => first | with_reducible exact Tru.bool | with_reducible exact Tru.int | with_reducible exact Tru.none); (case z158.mt3 => rfl)))) (by rw [decide_eq_true_eq]; omega)) (fun _ => Trs.and (b := true) (c := true) (Tr.mono (by (first | ((with_reducible refine' Tr.cmp ?z159.mt1 ?z159.mt2 ?z159.mt3 ?z159.mt4); (case z159.mt1 => walk_at "me"); (case z159.mt2 => walk_at "me"); (case z159.mt3 => walk_at "mc"); (case z159.mt4 => rfl)) | ((with_reducible refine' Tr.chain ?z159.mt1 ?z159.mt2 ?z159.mt3 ?z159.mt4 ?z159.mt5 ?z159.mt6); (case z159.mt1 => walk_at "me"); (case z159.mt2 => walk_at "me"); (case z159.mt3 => walk_at "me"); (case z159.mt4 => walk_at "mc"); (case z159.mt5 => walk_at "mc"); (case z159.mt6 => rfl)) | ((with_reducible refine' Tr.val ?z159.mt1 ?z159.mt2 ?z159.mt3); (case z159.mt1 => walk_at "me"); (case z159.mt2 => first | with_reducible exact Tru.bool | with_reducible exact Tru.int | with_reducible exact Tru.none); (case z159.mt3 => rfl)))) (by rw [decide_eq_true_eq]; omega)) fun _ => Trs.and_nil))) (fun _ => ?_) (fun h => absurd h (by decide))
      dsimp only [List.cons_append, List.nil_append]
      (((with_reducible refine' Exs.cons (Ex.assign ?z160.mas1 ?z160.mas2 ?z160.mas3 ?z160.mas4) ?z160.mas5); (case z160.mas2 => exact .inl rfl); (case z160.mas4 => rfl))); (case mas1 => walk_at "me"); (case mas3 => (first | exact .inl rfl | exact .inr rfl))
      exact Exs.stop Ex.cont rfl
  rw [txt_len, List.take_of_length_le (Nat.le_add_right _ _), Nat.add_sub_cancel_left]
  have hq := a2ok_all _ hf _ ok0
  have hqp := a2qp _ _ ok0 hf
  have hs := a2len fs ([], 0, 0)
  unfold a2all
  generalize fs.foldl a2step ([], 0, 0) = q at hq hqp hs
  obtain ⟨out, qp, lc⟩ := q
  obtain ⟨_, hq⟩ := hq
  dsimp only at hqp hq hs
  rw [Nat.zero_add] at hqp
  rw [List.length_nil, Nat.zero_add] at hs
  have hq1 : ((qp : Int) == 1) = false := by rw [beq_eq_false_iff_ne]; omega
  refine Exs.ite (c := false) (Tr.mono (by (first | ((with_reducible refine' Tr.cmp ?z162.mt1 ?z162.mt2 ?z162.mt3 ?z162.mt4); (case z162.mt1 => walk_at "me"); (case z162.mt2 => walk_at "me"); (case z162.mt3 => walk_at "mc"); (case z162.mt4 => rfl)) | ((with_reducible refine' Tr.chain ?z162.mt1 ?z162.mt2 ?z162.mt3 ?z162.mt4 ?z162.mt5 ?z162.mt6); (case z162.mt1 => walk_at "me"); (case z162.mt2 => walk_at "me"); (case z162.mt3 => walk_at "me"); (case z162.mt4 => walk_at "mc"); (case z162.mt5 => walk_at "mc"); (case z162.mt6 => rfl)) | ((with_reducible refine' Tr.val ?z162.mt1 ?z162.mt2 ?z162.mt3); (case z162.mt1 => walk_at "me"); (case z162.mt2 => first | with_reducible exact Tru.bool | with_reducible exact Tru.int | with_reducible exact Tru.none); (case z162.mt3 => rfl)))) hq1) (fun h => absurd h (by decide)) (fun _ => ?_)
  dsimp only [List.cons_append, List.nil_append]
  refine Exs.ite (c := false) (Tr.bools (Tr_and2 (by (first | ((with_reducible refine' Tr.cmp ?z163.mt1 ?z163.mt2 ?z163.mt3 ?z163.mt4); (case z163.mt1 => walk_at "me"); (case z163.mt2 => walk_at "me"); (case z163.mt3 => walk_at "mc"); (case z163.mt4 => rfl)) | ((with_reducible refine' Tr.chain ?z163.mt1 ?z163.mt2 ?z163.mt3 ?z163.mt4 ?z163.mt5 ?z163.mt6); (case z163.mt1 => walk_at "me"); (case z163.mt2 => walk_at "me"); (case z163.mt3 => walk_at "me"); (case z163.mt4 => walk_at "mc"); (case z163.mt5 => walk_at "mc"); (case z163.mt6 => rfl)) | ((with_reducible refine' Tr.val ?z163.mt1 ?z163.mt2 ?z163.mt3); (case z163.mt1 => walk_at "me"); (case z163.mt2 => first | with_reducible exact Tru.bool | with_reducible exact Tru.int | with_reducible exact Tru.none); (case z163.mt3 => rfl)))) (by (first | ((with_reducible refine' Tr.cmp ?z164.mt1 ?z164.mt2 ?z164.mt3 ?z164.mt4); (case z164.mt1 => walk_at "me"); (case z164.mt2 => walk_at "me"); (case z164.mt3 => walk_at "mc"); (case z164.mt4 => rfl)) | ((with_reducible refine' Tr.chain ?z164.mt1 ?z164.mt2 ?z164.mt3 ?z164.mt4 ?z164.mt5 ?z164.mt6); (case z164.mt1 => walk_at "me"); (case z164.mt2 => walk_at "me"); (case z164.mt3 => walk_at "me"); (case z164.mt4 => walk_at "mc"); (case z164.mt5 => walk_at "mc"); (case z164.mt6 => rfl)) | ((with_reducible refine' Tr.val ?z164.mt1 ?z164.mt2 ?z164.mt3); (case z164.mt1 => walk_at "me"); (case z164.mt2 => first | with_reducible exact Tru.bool | with_reducible exact Tru.int | with_reducible exact Tru.none); (case z164.mt3 => rfl)))) ?_)) (fun h => absurd h (by decide)) (fun _ => ?_)
  · have h3 : qp = 0 ∨ ¬ qp + pad < 4 := by omega
    rw [Bool.and_eq_false_iff]
    rcases h3 with rfl | h3
    · exact .inl rfl
    · refine .inr (decide_eq_false_iff_not.mpr ?_)
      intro h; exact h3 (by omega)
  dsimp only [List.cons_append, List.nil_append]
  refine Exs.stop (Ex.ret (Ev.bfn (r := .bytes (toBytes (out.map fun (x : Nat) => (x : Int)))) (by (((with_reducible refine' Ev.blt ?z165.mbn1 ?z165.mbn2 ?z165.mbn3 ?z165.mbn4 ?z165.mbn5); (case z165.mbn1 => kernel_rfl); (case z165.mbn2 => boot_fact); (case z165.mbn3 => decide); (case z165.mbn4 => rfl); (case z165.mbn5 => decide)))) (by nofun) (Evs.cons rfl (Ev.mono (by walk_at "me") ?_) Evs.nil) (sp_bytes (ns := out.map fun (x : Nat) => (x : Int)) ?_ (by rw [List.length_map]; omega)))) rfl
  · rw [List.map_map]; rfl
  · intro k hk
    obtain ⟨x, hx, rfl⟩ := List.mem_map.mp hk
    have := hq x hx
    omega
end
-- F6
section
set_option maxRecDepth 100000
set_option maxHeartbeats 4000000
variable {prog : Program} {w : World}

noncomputable def seqAt (K : Frag) (T : Addr) : Option (Array Value) := match K.lookup T with
  | some o => match o.data with
    | .seq items _ => some items
    | _ => none
  | none => none
theorem seqAt_of {K : Frag} {T : Addr} {items : Array Value} (h : seqAt K T = some items) : ∃ o m, K.lookup T = some o ∧ o.data = .seq items m := by
  unfold seqAt at h
  split at h
  · rename_i o e
    split at h
    · rename_i its m e2
      cases h
      exact ⟨o, m, e, e2⟩
    · cases h
  · cases h
theorem BindsD.dflt {K : Frag} {fd : FuncData} {T : Addr} {items : Array Value} {x : Str} {d : D} {rest : List (Str × Value)} {rd : List (Str × D)} (hd : fd.defaults = .ref T)
    (ho : seqAt K T = some items) (h : ∀ v, ∃ k : Option (Array Value) → Sem (List (Str × Value)), bindArgs fd ⟨[v], []⟩ = seqItems? fd.defaults >>= k ∧ k (some items) = pure ((x, v) :: rest))
    (hn : rest.map (·.1) = rd.map (·.1)) (hr : ∀ P h, Reps P h (rest.map (·.2)) (rd.map (·.2))) : BindsD K fd [d] [] ((x, d) :: rd) := by
  intro s O vs ks B r1 r2
  obtain ⟨o, m, ho, hs⟩ := seqAt_of ho
  replace r2 := r2.inv; cases r2
  replace r1 := r1.inv; cases r1 with
  | @cons v _ a r1 =>
    replace r1 := r1.inv; cases r1
    obtain ⟨k, h1, h2⟩ := h v
    refine ⟨v :: rest.map (·.2), ?_, .cons a (hr _ _)⟩
    refine BindsTo.of_defaults hd (B.kin _ _ ho) hs h1 (h2.trans ?_)
    rw [List.map_cons, ← hn]
    show _ = pure ((x, v) :: (rest.map (·.1)).zip (rest.map (·.2)))
    congr 2
    clear h hn hr h2
    induction rest with
    | nil => rfl
    | cons p r ih => simp only [List.map_cons, List.zip_cons_cons, ← ih]
theorem BindsD.dfltK {K : Frag} {fd : FuncData} {T : Addr} {items : Array Value} {x y z : Str} {d e f : D} {q : Value} (hd : fd.defaults = .ref T)
    (ho : seqAt K T = some items) (h : ∀ v u, ∃ k : Option (Array Value) → Sem (List (Str × Value)), bindArgs fd ⟨[v], [(z, u)]⟩ = seqItems? fd.defaults >>= k ∧ k (some items) = pure [(x, v), (y, q), (z, u)])
    (hr : ∀ P h, Rep P h q e) : BindsD K fd [d] [(z, f)] [(x, d), (y, e), (z, f)] := by
  intro s O vs ks B r1 r2
  obtain ⟨o, m, ho, hs⟩ := seqAt_of ho
  replace r1 := r1.inv; cases r1 with
  | @cons v _ a r1 =>
    replace r1 := r1.inv; cases r1
    replace r2 := r2.inv; cases r2 with
    | @cons u _ b r2 =>
      replace r2 := r2.inv; cases r2
      obtain ⟨k, h1, h2⟩ := h v u
      exact ⟨[v, q, u], BindsTo.of_defaults hd (B.kin _ _ ho) hs h1 h2, .cons a (.cons (hr _ _) (.cons b .nil))⟩

noncomputable def enc64 (l : List UInt8) : List UInt8 := toBytes (b2end (b2all l))
theorem sp_b64encode (l : List UInt8) (hz : l.length ≤ 1000) : Spec prog w (KK w) 9 (.ref 153) [.bytes l] [] (.bytes (enc64 l)) := by
  refine Spec.fn (n := 8) 153 (bd := [("s", .bytes l), ("altchars", .none)]) (by kernel_rfl) (body := ?b) ?hb (by kernel_rfl) (by kernel_rfl) (by kernel_rfl) (by kernel_rfl) (by kernel_rfl) (by kernel_rfl) (by kernel_rfl) (by kernel_rfl) (.dflt (T := 146) (items := #[.none]) (rest := [("altchars", .none)]) (rd := [("altchars", .none)]) (by kernel_rfl) (by kernel_rfl) (fun v => ⟨_, rfl, by kernel_rfl⟩) rfl (fun _ _ => .cons .none .nil)) ?h
  case hb => rfl
  intro L
  refine Exs.cons (Ex.assign (d := .bytes (enc64 l)) (Ev.call (n := 7) (Ev.glob (v := .ref 122) (by kernel_rfl) rfl (fun _ _ => .raw _) (by decide)) (Evs.cons rfl (by walk_at "me") Evs.nil) (Evk.cons (by walk_at "me") Evk.nil) (kpr (fd := fdOf (KK w) 122) (by kernel_rfl)) (sp_b2a l hz)) (.inl rfl) (.inl rfl) rfl) ?_
  refine Exs.ite (c := false) (by (((with_reducible refine' Tr.mono ?z166.mtb1 ?z166.mtb2); (case z166.mtb1 => (first | ((with_reducible refine' Tr.cmp ?z167.mt1 ?z167.mt2 ?z167.mt3 ?z167.mt4); (case z167.mt1 => walk_at "me"); (case z167.mt2 => walk_at "me"); (case z167.mt3 => walk_at "mc"); (case z167.mt4 => rfl)) | ((with_reducible refine' Tr.chain ?z167.mt1 ?z167.mt2 ?z167.mt3 ?z167.mt4 ?z167.mt5 ?z167.mt6); (case z167.mt1 => walk_at "me"); (case z167.mt2 => walk_at "me"); (case z167.mt3 => walk_at "me"); (case z167.mt4 => walk_at "mc"); (case z167.mt5 => walk_at "mc"); (case z167.mt6 => rfl)) | ((with_reducible refine' Tr.val ?z167.mt1 ?z167.mt2 ?z167.mt3); (case z167.mt1 => walk_at "me"); (case z167.mt2 => first | with_reducible exact Tru.bool | with_reducible exact Tru.int | with_reducible exact Tru.none); (case z167.mt3 => rfl)))); (case z166.mtb2 => first | rfl | decide)))) (fun h => absurd h (by decide)) (fun _ => ?_)
  dsimp only [List.cons_append, List.nil_append]
  (((with_reducible refine' Exs.stop (Ex.ret (Ev.mono ?z168.mret1 ?z168.mret2)) ?z168.mret3); (case z168.mret3 => rfl); (case z168.mret1 => walk_at "me"))); rfl
theorem sp_b64decode (fs : List Nat) (pad : Nat) (hf : ∀ f ∈ fs, f < 64) (hp : (fs.length % 4 = 0 ∧ pad = 0) ∨ (fs.length % 4 = 2 ∧ pad = 2) ∨ (fs.length % 4 = 3 ∧ pad = 1)) (hz : fs.length ≤ 1000) :
    Spec prog w (KK w) 9 (.ref 161) [.bytes (txt64 fs pad)] [("validate", .bool true)] (.bytes (toBytes ((a2all fs).1.map fun (x : Nat) => (x : Int)))) := by
  refine Spec.fn (n := 8) 161 (bd := [("s", .bytes (txt64 fs pad)), ("altchars", .none), ("validate", .bool true)]) (by kernel_rfl) (body := ?b) ?hb (by kernel_rfl) (by kernel_rfl) (by kernel_rfl) (by kernel_rfl) (by kernel_rfl) (by kernel_rfl) (by kernel_rfl) (by kernel_rfl) (.dfltK (T := 154) (items := #[.none, .bool false]) (q := .none) (by kernel_rfl) (by kernel_rfl) (fun v u => ⟨_, rfl, by kernel_rfl⟩) (fun _ _ => .none)) ?h
  case hb => rfl
  intro L
  refine Exs.cons (Ex.assign (d := .bytes (txt64 fs pad)) (Ev.fn 65 (by kernel_rfl) (by rfl) (by decide) (by kernel_rfl) (Evs.cons rfl (by walk_at "me") Evs.nil) (Spec.le (sp_decodeData _) (by decide))) (.inl rfl) (.inl rfl) rfl) ?_
  refine Exs.ite (c := false) (by (((with_reducible refine' Tr.mono ?z169.mtb1 ?z169.mtb2); (case z169.mtb1 => (first | ((with_reducible refine' Tr.cmp ?z170.mt1 ?z170.mt2 ?z170.mt3 ?z170.mt4); (case z170.mt1 => walk_at "me"); (case z170.mt2 => walk_at "me"); (case z170.mt3 => walk_at "mc"); (case z170.mt4 => rfl)) | ((with_reducible refine' Tr.chain ?z170.mt1 ?z170.mt2 ?z170.mt3 ?z170.mt4 ?z170.mt5 ?z170.mt6); (case z170.mt1 => walk_at "me"); (case z170.mt2 => walk_at "me"); (case z170.mt3 => walk_at "me"); (case z170.mt4 => walk_at "mc"); (case z170.mt5 => walk_at "mc"); (case z170.mt6 => rfl)) | ((with_reducible refine' Tr.val ?z170.mt1 ?z170.mt2 ?z170.mt3); (case z170.mt1 => walk_at "me"); (case z170.mt2 => first | with_reducible exact Tru.bool | with_reducible exact Tru.int | with_reducible exact Tru.none); (case z170.mt3 => rfl)))); (case z169.mtb2 => first | rfl | decide)))) (fun h => absurd h (by decide)) (fun _ => ?_)
  dsimp only [List.cons_append, List.nil_append]
  refine Exs.stop (Ex.ret (Ev.call (n := 7) (Ev.glob (v := .ref 114) (by kernel_rfl) rfl (fun _ _ => .raw _) (by decide)) (Evs.cons rfl (by walk_at "me") Evs.nil) (Evk.cons (by walk_at "me") Evk.nil) (kpr (fd := fdOf (KK w) 114) (by kernel_rfl)) (sp_a2b fs pad hf hp hz))) rfl
end
-- F7
section
set_option maxRecDepth 100000
set_option maxHeartbeats 4000000
variable {prog : Program} {w : World}

noncomputable def hx (x : Nat) : Nat := Builtin.Bytes.hexDigit x
noncomputable def hexCps (l : List UInt8) : List Nat := l.flatMap fun c => [hx (c.toNat / 16), hx (c.toNat % 16)]
theorem hexCps_len (l : List UInt8) : (hexCps l).length = 2 * l.length := by
  induction l with
  | nil => rfl
  | cons a r ih => rw [hexCps, List.flatMap_cons, List.length_append, ← hexCps, ih]; show 2 + 2 * r.length = 2 * (r.length + 1); omega
theorem hexCps_lt (l : List UInt8) : ∀ c ∈ hexCps l, c < 128 := by
  intro c hc
  obtain ⟨x, _, hq⟩ := List.mem_flatMap.mp hc
  have h1 : ∀ d, d < 16 → hx d < 128 := by decide
  have := x.toNat_lt
  rcases List.mem_cons.mp hq with rfl | hq
  · exact h1 _ (by omega)
  · rcases List.mem_cons.mp hq with rfl | hq
    · exact h1 _ (by omega)
    · cases hq
theorem hex_fold (l : List UInt8) : ∀ (k : Nat) (acc : Array Nat), (l.zipIdx k).foldl (fun (out : Array Nat) (p : UInt8 × Nat) => (out.push (Builtin.Bytes.hexDigit (p.1.toNat / 16))).push (Builtin.Bytes.hexDigit (p.1.toNat % 16))) acc = acc ++ (hexCps l).toArray := by
  induction l with
  | nil => intro k acc; simp [hexCps]
  | cons a r ih =>
    intro k acc
    rw [List.zipIdx_cons, List.foldl_cons, ih]
    apply Array.ext'
    simp [hexCps, hx]
theorem gives_hex' (l : List UInt8) (t : Tok) : Gives (Builtin.«bytes.hex» ⟨[.bytes l.toArray t], []⟩) (.str ⟨(hexCps l).toArray⟩) := by
  have h : Builtin.«bytes.hex» ⟨[.bytes l.toArray t], []⟩ = retStr ⟨(l.zipIdx 0).foldl (fun (out : Array Nat) (p : UInt8 × Nat) => (out.push (Builtin.Bytes.hexDigit (p.1.toNat / 16))).push (Builtin.Bytes.hexDigit (p.1.toNat % 16))) #[]⟩ := rfl
  rw [h, hex_fold]
  rw [show (#[] ++ (hexCps l).toArray) = (hexCps l).toArray by simp]
  exact gives_retStr _
theorem two_turns {S : Type} {F : Nat → S → Sem (ForInStep S)} {s0 : S} (s1 : S) (h0 : ∀ x, F x s0 = pure (.yield s1)) (h1 : ∀ x, F x s1 = pure (.done s1)) : ∀ l : List Nat, l ≠ [] → (forIn l s0 F : Sem S) = pure s1
  | [], h => absurd rfl h
  | [a], _ => by rw [List.forIn_cons, h0, pure_bind]; rfl
  | a :: b :: r, _ => by
    rw [List.forIn_cons, h0, pure_bind]
    show (forIn (b :: r) s1 F : Sem S) = _
    rw [List.forIn_cons, h1, pure_bind]
theorem ascii_fold (cs : List Nat) : ∀ acc : Array UInt8, cs.foldl (fun acc y => acc ++ (Builtin._codecs.asciiCodec.bytesOf y).toArray) acc = acc ++ (cs.map Nat.toUInt8).toArray := by
  induction cs with
  | nil => intro acc; simp
  | cons a r ih => intro acc; rw [List.foldl_cons, ih]; apply Array.ext'; simp [Builtin._codecs.asciiCodec]
open Builtin._codecs in
theorem narrow (id : String) (self : Value) (cs : List Nat) (h : ∀ c ∈ cs, c < 128) (hz : cs.length ≤ 1000) : encodeNarrow id asciiCodec none self ⟨cs.toArray⟩ = pure (cs.map Nat.toUInt8).toArray := by
  match cs, h, hz with
  | [], _, _ => kernel_rfl
  | c :: r, h, hz =>
    have hbad : ∀ x ∈ c :: r, asciiCodec.bad x = false := fun x hx => by
      show decide (x ≥ 128) = false
      rw [decide_eq_false_iff_not]; have := h x hx; omega
    have hfind : Array.findIdx? asciiCodec.bad (c :: r).toArray = none := by
      rw [List.findIdx?_toArray, List.findIdx?_eq_none_iff]; exact hbad
    have hex : (c :: r).toArray.extract 0 = (c :: r).toArray := by simp
    unfold encodeNarrow
    simp only [Std.Legacy.Range.forIn_eq_forIn_range']
    rw [two_turns ((c :: r).length, ((c :: r).map Nat.toUInt8).toArray, {}) ?_ ?_ _ ?_, pure_bind]
    · intro x
      refine (if_neg (by decide)).trans ?_
      dsimp only
      rw [show (c :: r).toArray[0]? = some c by simp]
      dsimp only
      rw [hbad c List.mem_cons_self]
      refine (if_pos rfl).trans ?_
      rw [show (c :: r).toArray.extract 0 (c :: r).toArray.size = (c :: r).toArray from hex, hfind]
      simp only [Option.getD_none, List.size_toArray]
      rw [show (c :: r).toArray.extract 0 (c :: r).length = (c :: r).toArray by simp, List.foldl_toArray, ascii_fold]
      simp
    · intro x
      refine (if_neg (by rw [List.size_toArray, List.length_map]; show ¬ _ > 2 ^ 24; omega)).trans ?_
      dsimp only
      rw [show (c :: r).toArray[(c :: r).length]? = none by simp]
    · show List.range' 0 ((r.length + 1 - 0 + 1 - 1) / 1) ≠ []
      simp
open Builtin._codecs in
theorem encodeRoad_ascii (id : String) (self : Value) (x : Str) (errors : Option Str) : encodeRoad id self x (Str.ofString "ascii") errors = (do mkBytes (← encodeNarrow id asciiCodec errors self x)) := by
  first | rfl | (unfold encodeRoad; rfl) | (unfold encodeRoad; simp only []; rfl) | decide
open Builtin._codecs in
theorem encode_tree2 (x : Str) (t u : Tok) : Builtin.«str.encode» ⟨[.str x t, .str (Str.ofString "ascii") u], []⟩ = (do ret (← encodeRoad "str.encode" (.str x t) x (Str.ofString "ascii") none)) := by kernel_rfl
theorem gives_encode (cs : List Nat) (h : ∀ c ∈ cs, c < 128) (hz : cs.length ≤ 1000) (t u : Tok) : Gives (Builtin.«str.encode» ⟨[.str ⟨cs.toArray⟩ t, .str (Str.ofString "ascii") u], []⟩) (.bytes (cs.map Nat.toUInt8).toArray) := by
  rw [encode_tree2, encodeRoad_ascii, narrow _ _ _ h hz, pure_bind]
  exact .of_eq rfl
section
variable {K : Frag} {n : Nat}
theorem sp_hex (l : List UInt8) (hz : l.length ≤ 400) : Spec prog w K n (.builtin "bytes.hex") [.bytes l] [] (.str ⟨(hexCps l).toArray⟩) :=
  .one fun s A O v E _ _ _ r => by
    replace r := r.inv; cases r
    refine call_gives PySem.W.FB.slot_bytes_hex rfl PySem.W.FB.entry_bytes_hex (PySem.W.FB.args_bytes_hex_1 _) (gives_hex' l _) ⟨?_, ktoks s _, .str _ _⟩
    show (hexCps l).toArray.size ≤ 2 ^ 24
    rw [List.size_toArray, hexCps_len]; omega
theorem sp_encode (cs : List Nat) (h : ∀ c ∈ cs, c < 128) (hz : cs.length ≤ 1000) : Spec prog w K n (.builtin "str.encode") [.str ⟨cs.toArray⟩, .str "ascii"] [] (.bytes (cs.map Nat.toUInt8)) :=
  .two fun s A O v u E _ _ _ r r2 => by
    replace r := r.inv; cases r; replace r2 := r2.inv; cases r2
    refine call_gives PySem.F.slot_str_encode rfl PySem.F.entry_str_encode (PySem.F.args_str_encode_2 _ _) (gives_encode cs h hz _ _) ⟨?_, ktoks s _, .bytes _ _⟩
    show (cs.map Nat.toUInt8).toArray.size ≤ 2 ^ 24
    simp; omega
theorem slot_bytes_upper : Slot "bytes" "upper" "bytes.upper" :=
  .of (owner := "bytes") (n := "upper") (by rw [typeLookup_type, builtinLookup_eq_fast]; kernel_rfl) (by decide +kernel) (by decide +kernel) (by decide +kernel)
    (by first | exact .inl (by decide +kernel) | exact .inr (by decide +kernel)) (by rw [isSubtype_type]; kernel_rfl)
theorem type_bytes_upper : typeOf (.builtin "bytes.upper") = pure (.type "method_descriptor") := by show builtinType _ = _; rw [builtinType_eq_fast]; kernel_rfl
theorem entry_bytes_upper : entryFor table "bytes.upper" = some Builtin.«bytes.upper» := entryFor_of_tree (by kernel_rfl)
theorem args_bytes_upper (a : Value) : argsOk "bytes.upper" ⟨[a], []⟩ := by unfold argsOk; kernel_rfl
theorem sp_upper (l : List UInt8) (hz : l.length ≤ 1000) : Spec prog w K n (.builtin "bytes.upper") [.bytes l] [] (.bytes (l.map Builtin.Bytes.toUpper)) :=
  .one fun s A O v E _ _ _ r => by
    replace r := r.inv; cases r
    refine call_gives slot_bytes_upper rfl entry_bytes_upper (args_bytes_upper _) (.of_eq (m := .bytes (l.map Builtin.Bytes.toUpper).toArray) rfl) ⟨?_, ktoks s _, .bytes _ _⟩
    show (l.map Builtin.Bytes.toUpper).toArray.size ≤ 2 ^ 24
    simp; omega
end
noncomputable def hexLow (l : List UInt8) : List UInt8 := (hexCps l).map Nat.toUInt8
theorem sp_b2ahex (l : List UInt8) (hz : l.length ≤ 400) : Spec prog w (KK w) 7 (.ref 131) [.bytes l] [] (.bytes (hexLow l)) := by
  have ⟨t, ht⟩ : ∃ t, seqAt (KK w) 124 = some #[.ref 123, .int 1 t] := ⟨_, by rfl⟩
  refine Spec.fn (n := 6) 131 (bd := [("data", .bytes l), ("sep", .raw (.ref 123)), ("bytes_per_sep", .int 1)]) (by kernel_rfl) (body := ?b) ?hb (by kernel_rfl) (by kernel_rfl) (by kernel_rfl) (by kernel_rfl) (by kernel_rfl) (by kernel_rfl) (by kernel_rfl) (by kernel_rfl) (.dflt (T := 124) (rest := [("sep", .ref 123), ("bytes_per_sep", .int 1 t)]) (rd := [("sep", .raw (.ref 123)), ("bytes_per_sep", .int 1)]) (by kernel_rfl) ht (fun v => ⟨_, rfl, by kernel_rfl⟩) rfl (fun _ _ => .cons (.raw _) (.cons (.int _ _) .nil))) ?h
  case hb => rfl
  intro L
  refine Exs.cons (Ex.assign (d := .bytes l) (Ev.fn 92 (by kernel_rfl) (by rfl) (by decide) (by kernel_rfl) (Evs.cons rfl (by walk_at "me") Evs.nil) (Spec.le (sp_buffer l) (by decide))) (.inl rfl) (.inl rfl) rfl) ?_
  refine Exs.ite (c := false) (Tr.bools (Trs.or (b := false) (c := false) (Tr.mono (Tr.cmp (Ev.bfn (n := 5) (r := .raw (.type "int")) (by (((with_reducible refine' Ev.blt ?z171.mbn1 ?z171.mbn2 ?z171.mbn3 ?z171.mbn4 ?z171.mbn5); (case z171.mbn1 => kernel_rfl); (case z171.mbn2 => boot_fact); (case z171.mbn3 => decide); (case z171.mbn4 => rfl); (case z171.mbn5 => decide)))) (by nofun) (Evs.cons rfl (by walk_at "me") Evs.nil) sp_typeInt) (by (((with_reducible refine' Ev.blt ?z172.mbn1 ?z172.mbn2 ?z172.mbn3 ?z172.mbn4 ?z172.mbn5); (case z172.mbn1 => kernel_rfl); (case z172.mbn2 => boot_fact); (case z172.mbn3 => decide); (case z172.mbn4 => rfl); (case z172.mbn5 => decide)))) (Cop.isNot (by rfl)) rfl) (by decide)) fun _ => Trs.or (b := false) (c := false) (by (((with_reducible refine' Tr.mono ?z173.mtb1 ?z173.mtb2); (case z173.mtb1 => (first | ((with_reducible refine' Tr.cmp ?z175.mt1 ?z175.mt2 ?z175.mt3 ?z175.mt4); (case z175.mt1 => walk_at "me"); (case z175.mt2 => walk_at "me"); (case z175.mt3 => walk_at "mc"); (case z175.mt4 => rfl)) | ((with_reducible refine' Tr.chain ?z175.mt1 ?z175.mt2 ?z175.mt3 ?z175.mt4 ?z175.mt5 ?z175.mt6); (case z175.mt1 => walk_at "me"); (case z175.mt2 => walk_at "me"); (case z175.mt3 => walk_at "me"); (case z175.mt4 => walk_at "mc"); (case z175.mt5 => walk_at "mc"); (case z175.mt6 => rfl)) | ((with_reducible refine' Tr.val ?z175.mt1 ?z175.mt2 ?z175.mt3); (case z175.mt1 => walk_at "me"); (case z175.mt2 => first | with_reducible exact Tru.bool | with_reducible exact Tru.int | with_reducible exact Tru.none); (case z175.mt3 => rfl)))); (case z173.mtb2 => first | rfl | decide)))) fun _ => Trs.or (b := false) (c := false) (by (((with_reducible refine' Tr.mono ?z174.mtb1 ?z174.mtb2); (case z174.mtb1 => (first | ((with_reducible refine' Tr.cmp ?z176.mt1 ?z176.mt2 ?z176.mt3 ?z176.mt4); (case z176.mt1 => walk_at "me"); (case z176.mt2 => walk_at "me"); (case z176.mt3 => walk_at "mc"); (case z176.mt4 => rfl)) | ((with_reducible refine' Tr.chain ?z176.mt1 ?z176.mt2 ?z176.mt3 ?z176.mt4 ?z176.mt5 ?z176.mt6); (case z176.mt1 => walk_at "me"); (case z176.mt2 => walk_at "me"); (case z176.mt3 => walk_at "me"); (case z176.mt4 => walk_at "mc"); (case z176.mt5 => walk_at "mc"); (case z176.mt6 => rfl)) | ((with_reducible refine' Tr.val ?z176.mt1 ?z176.mt2 ?z176.mt3); (case z176.mt1 => walk_at "me"); (case z176.mt2 => first | with_reducible exact Tru.bool | with_reducible exact Tru.int | with_reducible exact Tru.none); (case z176.mt3 => rfl)))); (case z174.mtb2 => first | rfl | decide)))) fun _ => Trs.or_nil)) (fun h => absurd h (by decide)) (fun _ => ?_)
  dsimp only [List.cons_append, List.nil_append]
  refine Exs.ite (c := true) (by (((with_reducible refine' Tr.mono ?z177.mtb1 ?z177.mtb2); (case z177.mtb1 => (first | ((with_reducible refine' Tr.cmp ?z178.mt1 ?z178.mt2 ?z178.mt3 ?z178.mt4); (case z178.mt1 => walk_at "me"); (case z178.mt2 => walk_at "me"); (case z178.mt3 => walk_at "mc"); (case z178.mt4 => rfl)) | ((with_reducible refine' Tr.chain ?z178.mt1 ?z178.mt2 ?z178.mt3 ?z178.mt4 ?z178.mt5 ?z178.mt6); (case z178.mt1 => walk_at "me"); (case z178.mt2 => walk_at "me"); (case z178.mt3 => walk_at "me"); (case z178.mt4 => walk_at "mc"); (case z178.mt5 => walk_at "mc"); (case z178.mt6 => rfl)) | ((with_reducible refine' Tr.val ?z178.mt1 ?z178.mt2 ?z178.mt3); (case z178.mt1 => walk_at "me"); (case z178.mt2 => first | with_reducible exact Tru.bool | with_reducible exact Tru.int | with_reducible exact Tru.none); (case z178.mt3 => rfl)))); (case z177.mtb2 => first | rfl | decide)))) (fun _ => ?_) (fun h => absurd h (by decide))
  dsimp only [List.cons_append, List.nil_append]
  refine Exs.stop (Ex.ret (Ev.meth (n := 5) (Ev.meth (n := 5) (by walk_at "me") Evs.nil typ_bytes rfl (by decide) rfl PySem.W.FB.plainAttrs_bytes PySem.W.FB.slot_bytes_hex PySem.W.FB.type_bytes_hex (sp_hex l hz)) (Evs.cons rfl (by walk_at "me") Evs.nil) typ_str rfl (by decide) rfl PySem.F.plainAttrs_str PySem.F.slot_str_encode PySem.F.type_str_encode (sp_encode _ (hexCps_lt l) (by rw [hexCps_len]; omega)))) rfl
noncomputable def hexT (l : List UInt8) : List UInt8 := (hexLow l).map Builtin.Bytes.toUpper
theorem sp_b16encode (l : List UInt8) (hz : l.length ≤ 400) : Spec prog w (KK w) 9 (.ref 168) [.bytes l] [] (.bytes (hexT l)) := by
  refine Spec.fn (n := 8) 168 (bd := [("s", .bytes l)]) (by kernel_rfl) (body := ?b) ?hb (by kernel_rfl) (by kernel_rfl) (by kernel_rfl) (by kernel_rfl) (by kernel_rfl) (by kernel_rfl) (by kernel_rfl) (by kernel_rfl) (.one fun v => by kernel_rfl) ?h
  case hb => rfl
  intro L
  refine Exs.stop (Ex.ret (Ev.meth (n := 7) (Ev.fn 131 (by kernel_rfl) (by rfl) (by decide) (by kernel_rfl) (Evs.cons rfl (by walk_at "me") Evs.nil) (sp_b2ahex l hz)) Evs.nil typ_bytes rfl (by decide) rfl PySem.W.FB.plainAttrs_bytes slot_bytes_upper type_bytes_upper (sp_upper _ (by rw [hexLow, List.length_map, hexCps_len]; omega)))) rfl
end
-- F8
section
set_option maxRecDepth 100000
set_option maxHeartbeats 4000000
variable {prog : Program} {w : World}
noncomputable def reCode : Array Nat := #[14, 12, 4, 1, 1, 21, 22, 48, 57, 22, 65, 70, 0, 13, 9, 21, 22, 48, 57, 22, 65, 70, 0, 1]
noncomputable def isHexU (c : Nat) : Prop := (48 ≤ c ∧ c ≤ 57) ∨ (65 ≤ c ∧ c ≤ 70)
theorem inSet_eq (c : Nat) (seen : Sre.Seen) : Sre.inSet reCode c 24 5 true seen = (if (decide (48 ≤ c) && decide (c ≤ 57)) = true then .ok (false, (seen.add 21).add 22) else if (decide (65 ≤ c) && decide (c ≤ 70)) = true then .ok (false, ((seen.add 21).add 22).add 22) else .ok (true, (((seen.add 21).add 22).add 22).add 0)) := rfl
theorem inSet_hex (c : Nat) (h : isHexU c) (seen : Sre.Seen) : ∃ seen', Sre.inSet reCode c 24 5 true seen = .ok (false, seen') := by
  rw [inSet_eq]
  split
  · exact ⟨_, rfl⟩
  · rename_i h1
    rw [if_pos]
    · exact ⟨_, rfl⟩
    · simp only [Bool.and_eq_true, decide_eq_true_eq] at h1 ⊢
      rcases h with h | h
      · exact absurd h h1
      · exact h
theorem admitted_hex (m : Sre.M) (hc : m.code = reCode) (h : ∀ p, p < m.lim → isHexU (m.text.getD p 0)) : ∀ (fuel s : Nat) (seen : Sre.Seen), ∃ seen', m.admitted fuel s seen = .ok (none, seen')
  | 0, _, seen => ⟨seen, rfl⟩
  | fuel + 1, s, seen => by
    unfold Sre.M.admitted
    split
    · exact ⟨_, rfl⟩
    · rename_i hs
      obtain ⟨seen', e⟩ := inSet_hex (m.text.getD s 0) (h s (by omega)) seen
      rw [hc, show reCode.size = 24 from rfl, e]
      exact admitted_hex m hc h fuel (s + 1) seen'
structure NoGo (m : Sre.M) : Prop where
  ans : m.answer = some false
  frs : m.frames = []
  out : m.outcome = none
theorem from_no (m : Sre.M) (hc : m.code = reCode) (hf : m.frames = []) (ho : m.outcome = none) (h : ∀ p, p < m.lim → isHexU (m.text.getD p 0)) (k : Nat) : NoGo (m.attemptFrom k true) := by
  unfold Sre.M.attemptFrom
  rw [if_neg (by unfold Sre.M.hasFirstSet; rw [hc]; exact Bool.false_ne_true)]
  obtain ⟨seen', e⟩ := admitted_hex m hc h (m.lim + 1 - k) k m.seen
  rw [e]
  exact ⟨rfl, hf, ho⟩
theorem search_no (text : Array Nat) (h : ∀ p, p < text.size → isHexU (text.getD p 0)) : NoGo (Sre.forSearch reCode text 0 0 text.size false) := by
  unfold Sre.forSearch
  dsimp only
  split
  · exact ⟨rfl, rfl, rfl⟩
  · exact from_no _ rfl rfl rfl h 0
theorem wp_fields {M : Model} {A : Around} {E : Value → Shared → Prop} {s : Shared} {a : Addr} {o : Obj} {vs : Array Value} {Q : Array Value → Shared → Prop} (ho : s.heap.get? a = some o) (hd : o.data = .fields vs) (h : Q vs s) : wpAny M A (fieldsOf (.ref a)) Q E s := by
  unfold fieldsOf
  exact wpAny_bind (wpAny_load ho (by rw [hd]; exact wpAny_pure h))
theorem run4 {m : Sre.M} (h : NoGo m) : m.runFor 4 = { m with outcome := some .failed } := by
  obtain ⟨h1, h2, h3⟩ := h
  cases m
  dsimp only at h1 h2 h3
  subst h1 h2 h3
  rfl
theorem forIn_rules {M : Model} {A : Around} {E : Value → Shared → Prop} {F : Nat → PUnit → Sem (ForInStep PUnit)} (hF : ∀ i (Q : ForInStep PUnit → Shared → Prop) s, Q (.yield ⟨⟩) s → wpAny M A (F i ⟨⟩) Q E s) : ∀ (l : List Nat) {Q : PUnit → Shared → Prop} {s : Shared}, Q ⟨⟩ s → wpAny M A (forIn l PUnit.unit F) Q E s
  | [], _, _, h => wpAny_pure h
  | a :: r, _, _, h => by
    rw [List.forIn_cons]
    exact wpAny_bind (hF a _ _ (forIn_rules hF r h))
theorem runToEnd {M : Model} {A : Around} {E : Value → Shared → Prop} {s : Shared} {m : Sre.M} (h : NoGo m) {Q : Option Sre.M → Shared → Prop} (hq : Q none s) : wpAny M A (Builtin.Re.reRunToEnd m) Q E s := by
  have hd : Builtin.Re.reDrive (2 ^ 64) m = pure { m with outcome := some .failed } := by
    show (if ((m.runFor 4).outcome.isSome) = true then pure (m.runFor 4) else _) = _
    rw [run4 h]; rfl
  unfold Builtin.Re.reRunToEnd
  rw [hd, pure_bind]
  refine wpAny_bind (forIn_rules ?_ _ ?_)
  · intro i Q s hq
    refine wpAny_ite ?_
    split
    · exact wpAny_bind (wpAny_rule (wpAny_pure hq))
    · exact wpAny_pure hq
  · exact wpAny_pure hq
theorem named (v : Value) : Builtin.Re.reNamed "re.Pattern.search" "search" ["string", "pos", "endpos"] 1 [v] [] = pure [some v, none, none] := by kernel_rfl
theorem textOf (l : List UInt8) (t : Tok) : Builtin.Re.reTextOf (.bytes l.toArray t) = pure (l.toArray.map (·.toNat), 1) := by
  unfold Builtin.Re.reTextOf
  rw [KBy.quiet_eq]
  rfl
theorem noColl (l : List UInt8) (t : Tok) : Builtin.Re.reNoCollectionInside (.bytes l.toArray t) 1 = pure () := by
  unfold Builtin.Re.reNoCollectionInside
  rw [KBy.isInstance_eq]
  rfl
theorem search_at (l : List UInt8) (t : Tok) (h : ∀ c ∈ l, isHexU c.toNat) (hz : l.length ≤ 1000) : GivesAt (fun s => (KK w).In s.heap) (Builtin.«re.Pattern.search» ⟨[.ref 57, .bytes l.toArray t], []⟩) (.val .none) := by
  intro prog w' A R s hP hq
  have ⟨o57, e57, hd57⟩ : ∃ o, (KK w).lookup 57 = some o ∧ ∃ a b c d e, o.data = .fields #[a, b, .int 0 c, d, e, .ref 56, .int 1 0] := ⟨_, rfl, _, _, _, _, _, rfl⟩
  obtain ⟨a, b, c, d, e, hd57⟩ := hd57
  have ⟨its, e56, hcode⟩ : ∃ its, seqAt (KK w) 56 = some its ∧ (its.map Builtin.Re.reRawOf).map (·.toNat) = reCode := ⟨_, by rfl, by kernel_rfl⟩
  obtain ⟨o56, m56, e56, hd56⟩ := seqAt_of e56
  unfold Builtin.«re.Pattern.search»
  refine wpAny_bind ?_
  unfold Builtin.Re.reTarget
  dsimp only
  rw [named, pure_bind]
  dsimp only
  rw [pure_bind, pure_bind]
  refine wpAny_bind (wp_fields (hP 57 _ e57) hd57 ?_)
  rw [textOf, pure_bind]
  dsimp only
  rw [show (Builtin.Re.reRawNat (#[a, b, .int 0 c, d, e, .ref 56, .int 1 0].getD 6 .none)) = 1 from rfl]
  rw [if_neg (by decide), if_neg (by decide), noColl, pure_bind]
  unfold Builtin.Re.reRawItems
  refine wpAny_bind (wpAny_bind (wpAny_seqItems (hP 56 _ e56) hd56 ?_))
  refine wpAny_pure (wpAny_pure ?_)
  unfold Builtin.Re.reAnswer
  dsimp only
  rw [show (some its).getD #[] = its from rfl, hcode]
  refine wpAny_bind (runToEnd ?_ (wpAny_pure hq))
  rw [show Builtin.Re.reRawNat (#[a, b, .int 0 c, d, e, .ref 56, .int 1 0].getD 2 .none) = 0 from rfl]
  rw [show min (0 : Int).toNat (l.toArray.map (·.toNat)).size = 0 from Nat.zero_min _]
  rw [show min (2 ^ 63 - 1 : Int).toNat (l.toArray.map (·.toNat)).size = (l.toArray.map (·.toNat)).size from ?_]
  · refine search_no _ ?_
    intro p hp
    rw [Array.size_map, List.size_toArray] at hp
    have : (l.toArray.map (·.toNat)).getD p 0 = l[p].toNat := by
      rw [Array.getD, dif_pos (by rw [Array.size_map, List.size_toArray]; exact hp)]
      simp
    rw [this]
    exact h _ (List.getElem_mem hp)
  · rw [Array.size_map, List.size_toArray]
    show min 9223372036854775807 l.length = l.length
    omega
theorem plain_re : PlainAttrs "re.Pattern" :=
  ⟨⟨"object.__getattribute__", by rw [typeLookup_type, builtinLookup_eq_fast]; kernel_rfl, by decide +kernel⟩, by rw [typeLookup_type, builtinLookup_eq_fast]; kernel_rfl⟩
theorem slot_search : Slot "re.Pattern" "search" "re.Pattern.search" :=
  .of (owner := "re.Pattern") (n := "search") (by rw [typeLookup_type, builtinLookup_eq_fast]; kernel_rfl) (by decide +kernel) (by decide +kernel) (by decide +kernel)
    (by first | exact .inl (by decide +kernel) | exact .inr (by decide +kernel)) (by rw [isSubtype_type]; kernel_rfl)
theorem type_search : typeOf (.builtin "re.Pattern.search") = pure (.type "method_descriptor") := by show builtinType _ = _; rw [builtinType_eq_fast]; kernel_rfl
theorem entry_search : entryFor table "re.Pattern.search" = some Builtin.«re.Pattern.search» := entryFor_of_tree (by kernel_rfl)
theorem args_search (a b : Value) : argsOk "re.Pattern.search" ⟨[a, b], []⟩ := by unfold argsOk; kernel_rfl
theorem pat_at {h : Heap} (B : Bs (KK w) h) : ∃ o, h.get? 57 = some o ∧ o.cls = .type "re.Pattern" ∧ o.dict = none := ⟨_, B.kin 57 _ rfl, rfl, rfl⟩
theorem sp_search {n : Nat} (l : List UInt8) (h : ∀ c ∈ l, isHexU c.toNat) (hz : l.length ≤ 1000) : Spec prog w (KK w) n (.builtin "re.Pattern.search") [.raw (.ref 57), .bytes l] [] .none :=
  .two fun s A O v u E B _ _ r r2 => by
    replace r := r.inv; cases r; replace r2 := r2.inv; cases r2
    obtain ⟨o, ho, hc, _⟩ := pat_at B
    exact call_givesAt slot_search ⟨o, ho, hc⟩ entry_search (args_search _ _) (search_at l _ h hz) B.kin ⟨krefl s, .none⟩
theorem Ev.methB {n : Nat} {env : Env} {σ : Sto} {o : Expr} {name : Str} {apos pos : Pos} {args : List Expr} {T id : String} {d r : D} {ds : List D} (ho : Ev prog w (KK w) true (n + 1) env σ o d) (ha : Evs prog w (KK w) true (n + 1) env σ args ds)
    (hT : ∀ (P : Addr → Prop) (s : Shared) (v : Value), Bs (KK w) s.heap → Rep P s.heap v d → s.TypeIs v T ∧ ∀ a, v = .ref a → ∃ ob, s.heap.get? a = some ob ∧ ob.dict = Option.none)
    (hbase : attributeBase o name env (eval o env) = eval o env) (hfew : args.length < 20) (hline : (apos.endLine == pos.line) = true) (pa : PlainAttrs T) (slot : Slot T name id) (hty : typeOf (.builtin id) = pure (.type "method_descriptor"))
    (hs : Spec prog w (KK w) n (.builtin id) (d :: ds) [] r) : Ev prog w (KK w) true (n + 1) env σ (.Call (.Attribute o name apos) args [] pos) r := by
  intro sE kp O ad s A E F R
  have hst := (ha sE kp O ad s A E pos F R).1
  refine wpAny_Call_method hbase ?_ hline pa slot hty (wpAny_mono (ho sE kp O ad s A E F R) (fun v s₁ ⟨k, r1⟩ => ?_) fun _ _ x => x)
  · have h1 : (backTo pos (starEach args env)).all (fun x => !x.1) = true := by
      rw [List.all_eq_true]; intro x hx; rw [hst x hx]; rfl
    rw [h1]
    show (true && true && decide (args.length + 0 + 0 < 30)) = true
    simp; omega
  have F1 := F.keeps k
  obtain ⟨t1, t2⟩ := hT _ _ _ F1.base r1
  refine ⟨t1, t2, ?_⟩
  have h1 := ha sE kp O ad s₁ A E pos F1 R
  refine callWith_g h1.1 rfl (wpAny_mono h1.2 (fun vs s₂ ⟨k2, r2⟩ => ?_) fun _ _ x => x)
  refine wpAny_evalAll_nil ⟨.inl fun a => nofun, ?_⟩
  have F2 := F1.keeps k2
  exact wpAny_mono (hs s₂ A O (v :: vs) [] E F2.base (R.le (Nat.le_succ n)) F2.domS (.cons (r1.keeps (kheap k2)) r2) .nil) (fun v s₄ ⟨k4, r4⟩ => ⟨ktrans k (ktrans k2 k4), r4⟩) fun _ _ x => x
end
-- F9
section
set_option maxRecDepth 100000
set_option maxHeartbeats 4000000
variable {prog : Program} {w : World}
noncomputable def HU (d : Nat) : UInt8 := Builtin.Bytes.toUpper (Nat.toUInt8 (hx d))
theorem hexT_cons (a : UInt8) (r : List UInt8) : hexT (a :: r) = HU (a.toNat / 16) :: HU (a.toNat % 16) :: hexT r := rfl
theorem HU_v : ∀ d, d < 16 → hexv ((HU d).toNat : Int) = d := by decide
theorem HU_hex : ∀ d, d < 16 → (48 ≤ (HU d).toNat ∧ (HU d).toNat ≤ 57) ∨ (65 ≤ (HU d).toNat ∧ (HU d).toNat ≤ 70) := by decide
theorem hexT_len (l : List UInt8) : (hexT l).length = 2 * l.length := by unfold hexT hexLow; rw [List.length_map, List.length_map, hexCps_len]
theorem hexT_hex (l : List UInt8) : ∀ c ∈ hexT l, isHexU c.toNat := by
  induction l with
  | nil => nofun
  | cons a r ih =>
    rw [hexT_cons]
    have := a.toNat_lt
    intro c hc
    rcases List.mem_cons.mp hc with rfl | hc
    · exact HU_hex _ (by omega)
    · rcases List.mem_cons.mp hc with rfl | hc
      · exact HU_hex _ (by omega)
      · exact ih c hc
theorem hexT_get (l : List UInt8) : ∀ (i : Nat) (c : UInt8), l[i]? = some c → (hexT l)[2 * i]? = some (HU (c.toNat / 16)) ∧ (hexT l)[2 * i + 1]? = some (HU (c.toNat % 16)) := by
  induction l with
  | nil => intro i c h; cases h
  | cons a r ih =>
    intro i c h
    rw [hexT_cons]
    cases i with
    | zero => cases h; exact ⟨rfl, rfl⟩
    | succ i =>
      have := ih i c h
      rw [show 2 * (i + 1) = 2 * i + 1 + 1 by omega, List.getElem?_cons_succ, List.getElem?_cons_succ, List.getElem?_cons_succ, List.getElem?_cons_succ]
      exact this
noncomputable def hS (l : List UInt8) (k : Nat) : Sto := [("hexstr", .v (.bytes (hexT l))), ("argbuf", .v (.bytes (hexT l))), ("arglen", .v (.int ((2 * l.length : Nat) : Int))), ("out", .o ((l.take k).map fun c => D.int (c.toNat : Int))), ("i", .v (.int ((2 * k : Nat) : Int)))]
theorem toBytes_nat (l : List UInt8) : toBytes (l.map fun c => (c.toNat : Int)) = l := by
  unfold toBytes
  rw [List.map_map]
  conv => rhs; rw [← List.map_id l]
  apply List.map_congr_left
  intro c _
  simp
theorem sp_a2bhex (l : List UInt8) (hz : l.length ≤ 400) : Spec prog w (KK w) 7 (.ref 145) [.bytes (hexT l)] [] (.bytes l) := by
  refine Spec.fn (n := 6) 145 (bd := [("hexstr", .bytes (hexT l))]) (by kernel_rfl) (body := ?b) ?hb (by kernel_rfl) (by kernel_rfl) (by kernel_rfl) (by kernel_rfl) (by kernel_rfl) (by kernel_rfl) (by kernel_rfl) (by kernel_rfl) (.one fun v => by kernel_rfl) ?h
  case hb => rfl
  intro L
  have hl := hexT_len l
  refine Exs.cons (Ex.assign (d := .bytes (hexT l)) (Ev.fn 85 (by kernel_rfl) (by rfl) (by decide) (by kernel_rfl) (Evs.cons rfl (by walk_at "me") Evs.nil) (Spec.le (sp_ascii _) (by decide))) (.inl rfl) (.inl rfl) rfl) ?_
  refine Exs.cons (Ex.assign (d := .int ((2 * l.length : Nat) : Int)) (Ev.bfn (n := 5) (by (((with_reducible refine' Ev.blt ?z179.mbn1 ?z179.mbn2 ?z179.mbn3 ?z179.mbn4 ?z179.mbn5); (case z179.mbn1 => kernel_rfl); (case z179.mbn2 => boot_fact); (case z179.mbn3 => decide); (case z179.mbn4 => rfl); (case z179.mbn5 => decide)))) (by nofun) (Evs.cons rfl (by walk_at "me") Evs.nil) (Spec.mono (sp_lenBytes (by omega)) (by rw [hl]))) (.inl rfl) (.inl rfl) rfl) ?_
  refine Exs.ite (c := false) (Tr.mono (Tr.val (Ev.bin (by walk_at "me") (by walk_at "me") (Bop.fmod (by decide))) Tru.int rfl) ?_) (fun h => absurd h (by decide)) (fun _ => ?_)
  · have : ((2 * l.length : Nat) : Int).fmod 2 = 0 := by rw [Int.fmod_eq_emod_of_nonneg _ (by decide)]; omega
    rw [this]; rfl
  dsimp only [List.cons_append, List.nil_append]
  refine Exs.cons (Ex.newlist (.inl rfl)) ?_
  (((with_reducible refine' Exs.cons (Ex.assign ?z180.mas1 ?z180.mas2 ?z180.mas3 ?z180.mas4) ?z180.mas5); (case z180.mas2 => exact .inl rfl); (case z180.mas4 => rfl))); (case mas1 => walk_at "me"); (case mas3 => (first | exact .inl rfl | exact .inr rfl))
  refine Exs.cons (Ex.while (N := l.length) (fun k => hS l k) (subSto.refl _) ?ht ?hbd) ?_
  case ht =>
    intro k hk
    refine Tr.mono (by (first | ((with_reducible refine' Tr.cmp ?z182.mt1 ?z182.mt2 ?z182.mt3 ?z182.mt4); (case z182.mt1 => walk_at "me"); (case z182.mt2 => walk_at "me"); (case z182.mt3 => walk_at "mc"); (case z182.mt4 => rfl)) | ((with_reducible refine' Tr.chain ?z182.mt1 ?z182.mt2 ?z182.mt3 ?z182.mt4 ?z182.mt5 ?z182.mt6); (case z182.mt1 => walk_at "me"); (case z182.mt2 => walk_at "me"); (case z182.mt3 => walk_at "me"); (case z182.mt4 => walk_at "mc"); (case z182.mt5 => walk_at "mc"); (case z182.mt6 => rfl)) | ((with_reducible refine' Tr.val ?z182.mt1 ?z182.mt2 ?z182.mt3); (case z182.mt1 => walk_at "me"); (case z182.mt2 => first | with_reducible exact Tru.bool | with_reducible exact Tru.int | with_reducible exact Tru.none); (case z182.mt3 => rfl)))) ?_
    rw [decide_eq_decide]; omega
  case hbd =>
    intro k hk
    have hget := hexT_get l k l[k] (List.getElem?_eq_getElem hk)
    have hlt := l[k].toNat_lt
    have e1 : ∀ j : Nat, ∀ x : UInt8, (hexT l)[j]? = some x → ((hexT l).getD j 0) = x := fun j x h => by rw [List.getD_eq_getElem?_getD, h]; rfl
    refine Exs.sub ?_ (subSto.app (τ := ([("top", PV.v (D.int ((l[k].toNat / 16 : Nat) : Int))), ("bot", PV.v (D.int ((l[k].toNat % 16 : Nat) : Int)))] : Sto)))
    refine Exs.cons (Ex.assign (d := D.int ((l[k].toNat / 16 : Nat) : Int)) (Ev.fn 138 (by kernel_rfl) (by rfl) (by decide) (by kernel_rfl) (Evs.cons rfl (Ev.sub (by walk_at "me") (by walk_at "me") (Sop.bytesItem (Int.natCast_nonneg _) (by omega) (by omega) (fun _ _ => rfl))) Evs.nil) (Spec.le (Spec.mono (sp_hexv _) (by rw [Int.toNat_natCast, e1 _ _ hget.1, HU_v _ (by omega)])) (by decide))) (.inl rfl) (.inl rfl) rfl) ?_
    refine Exs.cons (Ex.assign (d := D.int ((l[k].toNat % 16 : Nat) : Int)) (Ev.fn 138 (by kernel_rfl) (by rfl) (by decide) (by kernel_rfl) (Evs.cons rfl (Ev.sub (by walk_at "me") (Ev.mono (d' := .int ((2 * k + 1 : Nat) : Int)) (Ev.bin (by walk_at "me") (by walk_at "me") Bop.add) rfl) (Sop.bytesItem (Int.natCast_nonneg _) (by omega) (by omega) (fun _ _ => rfl))) Evs.nil) (Spec.le (Spec.mono (sp_hexv _) (by rw [Int.toNat_natCast, e1 _ _ hget.2, HU_v _ (by omega)])) (by decide))) (.inl rfl) (.inl rfl) rfl) ?_
    refine Exs.ite (c := false) (Tr.bools (Trs.or (b := false) (c := false) (Tr.mono (by (first | ((with_reducible refine' Tr.cmp ?z183.mt1 ?z183.mt2 ?z183.mt3 ?z183.mt4); (case z183.mt1 => walk_at "me"); (case z183.mt2 => walk_at "me"); (case z183.mt3 => walk_at "mc"); (case z183.mt4 => rfl)) | ((with_reducible refine' Tr.chain ?z183.mt1 ?z183.mt2 ?z183.mt3 ?z183.mt4 ?z183.mt5 ?z183.mt6); (case z183.mt1 => walk_at "me"); (case z183.mt2 => walk_at "me"); (case z183.mt3 => walk_at "me"); (case z183.mt4 => walk_at "mc"); (case z183.mt5 => walk_at "mc"); (case z183.mt6 => rfl)) | ((with_reducible refine' Tr.val ?z183.mt1 ?z183.mt2 ?z183.mt3); (case z183.mt1 => walk_at "me"); (case z183.mt2 => first | with_reducible exact Tru.bool | with_reducible exact Tru.int | with_reducible exact Tru.none); (case z183.mt3 => rfl)))) (by rw [decide_eq_false_iff_not]; omega)) fun _ => Trs.or (b := false) (c := false) (Tr.mono (by (first | ((with_reducible refine' Tr.cmp ?z184.mt1 ?z184.mt2 ?z184.mt3 ?z184.mt4); (case z184.mt1 => walk_at "me"); (case z184.mt2 => walk_at "me"); (case z184.mt3 => walk_at "mc"); (case z184.mt4 => rfl)) | ((with_reducible refine' Tr.chain ?z184.mt1 ?z184.mt2 ?z184.mt3 ?z184.mt4 ?z184.mt5 ?z184.mt6); (case z184.mt1 => walk_at "me"); (case z184.mt2 => walk_at "me"); (case z184.mt3 => walk_at "me"); (case z184.mt4 => walk_at "mc"); (case z184.mt5 => walk_at "mc"); (case z184.mt6 => rfl)) | ((with_reducible refine' Tr.val ?z184.mt1 ?z184.mt2 ?z184.mt3); (case z184.mt1 => walk_at "me"); (case z184.mt2 => first | with_reducible exact Tru.bool | with_reducible exact Tru.int | with_reducible exact Tru.none); (case z184.mt3 => rfl)))) (by rw [decide_eq_false_iff_not]; omega)) fun _ => Trs.or_nil)) (fun h => absurd h (by decide)) (fun _ => ?_)
    dsimp only [List.cons_append, List.nil_append]
    refine Exs.cons (Ex.append rfl (Ev.mono (d' := D.int (l[k].toNat : Int)) (Ev.bin (Ev.bin (by walk_at "me") (by walk_at "me") (Bop.shl (by decide) (by decide) (by omega))) (by walk_at "me") Bop.add) ?_) rfl (by rw [List.length_map, List.length_take]; omega) (by decide) rfl rfl) ?_
    · show D.int (((l[k].toNat / 16 : Nat) : Int) * 2 ^ 4 + ((l[k].toNat % 16 : Nat) : Int)) = _
      congr 1; omega
    (((with_reducible refine' Exs.cons (Ex.assign ?z185.mas1 ?z185.mas2 ?z185.mas3 ?z185.mas4) ?z185.mas5); (case z185.mas2 => exact .inl rfl); (case z185.mas4 => rfl))); (case mas1 => walk_at "me"); (case mas3 => (first | exact .inl rfl | exact .inr rfl))
    rw [show hS l (k + 1) = ([("hexstr", .v (.bytes (hexT l))), ("argbuf", .v (.bytes (hexT l))), ("arglen", .v (.int ((2 * l.length : Nat) : Int))), ("out", .o (((l.take k).map fun c => D.int (c.toNat : Int)) ++ [D.int (l[k].toNat : Int)])), ("i", .v (.int ((2 * k : Nat) + 2 : Int)))] : Sto) by
      unfold hS; rw [List.take_add_one, List.getElem?_eq_getElem hk, List.map_append]; rfl]
    exact Exs.nil
  refine Exs.stop (Ex.ret (Ev.bfn (n := 5) (by (((with_reducible refine' Ev.blt ?z187.mbn1 ?z187.mbn2 ?z187.mbn3 ?z187.mbn4 ?z187.mbn5); (case z187.mbn1 => kernel_rfl); (case z187.mbn2 => boot_fact); (case z187.mbn3 => decide); (case z187.mbn4 => rfl); (case z187.mbn5 => decide)))) (by nofun) (Evs.cons rfl (Ev.mono (by walk_at "me") ?_) Evs.nil) (Spec.mono (sp_bytes (ns := l.map fun c => (c.toNat : Int)) ?_ (by rw [List.length_map]; omega)) (by rw [toBytes_nat])))) rfl
  · rw [List.take_length, List.map_map]; rfl
  · intro k hk
    obtain ⟨c, _, rfl⟩ := List.mem_map.mp hk
    have := c.toNat_lt
    omega
theorem sp_b16decode (l : List UInt8) (hz : l.length ≤ 400) : Spec prog w (KK w) 9 (.ref 176) [.bytes (hexT l)] [] (.bytes l) := by
  refine Spec.fn (n := 8) 176 (bd := [("s", .bytes (hexT l)), ("casefold", .bool false)]) (by kernel_rfl) (body := ?b) ?hb (by kernel_rfl) (by kernel_rfl) (by kernel_rfl) (by kernel_rfl) (by kernel_rfl) (by kernel_rfl) (by kernel_rfl) (by kernel_rfl) (.dflt (T := 169) (items := #[.bool false]) (rest := [("casefold", .bool false)]) (rd := [("casefold", .bool false)]) (by kernel_rfl) (by kernel_rfl) (fun v => ⟨_, rfl, by kernel_rfl⟩) rfl (fun _ _ => .cons (.bool _) .nil)) ?h
  case hb => rfl
  intro L
  refine Exs.cons (Ex.assign (d := .bytes (hexT l)) (Ev.fn 65 (by kernel_rfl) (by rfl) (by decide) (by kernel_rfl) (Evs.cons rfl (by walk_at "me") Evs.nil) (Spec.le (sp_decodeData _) (by decide))) (.inl rfl) (.inl rfl) rfl) ?_
  refine Exs.ite (c := false) (by (((with_reducible refine' Tr.mono ?z188.mtb1 ?z188.mtb2); (case z188.mtb1 => (first | ((with_reducible refine' Tr.cmp ?z189.mt1 ?z189.mt2 ?z189.mt3 ?z189.mt4); (case z189.mt1 => walk_at "me"); (case z189.mt2 => walk_at "me"); (case z189.mt3 => walk_at "mc"); (case z189.mt4 => rfl)) | ((with_reducible refine' Tr.chain ?z189.mt1 ?z189.mt2 ?z189.mt3 ?z189.mt4 ?z189.mt5 ?z189.mt6); (case z189.mt1 => walk_at "me"); (case z189.mt2 => walk_at "me"); (case z189.mt3 => walk_at "me"); (case z189.mt4 => walk_at "mc"); (case z189.mt5 => walk_at "mc"); (case z189.mt6 => rfl)) | ((with_reducible refine' Tr.val ?z189.mt1 ?z189.mt2 ?z189.mt3); (case z189.mt1 => walk_at "me"); (case z189.mt2 => first | with_reducible exact Tru.bool | with_reducible exact Tru.int | with_reducible exact Tru.none); (case z189.mt3 => rfl)))); (case z188.mtb2 => first | rfl | decide)))) (fun h => absurd h (by decide)) (fun _ => ?_)
  dsimp only [List.cons_append, List.nil_append]
  refine Exs.ite (c := false) (Tr.val (Ev.methB (n := 7) (d := .raw (.ref 57)) (Ev.glob (v := .ref 57) (by kernel_rfl) rfl (fun _ _ => .raw _) (by decide)) (Evs.cons rfl (by walk_at "me") Evs.nil) ?_ rfl (by decide) rfl plain_re slot_search type_search (sp_search _ (hexT_hex l) (by rw [hexT_len]; omega))) Tru.none rfl) (fun h => absurd h (by decide)) (fun _ => ?_)
  · intro P s v B r
    replace r := r.inv; cases r
    obtain ⟨o, ho, hc, hd⟩ := pat_at B
    exact ⟨⟨o, ho, hc⟩, fun a e => by cases e; exact ⟨o, ho, hd⟩⟩
  dsimp only [List.cons_append, List.nil_append]
  refine Exs.stop (Ex.ret (Ev.fn 145 (by kernel_rfl) (by rfl) (by decide) (by kernel_rfl) (Evs.cons rfl (by walk_at "me") Evs.nil) (sp_a2bhex l hz))) rfl
end
-- F10
section
set_option maxRecDepth 100000
set_option maxHeartbeats 4000000
variable {prog : Program} {w : World}
noncomputable def rowL : Nat → Nat → List Nat
  | 0, _ => []
  | f + 1, n => if n = 0 then [] else (n - 1) % 256 :: rowL f ((n - 1) / 256)
noncomputable def nit : Nat → Nat → Nat
  | 0, n => n
  | k + 1, n => nit k ((n - 1) / 256)
noncomputable def rowMax : Nat → Nat
  | 0 => 0
  | f + 1 => 256 * rowMax f + 256
theorem nit_succ (k : Nat) : ∀ n, nit (k + 1) n = (nit k n - 1) / 256 := by
  induction k with
  | zero => intro n; rfl
  | succ k ih => intro n; exact ih _
theorem row_facts : ∀ (f n : Nat), n ≤ rowMax f → (∀ k, k ≤ (rowL f n).length → (0 < nit k n ↔ k < (rowL f n).length)) ∧ ∀ k, k < (rowL f n).length → (rowL f n)[k]? = some ((nit k n - 1) % 256)
  | 0, n, h => by
    have : n = 0 := by unfold rowMax at h; omega
    subst this
    refine ⟨fun k hk => ?_, fun k hk => absurd hk (Nat.not_lt_zero _)⟩
    have : k = 0 := by simpa [rowL] using hk
    subst this
    exact ⟨fun h => absurd h (by decide), fun h => absurd h (by simp [rowL])⟩
  | f + 1, n, h => by
    unfold rowL
    split
    · rename_i h0
      subst h0
      refine ⟨fun k hk => ?_, fun k hk => absurd hk (Nat.not_lt_zero _)⟩
      have : k = 0 := by simpa using hk
      subst this
      exact ⟨fun h => absurd h (by decide), fun h => absurd h (by simp)⟩
    · rename_i h0
      have h1 : (n - 1) / 256 ≤ rowMax f := by unfold rowMax at h; omega
      obtain ⟨r1, r2⟩ := row_facts f _ h1
      refine ⟨fun k hk => ?_, fun k hk => ?_⟩
      · cases k with
        | zero => show 0 < n ↔ _; rw [List.length_cons]; omega
        | succ k =>
          rw [List.length_cons] at hk ⊢
          have := r1 k (by omega)
          show 0 < nit k ((n - 1) / 256) ↔ _
          omega
      · cases k with
        | zero => rfl
        | succ k =>
          rw [List.length_cons] at hk
          rw [List.getElem?_cons_succ]
          exact r2 k (by omega)
theorem rowL_len : ∀ (f n : Nat), (rowL f n).length ≤ f
  | 0, _ => Nat.le_refl _
  | f + 1, n => by
    unfold rowL
    split
    · exact Nat.zero_le _
    · rw [List.length_cons]; have := rowL_len f ((n - 1) / 256); omega
theorem rowL_lt : ∀ (f n : Nat), ∀ x ∈ rowL f n, x < 256
  | 0, _ => nofun
  | f + 1, n => by
    unfold rowL
    split
    · nofun
    · intro x hx
      rcases List.mem_cons.mp hx with rfl | hx
      · exact Nat.mod_lt _ (by decide)
      · exact rowL_lt f _ x hx
noncomputable def rowB (n : Nat) : List UInt8 := (rowL 4 n).map Nat.toUInt8
theorem toBytes_map (l : List Nat) : toBytes (l.map fun (x : Nat) => (x : Int)) = l.map Nat.toUInt8 := by
  unfold toBytes; rw [List.map_map]; apply List.map_congr_left; intro x _; simp
noncomputable def rS (n k : Nat) : Sto := [("number", .v (.int (nit k n : Nat))), ("row", .o (((rowL 4 n).take k).map fun (x : Nat) => D.int (x : Int)))]
theorem sp_row (n : Nat) (hn : n ≤ 1000000000) : Spec prog w (KK w) 7 (.ref 183) [.int (n : Int)] [] (.bytes (rowB n)) := by
  refine Spec.fn (n := 6) 183 (bd := [("number", .int (n : Int))]) (by kernel_rfl) (body := ?b) ?hb (by kernel_rfl) (by kernel_rfl) (by kernel_rfl) (by kernel_rfl) (by kernel_rfl) (by kernel_rfl) (by kernel_rfl) (by kernel_rfl) (.one fun v => by kernel_rfl) ?h
  case hb => rfl
  intro L
  obtain ⟨r1, r2⟩ := row_facts 4 n (Nat.le_trans hn (by decide))
  have rl := rowL_len 4 n
  refine Exs.cons (Ex.newlist (.inl rfl)) ?_
  refine Exs.cons (Ex.while (N := (rowL 4 n).length) (fun k => rS n k) (subSto.refl _) ?ht ?hbd) ?_
  case ht =>
    intro k hk
    refine Tr.mono (by (first | ((with_reducible refine' Tr.cmp ?z190.mt1 ?z190.mt2 ?z190.mt3 ?z190.mt4); (case z190.mt1 => walk_at "me"); (case z190.mt2 => walk_at "me"); (case z190.mt3 => walk_at "mc"); (case z190.mt4 => rfl)) | ((with_reducible refine' Tr.chain ?z190.mt1 ?z190.mt2 ?z190.mt3 ?z190.mt4 ?z190.mt5 ?z190.mt6); (case z190.mt1 => walk_at "me"); (case z190.mt2 => walk_at "me"); (case z190.mt3 => walk_at "me"); (case z190.mt4 => walk_at "mc"); (case z190.mt5 => walk_at "mc"); (case z190.mt6 => rfl)) | ((with_reducible refine' Tr.val ?z190.mt1 ?z190.mt2 ?z190.mt3); (case z190.mt1 => walk_at "me"); (case z190.mt2 => first | with_reducible exact Tru.bool | with_reducible exact Tru.int | with_reducible exact Tru.none); (case z190.mt3 => rfl)))) ?_
    have := r1 k hk
    rw [decide_eq_decide]; omega
  case hbd =>
    intro k hk
    have h0 := (r1 k (by omega)).mpr hk
    refine Exs.sub ?_ (subSto.app (τ := ([("octet", PV.v (D.int (((nit k n - 1) % 256 : Nat) : Int)))] : Sto)))
    refine Exs.cons (Ex.unpack (xs := [("number", _), ("octet", _)]) (ds := [.int (((nit k n - 1) / 256 : Nat) : Int), .int (((nit k n - 1) % 256 : Nat) : Int)]) (Ev.bfn (n := 5) (by (((with_reducible refine' Ev.blt ?z191.mbn1 ?z191.mbn2 ?z191.mbn3 ?z191.mbn4 ?z191.mbn5); (case z191.mbn1 => kernel_rfl); (case z191.mbn2 => boot_fact); (case z191.mbn3 => decide); (case z191.mbn4 => rfl); (case z191.mbn5 => decide)))) (by nofun) (Evs.cons rfl (Ev.mono (d' := .int ((nit k n - 1 : Nat) : Int)) (Ev.bin (by walk_at "me") (by walk_at "me") Bop.sub) ?_) (Evs.cons rfl (by walk_at "me") Evs.nil)) (Spec.mono (sp_divmod (by decide) (by decide)) ?_)) rfl ?_ rfl (.inl rfl) rfl rfl) ?_
    · congr 1; omega
    · rw [Int.fdiv_eq_ediv_of_nonneg _ (by decide), Int.fmod_eq_emod_of_nonneg _ (by decide)]; rfl
    · intro x hx
      rcases List.mem_cons.mp hx with rfl | hx
      · exact .inl rfl
      · rw [List.mem_singleton.mp hx]; exact .inl rfl
    refine Exs.cons (Ex.append rfl (by walk_at "me") rfl (by rw [List.length_map, List.length_take]; omega) (by decide) rfl rfl) ?_
    rw [show rS n (k + 1) = ([("number", .v (.int (((nit k n - 1) / 256 : Nat) : Int))), ("row", .o ((((rowL 4 n).take k).map fun (x : Nat) => D.int (x : Int)) ++ [D.int (((nit k n - 1) % 256 : Nat) : Int)]))] : Sto) by
      unfold rS; rw [List.take_add_one, r2 k hk, List.map_append, nit_succ]; rfl]
    exact Exs.nil
  refine Exs.stop (Ex.ret (Ev.bfn (n := 5) (by (((with_reducible refine' Ev.blt ?z192.mbn1 ?z192.mbn2 ?z192.mbn3 ?z192.mbn4 ?z192.mbn5); (case z192.mbn1 => kernel_rfl); (case z192.mbn2 => boot_fact); (case z192.mbn3 => decide); (case z192.mbn4 => rfl); (case z192.mbn5 => decide)))) (by nofun) (Evs.cons rfl (Ev.mono (by walk_at "me") ?_) Evs.nil) (Spec.mono (sp_bytes (ns := (rowL 4 n).map fun (x : Nat) => (x : Int)) ?_ (by rw [List.length_map]; omega)) (by rw [toBytes_map]; rfl)))) rfl
  · rw [List.take_length, List.map_map]; rfl
  · intro k hk
    obtain ⟨c, hc, rfl⟩ := List.mem_map.mp hk
    have := rowL_lt 4 n c hc
    omega
end
-- F11
section
set_option maxRecDepth 100000
set_option maxHeartbeats 4000000
variable {prog : Program} {w : World}
noncomputable abbrev Row := List UInt8
noncomputable def hereOf : Nat → Nat
  | 0 => 1
  | 1 => 0
  | 2 => 1
  | 3 => 2
  | 4 => 0
  | _ => 2
noncomputable def thereOf : Nat → Nat
  | 0 => 0
  | 1 => 1
  | 2 => 1
  | 3 => 0
  | 4 => 2
  | _ => 1
structure Sh where
  first : List Row
  second : List Row
  rows : List Row
noncomputable def shStep (q : Sh) (v : Nat) : Sh :=
  { first := q.first ++ List.replicate (hereOf (v % 6)) (rowB (v / 6)), second := q.second ++ List.replicate (thereOf (v % 6)) (rowB (v / 6)),
    rows := if q.rows.any (· == rowB (v / 6)) then q.rows else q.rows ++ [rowB (v / 6)] }
noncomputable def shelves (ns : List Nat) : Sh := ns.foldl shStep ⟨[], [], []⟩
noncomputable abbrev dRows (l : List Row) : List D := l.map D.bytes
noncomputable abbrev dNats (l : List Nat) : List D := l.map fun (x : Nat) => D.int (x : Int)
noncomputable def sS (ns : List Nat) (q : Sh) : Sto := [("numbers", .v (.list (dNats ns))), ("rows", .o (dRows q.rows)), ("second", .o (dRows q.second)), ("first", .o (dRows q.first))]
theorem sh_len (ns : List Nat) : ∀ q : Sh, (ns.foldl shStep q).first.length ≤ q.first.length + 2 * ns.length ∧ (ns.foldl shStep q).second.length ≤ q.second.length + 2 * ns.length ∧ (ns.foldl shStep q).rows.length ≤ q.rows.length + 2 * ns.length := by
  have h1 : ∀ n, hereOf n ≤ 2 := fun n => by unfold hereOf; split <;> decide
  have h2 : ∀ n, thereOf n ≤ 2 := fun n => by unfold thereOf; split <;> decide
  induction ns with
  | nil => intro q; exact ⟨Nat.le_refl _, Nat.le_refl _, Nat.le_refl _⟩
  | cons a r ih =>
    intro q
    obtain ⟨i1, i2, i3⟩ := ih (shStep q a)
    have e1 : (shStep q a).first.length ≤ q.first.length + 2 := by simp [shStep]; exact h1 _
    have e2 : (shStep q a).second.length ≤ q.second.length + 2 := by simp [shStep]; exact h2 _
    have e3 : (shStep q a).rows.length ≤ q.rows.length + 2 := by unfold shStep; dsimp only; split <;> simp
    rw [List.length_cons]
    exact ⟨by show (r.foldl shStep (shStep q a)).first.length ≤ _; omega, by show (r.foldl shStep (shStep q a)).second.length ≤ _; omega, by show (r.foldl shStep (shStep q a)).rows.length ≤ _; omega⟩
theorem dRows_imm (l : List Row) : (dRows l).all D.imm = true := by simp [dRows, D.imm]
theorem rep_flat (k : Nat) (d : D) : (List.replicate k [d]).flatten = List.replicate k d := by
  induction k with
  | zero => rfl
  | succ k ih => rw [List.replicate_succ, List.flatten_cons, ih]; rfl
theorem Ex.unpack2 {n : Nat} {env : Env} {σ : Sto} {x y : Str} {px py tp pos : Pos} {c : Nat} {value : Expr} {d e : D} (h : Ev prog w (KK w) true n env σ value (.tuple [d, e])) (hx : Storable env x) (hy : Storable env y) (hd : d.imm = true) (he : e.imm = true)
    (hs : swapsWithSole [.Tuple [.Name x px, .Name y py] c tp] value pos.line env = pure false) (hw : swappedStores [.Tuple [.Name x px, .Name y py] c tp] value env = pure none) :
    Ex prog w (KK w) true n env σ (.Assign [.Tuple [.Name x px, .Name y py] c tp] value pos) (.next (Sto.set (Sto.set σ x (.v d)) y (.v e))) :=
  Ex.unpack (xs := [(x, px), (y, py)]) (ds := [d, e]) h rfl (fun z hz => by
    rcases List.mem_cons.mp hz with rfl | hz
    · exact hx
    · rw [List.mem_singleton.mp hz]; exact hy) rfl (.inl (by simp [hd, he])) hs hw
theorem sp_shelves (ns : List Nat) (hz : ns.length ≤ 1000) (hv : ∀ v ∈ ns, v < 1000000000) : Spec prog w (KK w) 9 (.ref 190) [.list (dNats ns)] [] (.tuple [.list (dRows (shelves ns).first), .list (dRows (shelves ns).second), .list (dRows (shelves ns).rows)]) := by
  refine Spec.fn (n := 8) 190 (bd := [("numbers", .list (dNats ns))]) (by kernel_rfl) (body := ?b) ?hb (by kernel_rfl) (by kernel_rfl) (by kernel_rfl) (by kernel_rfl) (by kernel_rfl) (by kernel_rfl) (by kernel_rfl) (by kernel_rfl) (.one fun v => by kernel_rfl) ?h
  case hb => rfl
  intro L
  refine Exs.cons (Ex.three (.inl rfl) (.inl rfl) (.inl rfl) rfl (by kernel_rfl)) ?_
  refine Exs.cons (Ex.for (fun i => sS ns ((ns.take i).foldl shStep ⟨[], [], []⟩)) (Itr.name rfl (by simp [D.imm])) (subSto.refl _) (.inl rfl) ?hbd (fun _ => rfl)) ?_
  case hbd =>
    intro i d hd
    have ⟨v, hvi, hd⟩ : ∃ v, ns[i]? = some v ∧ d = .int (v : Int) := by
      rw [List.getElem?_map] at hd
      match e : ns[i]?, hd with
      | some v, hd => cases hd; exact ⟨v, rfl, rfl⟩
      | none, hd => cases hd
    subst hd
    have hvl := hv v (List.mem_of_getElem? hvi)
    have hsz := sh_len (ns.take i) ⟨[], [], []⟩
    have htk : (ns.take i).length ≤ 1000 := by rw [List.length_take]; omega
    rw [fold_take shStep _ _ hvi]
    generalize (ns.take i).foldl shStep ⟨[], [], []⟩ = q at hsz
    obtain ⟨z1, z2, z3⟩ := hsz
    rw [List.length_nil, Nat.zero_add] at z1 z2 z3
    refine .inl (Exs.sub ?_ (subSto.app (τ := ([("v", PV.v (D.int v)), ("row", PV.v (D.bytes (rowB (v / 6)))), ("here", PV.v (D.int (hereOf (v % 6)))), ("there", PV.v (D.int (thereOf (v % 6))))] : Sto))))
    refine Exs.cons (Ex.assign (d := .bytes (rowB (v / 6))) (Ev.fn 183 (by kernel_rfl) (by rfl) (by decide) (by kernel_rfl) (Evs.cons rfl (Ev.mono (d' := .int ((v / 6 : Nat) : Int)) (Ev.bin (by walk_at "me") (by walk_at "me") (Bop.fdiv (by decide) (by decide))) (by rw [Int.fdiv_eq_ediv_of_nonneg _ (by decide)]; rfl)) Evs.nil) (sp_row _ (by omega))) (.inl rfl) (.inl rfl) rfl) ?_
    with_reducible refine Exs.cons (Ex.unpack2 (d := .int (hereOf (v % 6) : Nat)) (e := .int (thereOf (v % 6) : Nat)) ?val ?hx ?hy ?hd ?he ?hs ?hw) ?rest
    case hx => exact .inl rfl
    case hy => exact .inl rfl
    case hd => rfl
    case he => rfl
    case hs => kernel_rfl
    case hw => kernel_rfl
    case val =>
      with_reducible refine Ev.sub (d2 := .int ((v % 6 : Nat) : Int)) (Ev.tuple (Evs.cons rfl (Ev.tuple (Evs.cons rfl Ev.int (Evs.cons rfl Ev.int Evs.nil)) (by decide)) (Evs.cons rfl (Ev.tuple (Evs.cons rfl Ev.int (Evs.cons rfl Ev.int Evs.nil)) (by decide)) (Evs.cons rfl (Ev.tuple (Evs.cons rfl Ev.int (Evs.cons rfl Ev.int Evs.nil)) (by decide)) (Evs.cons rfl (Ev.tuple (Evs.cons rfl Ev.int (Evs.cons rfl Ev.int Evs.nil)) (by decide)) (Evs.cons rfl (Ev.tuple (Evs.cons rfl Ev.int (Evs.cons rfl Ev.int Evs.nil)) (by decide)) (Evs.cons rfl (Ev.tuple (Evs.cons rfl Ev.int (Evs.cons rfl Ev.int Evs.nil)) (by decide)) Evs.nil)))))) (by decide)) ?v1 (Sop.tupItem (Int.natCast_nonneg _) ?lt ?itm (fun _ _ => rfl))
      case v1 => exact Ev.mono (Ev.bin (by walk_at "me") (by walk_at "me") (Bop.fmod (by decide))) (by rw [Int.fmod_eq_emod_of_nonneg _ (by decide)]; rfl)
      case lt => omega
      case itm =>
        rw [Int.toNat_natCast]
        have h6 : v % 6 < 6 := Nat.mod_lt _ (by decide)
        generalize v % 6 = u at h6
        match u, h6 with
        | 0, _ => rfl
        | 1, _ => rfl
        | 2, _ => rfl
        | 3, _ => rfl
        | 4, _ => rfl
        | 5, _ => rfl
    case rest =>
      have h1 : hereOf (v % 6) ≤ 2 := by unfold hereOf; split <;> decide
      have h2 : thereOf (v % 6) ≤ 2 := by unfold thereOf; split <;> decide
      with_reducible refine Exs.cons (Ex.iadd (ds := dRows q.first) (es := dRows (List.replicate (hereOf (v % 6)) (rowB (v / 6)))) ?l1 ?v2 ?l3 ?l4 ?l5) ?_
      case l1 => rfl
      case v2 => exact Ev.mono (Ev.bin (Ev.list (Evs.cons rfl (by walk_at "me") Evs.nil) (by show 1 ≤ 1000; decide)) (by walk_at "me") (Bop.mulL (Int.natCast_nonneg _) (by omega) (by show 1 ≤ 100; decide))) (by rw [Int.toNat_natCast, rep_flat]; simp [dRows])
      case l3 => exact dRows_imm _
      case l4 => simp only [dRows, List.length_map, List.length_replicate]; omega
      case l5 => exact .inl rfl
      with_reducible refine Exs.cons (Ex.iadd (ds := dRows q.second) (es := dRows (List.replicate (thereOf (v % 6)) (rowB (v / 6)))) ?l1 ?v3 ?l3 ?l4 ?l5) ?_
      case l1 => rfl
      case v3 => exact Ev.mono (Ev.bin (Ev.list (Evs.cons rfl (by walk_at "me") Evs.nil) (by show 1 ≤ 1000; decide)) (by walk_at "me") (Bop.mulL (Int.natCast_nonneg _) (by omega) (by show 1 ≤ 100; decide))) (by rw [Int.toNat_natCast, rep_flat]; simp [dRows])
      case l3 => exact dRows_imm _
      case l4 => simp only [dRows, List.length_map, List.length_replicate]; omega
      case l5 => exact .inl rfl
      have hfin : ∀ R, R = (shStep q v).rows → Exs prog w (KK w) true 8 (fenv w 190 L) ([("numbers", .v (.list (dNats ns))), ("rows", .o (dRows R)), ("second", .o (dRows q.second ++ dRows (List.replicate (thereOf (v % 6)) (rowB (v / 6))))), ("first", .o (dRows q.first ++ dRows (List.replicate (hereOf (v % 6)) (rowB (v / 6))))), ("v", PV.v (D.int v)), ("row", PV.v (D.bytes (rowB (v / 6)))), ("here", PV.v (D.int (hereOf (v % 6)))), ("there", PV.v (D.int (thereOf (v % 6))))] : Sto) [] (.next (sS ns (shStep q v) ++ ([("v", PV.v (D.int v)), ("row", PV.v (D.bytes (rowB (v / 6)))), ("here", PV.v (D.int (hereOf (v % 6)))), ("there", PV.v (D.int (thereOf (v % 6))))] : Sto))) := by
        intro R hR
        subst hR
        unfold sS
        rw [show dRows (shStep q v).second = dRows q.second ++ dRows (List.replicate (thereOf (v % 6)) (rowB (v / 6))) from List.map_append, show dRows (shStep q v).first = dRows q.first ++ dRows (List.replicate (hereOf (v % 6)) (rowB (v / 6))) from List.map_append]
        exact Exs.nil
      with_reducible refine Exs.ite (c := !q.rows.any (· == rowB (v / 6))) (Tr.cmp (d1 := .bytes (rowB (v / 6))) (d2 := .list (dRows q.rows)) ?t1 ?t2 Cop.notInB ?t3) (fun h => ?_) (fun h => ?_)
      case t1 => walk_at "me"
      case t2 => walk_at "me"
      case t3 => rfl
      · dsimp only [List.cons_append, List.nil_append]
        with_reducible refine Exs.cons (Ex.append (ds := dRows q.rows) (d := .bytes (rowB (v / 6))) ?p1 ?p2 ?p3 ?p4 ?p5 ?p6 ?p7) ?_
        case p1 => rfl
        case p2 => walk_at "me"
        case p3 => rfl
        case p4 => rw [List.length_map]; omega
        case p5 => decide
        case p6 => rfl
        case p7 => rfl
        have hR : q.rows ++ [rowB (v / 6)] = (shStep q v).rows := by
          unfold shStep; dsimp only; rw [if_neg (by rw [Bool.not_eq_true'] at h; rw [h]; exact Bool.false_ne_true)]
        have := hfin _ hR
        rw [show dRows (q.rows ++ [rowB (v / 6)]) = dRows q.rows ++ [.bytes (rowB (v / 6))] from List.map_append] at this
        exact this
      · dsimp only [List.cons_append, List.nil_append]
        exact hfin q.rows (by unfold shStep; dsimp only; rw [if_pos (by rw [Bool.not_eq_false'] at h; exact h)])
  rw [show ns.take (dNats ns).length = ns by rw [List.length_map, List.take_length]]
  have hsz := sh_len ns ⟨[], [], []⟩
  refine Exs.stop (Ex.ret (Ev.tuple (Evs.cons rfl (by walk_at "me") (Evs.cons rfl (by walk_at "me") (Evs.cons rfl (by walk_at "me") Evs.nil))) (by show 3 ≤ 1000; decide))) rfl
end
-- F12
section
set_option maxRecDepth 100000
set_option maxHeartbeats 1000000
variable {prog : Program} {w : World}
theorem Bop.fdivL {n : Nat} {a b : Int} (h0 : b ≠ 0) (h1 : b.natAbs < 2 ^ 64) : Bop prog w (KK w) true n .FloorDiv (.int a) (.int b) (.int (a.fdiv b)) := by
  intro s A O v1 v2 E _ _ _ r1 r2; replace r1 := r1.inv; cases r1; replace r2 := r2.inv; cases r2
  refine PyProof.Rows.floordiv_int h0 ⟨ktoks s _, .int _ _⟩ (.inl (PyProof.noPylong_of_log2 ?_))
  have := (Nat.log2_lt (n := b.natAbs) (k := 64) (by omega)).mpr h1
  omega
theorem Iop_mono {n : Nat} {op : Operator} {a b d d' : D} (h : Iop prog w (KK w) true n op a b d) (e : d = d') : Iop prog w (KK w) true n op a b d' := e ▸ h
noncomputable def rkCnt (l : Row) : Nat := (l.length * 4 + 2) / 3
noncomputable def rkVal (l : Row) : Nat := (nums l).foldl (fun a b => a * 256 + b) 0
noncomputable def rkTop (l : Row) : Nat := rkVal l * 2 ^ (rkCnt l * 6 - l.length * 8)
noncomputable def ranks (l : Row) : List Int := ((List.range (rkCnt l)).map fun k => lrank ((rkTop l / 64 ^ (rkCnt l - 1 - k) % 64 : Nat) : Int)) ++ List.replicate ((4 - rkCnt l % 4) % 4) 12
theorem filt_true {α : Type} (l : List α) : l.filter (fun _ => true) = l := by simp
theorem look1 {a y : Str} {p pv : PV} (h : List.lookup y ([(a, p)] : Sto) = some pv) : y = a ∧ pv = p := by
  rw [List.lookup_cons] at h
  split at h
  · rename_i e; cases h; exact ⟨by simpa using e, rfl⟩
  · cases h
theorem look2 {a b y : Str} {p q pv : PV} (h : List.lookup y ([(a, p), (b, q)] : Sto) = some pv) : (y = a ∧ pv = p) ∨ (y = b ∧ pv = q) := by
  rw [List.lookup_cons] at h
  split at h
  · rename_i e; cases h; exact .inl ⟨by simpa using e, rfl⟩
  · exact .inr (look1 h)
noncomputable def rkR (l : Row) : D → D
  | .int k => .int (lrank ((rkTop l / 64 ^ (rkCnt l - 1 - k.toNat) % 64 : Nat) : Int))
  | d => d
theorem sp_ranks (l : Row) (hz : l.length ≤ 4) : Spec prog w (KK w) 9 (.ref 202) [.bytes l] [] (.list ((ranks l).map D.int)) := by
  refine Spec.fn (n := 8) 202 (bd := [("row", .bytes l)]) (by kernel_rfl) (body := ?b) ?hb (by kernel_rfl) (by kernel_rfl) (by kernel_rfl) (by kernel_rfl) (by kernel_rfl) (by kernel_rfl) (by kernel_rfl) (by kernel_rfl) (.one fun v => by kernel_rfl) ?h
  case hb => rfl
  intro L
  with_reducible refine Exs.cons (Ex.assign (d := .int ((rkCnt l : Nat) : Int)) ?v1 ?hx ?hi ?hq) ?_
  case hx => exact .inr ⟨rfl, _, rfl⟩
  case hi => exact .inl rfl
  case hq => rfl
  case v1 =>
    refine Ev.mono (Ev.bin (Ev.bin (Ev.bin (Ev.bfn (n := 7) (by (((with_reducible refine' Ev.blt ?z193.mbn1 ?z193.mbn2 ?z193.mbn3 ?z193.mbn4 ?z193.mbn5); (case z193.mbn1 => kernel_rfl); (case z193.mbn2 => boot_fact); (case z193.mbn3 => decide); (case z193.mbn4 => rfl); (case z193.mbn5 => decide)))) (by nofun) (Evs.cons rfl (by walk_at "me") Evs.nil) (sp_lenBytes (by omega))) (by walk_at "me") (Bop.mul (by decide) (by decide))) (by walk_at "me") Bop.add) (by walk_at "me") (Bop.fdiv (by decide) (by decide))) ?_
    rw [Int.fdiv_eq_ediv_of_nonneg _ (by decide)]
    unfold rkCnt
    congr 1 <;> omega
  with_reducible refine Exs.cons (Ex.assign (d := .int 0) ?v1 ?hx ?hi ?hq) ?_
  case hx => exact .inr ⟨rfl, _, rfl⟩
  case hi => exact .inl rfl
  case hq => rfl
  case v1 => walk_at "me"
  with_reducible refine Exs.cons (Ex.for (ds := dBytes l) (fun i => [("row", .v (.bytes l)), ("count", .v (.int ((rkCnt l : Nat) : Int))), ("value", .v (.int ((((nums l).take i).foldl (fun a b => a * 256 + b) 0 : Nat) : Int)))]) ?f1 ?f2 ?f3 ?f4 ?f5) ?_
  case f1 => exact Itr.bytes (by walk_at "me")
  case f2 => exact subSto.refl _
  case f3 => exact .inl rfl
  case f5 => exact fun _ => rfl
  case f4 =>
    intro i d hd
    obtain ⟨c, hc, hlt, rfl⟩ := nums_get hd
    rw [fold_take _ _ _ hc]
    generalize ((nums l).take i).foldl (fun a b => a * 256 + b) 0 = q
    refine .inl (Exs.sub ?_ (subSto.app (τ := ([("octet", PV.v (D.int c))] : Sto))))
    with_reducible refine Exs.cons (Ex.assign (d := .int ((q * 256 + c : Nat) : Int)) ?v1 ?hx ?hi ?hq) ?_
    case hx => exact .inr ⟨rfl, _, rfl⟩
    case hi => exact .inl rfl
    case hq => rfl
    case v1 => exact Ev.mono (Ev.bin (Ev.bin (by walk_at "me") (by walk_at "me") (Bop.mul (by decide) (by decide))) (by walk_at "me") Bop.add) (by congr 1)
    exact Exs.nil
  rw [show (nums l).take (dBytes l).length = nums l from List.take_of_length_le (by simp [nums, dBytes])]
  have hcl : rkCnt l ≤ 6 := by unfold rkCnt; omega
  have hbig : l.length * 8 ≤ rkCnt l * 6 ∧ rkCnt l * 6 - l.length * 8 ≤ 4 := by unfold rkCnt; omega
  with_reducible refine Exs.cons (Ex.aug (d1 := .int ((rkVal l : Nat) : Int)) (d2 := .int ((2 ^ (rkCnt l * 6 - l.length * 8) : Nat) : Int)) (d := .int ((rkTop l : Nat) : Int)) ?a1 ?a2 ?a3 ?a4 ?a5) ?_
  case a1 => rfl
  case a2 =>
    refine Ev.mono (Ev.bin (by walk_at "me") (Ev.mono (d' := .int ((rkCnt l * 6 - l.length * 8 : Nat) : Int)) (Ev.bin (Ev.bin (by walk_at "me") (by walk_at "me") (Bop.mul (by decide) (by decide))) (Ev.bin (Ev.bfn (n := 7) (by (((with_reducible refine' Ev.blt ?z194.mbn1 ?z194.mbn2 ?z194.mbn3 ?z194.mbn4 ?z194.mbn5); (case z194.mbn1 => kernel_rfl); (case z194.mbn2 => boot_fact); (case z194.mbn3 => decide); (case z194.mbn4 => rfl); (case z194.mbn5 => decide)))) (by nofun) (Evs.cons rfl (by walk_at "me") Evs.nil) (sp_lenBytes (by omega))) (by walk_at "me") (Bop.mul (by decide) (by decide))) Bop.sub) (by congr 1 <;> omega)) (Bop.pow (Int.natCast_nonneg _) ?_)) ?_
    · have h2 : Builtin.Int.intBits 2 = 2 := by decide +kernel
      rw [h2]; omega
    · rw [Int.toNat_natCast]; congr 1
  case a3 =>
    have hp : (2 : Nat) ^ (rkCnt l * 6 - l.length * 8) ≤ 2 ^ 4 := Nat.pow_le_pow_right (by decide) hbig.2
    unfold rkTop
    generalize (2 : Nat) ^ (rkCnt l * 6 - l.length * 8) = P at hp ⊢
    exact Iop_mono (Iop.mul (by omega) (by omega)) (by congr 1)
  case a4 => rfl
  case a5 => exact .inr ⟨rfl, _, rfl⟩
  with_reducible refine Exs.stop (Ex.ret ?v) ?hr
  case hr => rfl
  case v =>
    with_reducible refine Ev.mono (Ev.bin (d1 := .list (((dRange (rkCnt l)).filter fun _ => true).map (rkR l))) (d2 := .list (List.replicate ((4 - rkCnt l % 4) % 4) (.int 12))) ?c1 ?c2 (Bop.addL ?c3)) ?c4
    case c2 =>
      refine Ev.mono (Ev.bin (Ev.list (Evs.cons rfl (by walk_at "me") Evs.nil) (by show 1 ≤ 1000; decide)) (Ev.mono (d' := .int (((4 - rkCnt l % 4) % 4 : Nat) : Int)) (Ev.bin (by walk_at "me") (by walk_at "me") (Bop.fmod (by decide))) ?_) (Bop.mulL (Int.natCast_nonneg _) (by omega) (by show 1 ≤ 100; decide))) ?_
      · rw [Int.fmod_eq_emod_of_nonneg _ (by decide)]; congr 1; omega
      · rw [Int.toNat_natCast, rep_flat]
    case c3 => rw [filt_true, List.length_map, dRange, List.length_map, List.length_range, List.length_replicate]; omega
    case c4 =>
      rw [filt_true]
      unfold ranks dRange
      simp [List.map_append, Function.comp_def, rkR]
    case c1 =>
      with_reducible refine' Ev.comp (σf := [("count", .v (.int ((rkCnt l : Nat) : Int))), ("value", .v (.int ((rkTop l : Nat) : Int)))]) (ItrE.range ?i1 ?i2 ?i3 ?i4) ?cf ?hz ?hcl ?hn ?hs
      case hcl => rfl
      case i1 => (((with_reducible refine' Ev.blt ?z195.mbn1 ?z195.mbn2 ?z195.mbn3 ?z195.mbn4 ?z195.mbn5); (case z195.mbn1 => kernel_rfl); (case z195.mbn2 => boot_fact); (case z195.mbn3 => decide); (case z195.mbn4 => rfl); (case z195.mbn5 => decide)))
      case i2 => rfl
      case i3 => walk_at "me"
      case i4 => omega
      case hz => simp [dRange]; omega
      case hn => decide
      case hs => exact fun _ => rfl
      case cf =>
        refine ⟨rfl, fun C => .inl rfl, fun C c h => absurd (show some NameKind.local = some NameKind.cell from h) (by decide), ?_, fun C d _ => Tests.nil, ?_⟩
        · intro C y pv h
          rcases look2 h with ⟨rfl, rfl⟩ | ⟨rfl, rfl⟩
          · exact ⟨rfl, ⟨_, rfl⟩, ⟨.inl rfl, .inl rfl, rfl⟩, by decide⟩
          · exact ⟨rfl, ⟨_, rfl⟩, ⟨.inl rfl, .inl rfl, rfl⟩, by decide⟩
        · intro C d hd _
          obtain ⟨k, hk, rfl⟩ := List.mem_map.mp hd
          have hk := List.mem_range.mp hk
          have hp : (64 : Nat) ^ (rkCnt l - 1 - k) ≤ 64 ^ 5 := Nat.pow_le_pow_right (by decide) (by omega)
          have hp0 : 0 < (64 : Nat) ^ (rkCnt l - 1 - k) := Nat.pow_pos (by decide)
          show Ev _ _ _ _ _ _ _ _ (.int (lrank ((rkTop l / 64 ^ (rkCnt l - 1 - k) % 64 : Nat) : Int)))
          refine Ev.fn 197 (by kernel_rfl) (by rfl) (by decide) (by kernel_rfl) (Evs.cons rfl (Ev.mono (d' := .int ((rkTop l / 64 ^ (rkCnt l - 1 - k) % 64 : Nat) : Int)) (Ev.bin (Ev.bin (by walk_at "me") (Ev.mono (d' := .int ((64 ^ (rkCnt l - 1 - k) : Nat) : Int)) (Ev.bin (by walk_at "me") (Ev.mono (d' := .int ((rkCnt l - 1 - k : Nat) : Int)) (Ev.bin (Ev.bin (by walk_at "me") (by walk_at "me") Bop.sub) (by walk_at "me") Bop.sub) ?e1) (Bop.pow (Int.natCast_nonneg _) ?e2)) ?e3) (Bop.fdivL ?e4 ?e5)) (by walk_at "me") (Bop.fmod (by decide))) ?e6) Evs.nil) (Spec.le (sp_rank _) (by decide))
          case e1 => congr 1; omega
          case e2 =>
            have h2 : Builtin.Int.intBits 64 = 7 := by decide +kernel
            rw [h2]; omega
          case e3 => rw [Int.toNat_natCast]; congr 1
          case e4 => generalize (64 : Nat) ^ (rkCnt l - 1 - k) = P at *; omega
          case e5 => generalize (64 : Nat) ^ (rkCnt l - 1 - k) = P at *; omega
          case e6 => rw [fdiv_nat, Int.fmod_eq_emod_of_nonneg _ (by decide)]; congr 1
end
-- F13
section
set_option maxRecDepth 100000
set_option maxHeartbeats 1000000
variable {prog : Program} {w : World}
noncomputable def sgn (i j : Nat) : Int := if i < j then -1 else if i = j then 0 else 1
noncomputable def rising (n : Nat) : List D := (List.range n).map fun i => .list ((List.range n).map fun j => .int (sgn i j))
noncomputable def rsOut (n : Nat) : D → D
  | .int i => .list ((List.range n).map fun j => .int (sgn i.toNat j))
  | d => d
noncomputable def rsIn (i : Nat) : D → D
  | .int j => .int (sgn i j.toNat)
  | d => d
theorem sp_rising (n : Nat) (hz : n ≤ 1000) : Spec prog w (KK w) 9 (.ref 217) [.int (n : Int)] [] (.list (rising n)) := by
  refine Spec.fn (n := 8) 217 (bd := [("size", .int (n : Int))]) (by kernel_rfl) (body := ?b) ?hb (by kernel_rfl) (by kernel_rfl) (by kernel_rfl) (by kernel_rfl) (by kernel_rfl) (by kernel_rfl) (by kernel_rfl) (by kernel_rfl) (.one fun v => by kernel_rfl) ?h
  case hb => rfl
  intro L
  with_reducible refine Exs.stop (Ex.ret ?v) ?hr
  case hr => rfl
  case v =>
    with_reducible refine' Ev.mono (d := .list (((dRange n).filter fun _ => true).map (rsOut n))) (Ev.comp (σf := [("size", .v (.int (n : Int)))]) (ItrE.range ?i1 ?i2 ?i3 ?i4) ?cf ?hz ?hcl ?hn ?hs) ?c4
    case hcl => rfl
    case i1 => (((with_reducible refine' Ev.blt ?z196.mbn1 ?z196.mbn2 ?z196.mbn3 ?z196.mbn4 ?z196.mbn5); (case z196.mbn1 => kernel_rfl); (case z196.mbn2 => boot_fact); (case z196.mbn3 => decide); (case z196.mbn4 => rfl); (case z196.mbn5 => decide)))
    case i2 => rfl
    case i3 => walk_at "me"
    case i4 => omega
    case hz => simp [dRange]; omega
    case hn => decide
    case hs => exact fun _ => rfl
    case c4 => rw [filt_true]; unfold rising dRange; simp [Function.comp_def, rsOut]
    case cf =>
      refine ⟨rfl, fun C => .inr ⟨rfl, _, rfl⟩, fun C c h h2 => rfl, ?_, fun C d _ => Tests.nil, ?_⟩
      · intro C y pv h
        obtain ⟨rfl, rfl⟩ := look1 h
        exact ⟨rfl, ⟨_, rfl⟩, ⟨.inl rfl, .inl rfl, rfl⟩, by decide⟩
      · intro C d hd _
        obtain ⟨i, hi, rfl⟩ := List.mem_map.mp hd
        show Ev _ _ _ _ _ _ _ _ (.list ((List.range n).map fun j => .int (sgn i j)))
        with_reducible refine' Ev.mono (d := .list (((dRange n).filter fun _ => true).map (rsIn i))) (Ev.comp (σf := [("i", .v (.int (i : Int)))]) (ItrE.range ?i1 ?i2 ?i3 ?i4) ?cf ?hz ?hcl ?hn ?hs) ?c4
        case hcl => rfl
        case i1 => (((with_reducible refine' Ev.blt ?z197.mbn1 ?z197.mbn2 ?z197.mbn3 ?z197.mbn4 ?z197.mbn5); (case z197.mbn1 => kernel_rfl); (case z197.mbn2 => boot_fact); (case z197.mbn3 => decide); (case z197.mbn4 => rfl); (case z197.mbn5 => decide)))
        case i2 => rfl
        case i3 => walk_at "me"
        case i4 => omega
        case hz => simp [dRange]; omega
        case hn => decide
        case hs => exact fun _ => rfl
        case c4 => rw [filt_true]; unfold dRange; simp [Function.comp_def, rsIn]
        case cf =>
          refine ⟨rfl, fun C => .inl rfl, fun C c h => absurd (show some NameKind.local = some NameKind.cell from h) (by decide), ?_, fun C d _ => Tests.nil, ?_⟩
          · intro C y pv h
            obtain ⟨rfl, rfl⟩ := look1 h
            exact ⟨rfl, ⟨_, rfl⟩, ⟨.inl rfl, .inl rfl, rfl⟩, by decide⟩
          · intro C d hd _
            obtain ⟨j, hj, rfl⟩ := List.mem_map.mp hd
            show Ev _ _ _ _ _ _ _ _ (.int (sgn i j))
            refine Ev.ite (c := decide (i < j)) (Tr.mono (by (first | ((with_reducible refine' Tr.cmp ?z198.mt1 ?z198.mt2 ?z198.mt3 ?z198.mt4); (case z198.mt1 => walk_at "me"); (case z198.mt2 => walk_at "me"); (case z198.mt3 => walk_at "mc"); (case z198.mt4 => rfl)) | ((with_reducible refine' Tr.chain ?z198.mt1 ?z198.mt2 ?z198.mt3 ?z198.mt4 ?z198.mt5 ?z198.mt6); (case z198.mt1 => walk_at "me"); (case z198.mt2 => walk_at "me"); (case z198.mt3 => walk_at "me"); (case z198.mt4 => walk_at "mc"); (case z198.mt5 => walk_at "mc"); (case z198.mt6 => rfl)) | ((with_reducible refine' Tr.val ?z198.mt1 ?z198.mt2 ?z198.mt3); (case z198.mt1 => walk_at "me"); (case z198.mt2 => first | with_reducible exact Tru.bool | with_reducible exact Tru.int | with_reducible exact Tru.none); (case z198.mt3 => rfl)))) (by rw [decide_eq_decide]; omega)) (fun h => ?_) (fun h => ?_)
            · rw [decide_eq_true_eq] at h
              rw [sgn, if_pos h]; walk_at "me"
            · rw [decide_eq_false_iff_not] at h
              rw [sgn, if_neg h]
              refine Ev.ite (c := decide (i = j)) (Tr.mono (by (first | ((with_reducible refine' Tr.cmp ?z199.mt1 ?z199.mt2 ?z199.mt3 ?z199.mt4); (case z199.mt1 => walk_at "me"); (case z199.mt2 => walk_at "me"); (case z199.mt3 => walk_at "mc"); (case z199.mt4 => rfl)) | ((with_reducible refine' Tr.chain ?z199.mt1 ?z199.mt2 ?z199.mt3 ?z199.mt4 ?z199.mt5 ?z199.mt6); (case z199.mt1 => walk_at "me"); (case z199.mt2 => walk_at "me"); (case z199.mt3 => walk_at "me"); (case z199.mt4 => walk_at "mc"); (case z199.mt5 => walk_at "mc"); (case z199.mt6 => rfl)) | ((with_reducible refine' Tr.val ?z199.mt1 ?z199.mt2 ?z199.mt3); (case z199.mt1 => walk_at "me"); (case z199.mt2 => first | with_reducible exact Tru.bool | with_reducible exact Tru.int | with_reducible exact Tru.none); (case z199.mt3 => rfl)))) ?_) (fun h => ?_) (fun h => ?_)
              · rw [show (((i : Int) == (j : Int))) = decide ((i : Int) = (j : Int)) from rfl, decide_eq_decide]; omega
              · rw [decide_eq_true_eq] at h
                rw [if_pos h]; walk_at "me"
              · rw [decide_eq_false_iff_not] at h
                rw [if_neg h]; walk_at "me"
end
-- F14
section
set_option maxRecDepth 100000
set_option maxHeartbeats 1000000
variable {prog : Program} {w : World}
@[reducible] noncomputable def byKind : KeyKind where
  α := List Nat
  blt a b := decide (a < b)
  irrefl a := by simp [List.lt_irrefl a]
  trans a b c h1 h2 := by
    rw [decide_eq_true_eq] at *
    exact List.lt_trans h1 h2
  negTrans a b c h := by
    rw [decide_eq_true_eq] at h
    rcases Classical.em (a < b) with q | q
    · exact .inl (decide_eq_true q)
    · exact .inr (decide_eq_true (List.lt_of_le_of_lt (List.not_lt.mp q) h))
  total a b h1 h2 := by
    rw [decide_eq_false_iff_not] at *
    exact List.le_antisymm (List.not_lt.mp h2) (List.not_lt.mp h1)
  keyOf v := match v with | .bytes b _ => some (nums b.toList) | _ => none
  dflt := []
theorem byKind_lt : byKind.OneLt := by
  intro prog w A E s x y a b Q ha hb h
  cases x <;> simp only [byKind, reduceCtorEq, Option.some.injEq] at ha
  cases y <;> simp only [byKind, reduceCtorEq, Option.some.injEq] at hb
  rename_i b1 t1 b2 t2
  subst ha hb
  rw [oneLt'_eq]
  simp only [if_true]
  refine wpAny_bind (wpAny_cRoomFor_byValue rfl ?_)
  refine wpAny_bind (wpAny_callSpecialIfBound?_slot (T := "bytes") rfl slot_bytes_lt ?_)
  refine wpAny_call_entry slot_bytes_lt (T := "bytes") rfl entry_bytes_lt ?_ (args_bytes_lt _ _)
  show wpAny _ _ (isInstance (.bytes b2 t2) (.type "bytes") >>= fun r => _) _ E s
  refine wpAny_bind (wpAny_isInstance (typeIs_bytes s b2 t2) F.sub_bytes_bytes ?_)
  refine wpAny_pure ⟨.bool _, rfl, ?_⟩
  have e : Builtin.Bytes.holds "__lt__" (Builtin.Bytes.order b1.toList b2.toList) = decide (nums b1.toList < nums b2.toList) := order_lt _ _
  rw [e]
  exact wpAny_truthy_bool h

noncomputable abbrev Row' := List UInt8
noncomputable def rowOf : Value → List UInt8
  | .bytes b _ => b.toList
  | _ => []
noncomputable def leB (a b : List UInt8) : Bool := !decide (nums b < nums a)
noncomputable def sortB (ls : List (List UInt8)) : List (List UInt8) := ls.mergeSort leB
theorem nums_inj {a b : List UInt8} (h : nums a = nums b) : a = b := by
  have : Function.Injective UInt8.toNat := fun x y e => UInt8.toNat_inj.mp e
  exact (List.map_inj_right (fun x y e => UInt8.toNat_inj.mp e)).mp h
theorem leB_antisymm {a b : List UInt8} (h1 : leB a b = true) (h2 : leB b a = true) : a = b := by
  unfold leB at *
  simp only [Bool.not_eq_true', decide_eq_false_iff_not] at *
  exact nums_inj (List.le_antisymm (List.not_lt.mp h1) (List.not_lt.mp h2))
theorem leB_trans (a b c : List UInt8) (h1 : leB a b = true) (h2 : leB b c = true) : leB a c = true := by
  unfold leB at *
  simp only [Bool.not_eq_true', decide_eq_false_iff_not] at *
  exact List.not_lt.mpr (List.le_trans (List.not_lt.mp h1) (List.not_lt.mp h2))
theorem leB_total (a b : List UInt8) : (leB a b || leB b a) = true := by
  unfold leB
  rcases Classical.em (nums b < nums a) with h | h
  · have : ¬ nums a < nums b := fun q => List.lt_irrefl _ (List.lt_trans h q)
    simp [h, this]
  · simp [h]
theorem sortB_eq {ls ms : List (List UInt8)} (hp : ms.Perm ls) (hs : ms.Pairwise fun a b => leB a b = true) : ms = sortB ls :=
  List.Perm.eq_of_pairwise (le := fun a b => leB a b = true) (fun _ _ _ _ => leB_antisymm) hs (List.pairwise_mergeSort leB_trans leB_total ls) (hp.trans (List.mergeSort_perm ls leB).symm)
theorem reps_rows {P : Addr → Prop} {h : Heap} : ∀ {vs : List Value} {ls : List (List UInt8)}, Reps P h vs (ls.map D.bytes) → vs.map rowOf = ls ∧ ∀ v ∈ vs, ∃ b t, v = .bytes b t
  | [], [], _ => ⟨rfl, fun _ h => by cases h⟩
  | [], _ :: _, r => by replace r := r.inv; cases r
  | _ :: _, [], r => by replace r := r.inv; cases r
  | v :: vs, l :: ls, r => by
    replace r := r.inv; cases r with
    | cons a r =>
      obtain ⟨h1, h2⟩ := reps_rows r
      replace a := a.inv; cases a with
      | bytes t =>
        refine ⟨by rw [List.map_cons, h1]; rfl, fun v hv => ?_⟩
        rcases List.mem_cons.mp hv with rfl | hv
        · exact ⟨_, _, rfl⟩
        · exact h2 v hv
theorem rows_reps {P : Addr → Prop} {h : Heap} : ∀ {vs : List Value}, (∀ v ∈ vs, ∃ b t, v = .bytes b t) → Reps P h vs ((vs.map rowOf).map D.bytes)
  | [], _ => .nil
  | v :: vs, hv => by
    obtain ⟨b, t, rfl⟩ := hv _ (.head _)
    refine .cons ?_ (rows_reps fun v h => hv v (.tail _ h))
    have := Rep.bytes (P := P) (h := h) b.toList t
    rw [Array.toArray_toList] at this
    exact this
theorem mapM_first_bytes : ∀ {vs : List Value}, (∀ v ∈ vs, ∃ b t, v = .bytes b t) → vs.mapM firstOfTuple' = pure (vs.map fun _ => none)
  | [], _ => rfl
  | v :: vs, hv => by
    obtain ⟨b, t, rfl⟩ := hv _ (.head _)
    rw [List.mapM_cons, mapM_first_bytes fun v h => hv v (.tail _ h)]
    rfl
theorem mapM_typeOf_bytes : ∀ {vs : List Value}, (∀ v ∈ vs, ∃ b t, v = .bytes b t) → vs.mapM typeOf = pure (vs.map fun _ => Value.type "bytes")
  | [], _ => rfl
  | v :: vs, hv => by
    obtain ⟨b, t, rfl⟩ := hv _ (.head _)
    rw [List.mapM_cons, mapM_typeOf_bytes fun v h => hv v (.tail _ h)]
    rfl
/-- keys of one type that is not tuple -/
theorem kind_of_type {T : String} {v₁ v₂ : Value} {vs : List Value} (h1 : (v₁ :: v₂ :: vs).mapM firstOfTuple' = pure ((v₁ :: v₂ :: vs).map fun _ => none)) (h2 : (v₁ :: v₂ :: vs).mapM typeOf = pure ((v₁ :: v₂ :: vs).map fun _ => Value.type T)) :
    keyKind' (v₁ :: v₂ :: vs).toArray = pure oneType' := by
  rw [keyKind'_eq, List.mapM_toArray, h1]
  simp only [map_pure, pure_bind]
  have hn : ((List.map (fun _ => (none : Option Value)) (v₁ :: v₂ :: vs)).toArray.all fun x => x.isSome) = false := by simp
  have h0 : (List.map (fun _ => (none : Option Value)) (v₁ :: v₂ :: vs)).toArray[0]? = some none := by simp
  rw [hn, h0]
  simp only [Bool.false_eq_true, if_false]
  show (if (none : Option Value).isSome = true then _ else _) = _
  rw [oneTypeOnly'_eq, List.mapM_toArray, h2]
  simp only [map_pure, pure_bind]
  have hall : ((List.map (fun _ => Value.type T) (v₁ :: v₂ :: vs)).toArray.all fun x => x == Value.type T) = true := by
    simp only [List.all_toArray, List.all_map, List.all_eq_true]
    intro _ _
    simp
  have h3 : (List.map (fun _ => Value.type T) (v₁ :: v₂ :: vs)).toArray[0]? = some (Value.type T) := by simp
  rw [h3]
  simp only [hall, if_true, pure_bind, Option.isSome_some]
  simp

theorem sp_sortedB {K : Frag} {n : Nat} (ls : List (List UInt8)) (hz : ls.length < 64) : Spec prog w K n (.builtin "sorted") [.list (ls.map D.bytes)] [] (.list ((sortB ls).map D.bytes)) := by
  refine Spec.one fun s A O v E B R hdom r => ?_
  replace r := r.inv; cases r with
  | @list a vs m hO e r =>
    have hlen := r.length
    rw [List.length_map] at hlen
    obtain ⟨hrow, hby⟩ := reps_rows r
    refine sortedK byKind_lt (l := a) (vs := vs) ⟨_, e, rfl, m, rfl⟩ ?_ ?_ (by omega) fun st' hp hs => ?_
    · intro p hp
      rw [pairsOf_toList] at hp
      obtain ⟨e1, e2⟩ := mem_zip_self hp
      obtain ⟨b, t, q⟩ := hby _ e2
      rw [q]; exact ⟨_, rfl⟩
    · rintro v₁ v₂ rest rfl
      exact kind_of_type (mapM_first_bytes hby) (mapM_typeOf_bytes hby)
    · obtain ⟨c, hc⟩ := sortedAll_at s.heap vs ((arrOf st').map (·.2))
      have hl : (arrOf st').toList.Perm (vs.zip vs) := by rw [← pairsOf_toList]; exact Array.perm_iff_toList_perm.mp hp
      have hmem : ∀ p ∈ (arrOf st').toList, p.1 = p.2 ∧ p.1 ∈ vs := fun p hp' => mem_zip_self (hl.mem_iff.mp hp')
      have ho : ((arrOf st').map (·.2)).toList.Perm vs := by
        rw [Array.toList_map]
        have := hl.map Prod.snd
        rwa [List.map_snd_zip (Nat.le_refl _)] at this
      have hob : ∀ v ∈ ((arrOf st').map (·.2)).toList, ∃ b t, v = .bytes b t := fun v hv => hby v (ho.mem_iff.mp hv)
      refine ⟨⟨_, s.toks, rfl, fun b o e => sortedAll_old e⟩, ?_⟩
      have hq : ((arrOf st').map (·.2)).toList.map rowOf = sortB ls := by
        refine sortB_eq (by rw [← hrow]; exact ho.map _) ?_
        rw [List.pairwise_iff_getElem]
        intro i j hi hj hij
        have hi' : i < (arrOf st').size := by simpa using hi
        have hj' : j < (arrOf st').size := by simpa using hj
        have h1 := hs i j (Nat.le_of_lt hij) (by rw [← hp.size_eq]; exact hj')
        have g : ∀ k (hk : k < (arrOf st').size), PyProof.Rows.KK byKind (arrOf st') k = nums (rowOf (arrOf st')[k].2) := fun k hk => by
          obtain ⟨e1, e2⟩ := hmem (arrOf st')[k] (by simp)
          obtain ⟨b, t, q⟩ := hby _ e2
          unfold PyProof.Rows.KK
          rw [getElem?_pos _ k hk]
          show (byKind.keyOf (arrOf st')[k].1).getD [] = _
          rw [← e1, q]; rfl
        rw [g i hi', g j hj'] at h1
        have h2 : decide (nums (rowOf (arrOf st')[j].2) < nums (rowOf (arrOf st')[i].2)) = false := h1
        simp only [List.getElem_map, Array.getElem_toList, Array.getElem_map]
        unfold leB
        rw [h2]; rfl
      have hn : s.heap.get? (s.heap.objs.size + 1) = none := by
        cases q : s.heap.get? (s.heap.objs.size + 1) with
        | none => rfl
        | some o => exact absurd (Heap.lt_size q) (Nat.not_lt.mpr (Nat.le_succ _))
      refine .list (n := c) (vs := ((arrOf st').map (·.2)).toList) (fun q => ?_) ?_ ?_
      · obtain ⟨o, q⟩ := hdom _ q; rw [hn] at q; cases q
      · rw [hc, lobj, Array.toArray_toList]
      · have := rows_reps (P := O) (h := sortedAll s.heap vs ((arrOf st').map (·.2))) hob
        rw [hq] at this
        exact this
end
-- F15
section
set_option maxRecDepth 100000
set_option maxHeartbeats 1000000
/-- the key at a place -/
noncomputable def G (rk : Value → List Int) (xs : Array Keyed) (i : Nat) : List Int := (xs[i]?.map fun p => rk p.1).getD []
theorem G_eq {rk : Value → List Int} {xs ys : Array Keyed} {i j : Nat} (h : xs[i]? = ys[j]?) : G rk xs i = G rk ys j := by unfold G; rw [h]
noncomputable def Up (rk : Value → List Int) (xs : Array Keyed) (k : Nat) : Prop := ∀ i j, i < j → j < k → G rk xs i < G rk xs j
noncomputable def Dn (rk : Value → List Int) (xs : Array Keyed) (k : Nat) : Prop := ∀ i j, i < j → j < k → G rk xs j < G rk xs i
noncomputable def Dst (rk : Value → List Int) (xs : Array Keyed) : Prop := (xs.toList.map fun p => rk p.1).Nodup
noncomputable def Orc (prog : Program) (w : World) (A : Around) (s : Shared) (rk : Value → List Int) (xs : Array Keyed) : Prop :=
  ∀ p ∈ xs.toList, ∀ q ∈ xs.toList, ∀ (E : Value → Shared → Prop) (Q : Bool → Shared → Prop), Q (decide (rk p.1 < rk q.1)) s → wpAny (model prog w) A (oneLt' true p.1 q.1) Q E s

theorem lt_tot {a b : List Int} (h : a ≠ b) (h' : ¬ a < b) : b < a := by
  rcases Classical.em (b < a) with q | q
  · exact q
  · exact absurd (List.le_antisymm (List.not_lt.mp q) (List.not_lt.mp h')) h

section
variable {prog : Program} {w : World} {A : Around} {E : Value → Shared → Prop} {s : Shared} {rk : Value → List Int} {a₀ : Array Keyed}

theorem dst_ne (hd : Dst rk a₀) {st : SortSt} (hB : SBase a₀ st) {i j : Nat} (hij : i ≠ j) (hi : i < a₀.size) (hj : j < a₀.size) : G rk (arrOf st) i ≠ G rk (arrOf st) j := by
  have hl : ((arrOf st).toList.map fun p => rk p.1).Nodup := ((Array.perm_iff_toList_perm.mp hB.perm).map _).nodup_iff.mpr hd
  have hi' : i < (arrOf st).size := by rw [hB.size]; exact hi
  have hj' : j < (arrOf st).size := by rw [hB.size]; exact hj
  intro e
  unfold G at e
  rw [getElem?_pos _ i hi', getElem?_pos _ j hj'] at e
  have e' : rk (arrOf st)[i].1 = rk (arrOf st)[j].1 := e
  refine hij ((List.getElem_inj (h₀ := by simpa using hi') (h₁ := by simpa using hj') hl).mp ?_)
  simpa using e'

theorem ask_lt (ho : Orc prog w A s rk a₀) {st : SortSt} {i j : Nat} {Q : Option Bool → SortSt → Prop} (hB : SBase a₀ st) (hi : i < a₀.size) (hj : j < a₀.size) (h : Q (some (decide (G rk (arrOf st) i < G rk (arrOf st) j))) st) :
    wpS (model prog w) A E s (ltAt' i j) Q st := by
  have hi' : i < (arrOf st).size := by rw [hB.size]; exact hi
  have hj' : j < (arrOf st).size := by rw [hB.size]; exact hj
  have mem : ∀ k (hk : k < (arrOf st).size), (arrOf st)[k] ∈ a₀.toList := fun k hk => (Array.perm_iff_toList_perm.mp hB.perm).mem_iff.mp (by simp)
  unfold G at h
  rw [getElem?_pos _ i hi', getElem?_pos _ j hj'] at h
  rw [ltAt'_eq]
  refine wpS_bind (wpS_get ?_)
  show wpS _ _ _ _ (do let x ← elem' (arrOf st) i; let y ← elem' (arrOf st) j; lt' x y) Q st
  rw [elem'_eq, elem'_eq, getElem?_pos _ i hi', getElem?_pos _ j hj']
  refine wpS_bind (wpS_pure (wpS_bind (wpS_pure ?_)))
  rw [lt'_eq]
  refine wpS_bind (wpS_get ?_)
  rw [hB.kind, keyLt'_oneType]
  exact wpS_bind (wpS_lift (wpAny_attempt (ho _ (mem i hi') _ (mem j hj') _ _ ⟨rfl, wpS_pure h⟩)))

theorem asc (ho : Orc prog w A s rk a₀) (hd : Dst rk a₀) {st : SortSt} {a : Nat} {Q : AscSt → SortSt → Prop} (ha : 1 ≤ a) (han : a ≤ a₀.size) (hB : SBase a₀ st) (hs : Up rk (arrOf st) a)
    (h : ∀ n, a ≤ n → n ≤ a₀.size → Up rk (arrOf st) n → (n = a₀.size ∨ G rk (arrOf st) n < G rk (arrOf st) (n - 1)) → Q (none, n) st) : wpS (model prog w) A E s (ascLoop a a₀.size) Q st := by
  unfold ascLoop
  refine wpS_forRange (I := fun x c st' => st' = st ∧ c = (none, x) ∧ Up rk (arrOf st) x) (fun x c st' hax hxn hI => ?_) (fun c st' hI => ?_) ⟨rfl, rfl, hs⟩
  · obtain ⟨rfl, rfl, hup⟩ := hI
    refine wpS_bind (ask_lt ho hB hxn (by omega) ?_)
    rcases Classical.em (G rk (arrOf st') x < G rk (arrOf st') (x - 1)) with q | q
    · rw [decide_eq_true q]
      exact wpS_pure (h x hax (Nat.le_of_lt hxn) hup (.inr q))
    · rw [decide_eq_false q]
      have q' := lt_tot (dst_ne hd hB (i := x) (j := x - 1) (by omega) hxn (by omega)) q
      refine wpS_pure ⟨rfl, rfl, fun i j hij hj => ?_⟩
      rcases Nat.lt_or_ge j x with hjx | hjx
      · exact hup i j hij hjx
      · have e : j = x := by omega
        subst e
        rcases Nat.lt_or_ge i (j - 1) with hi | hi
        · exact List.lt_trans (hup i (j - 1) hi (by omega)) q'
        · rwa [show i = j - 1 by omega]
  · obtain ⟨rfl, rfl, hup⟩ := hI
    rw [show max a a₀.size = a₀.size by omega] at hup ⊢
    exact h _ han (Nat.le_refl _) hup (.inl rfl)

theorem run3 (ho : Orc prog w A s rk a₀) (hd : Dst rk a₀) {st : SortSt} {n : Nat} {Q : Option Nat → SortSt → Prop} (h1 : 1 ≤ n) (hn : n ≤ a₀.size) (hB : SBase a₀ st) (hs : Dn rk (arrOf st) n)
    (h : ∀ m st', SBase a₀ st' → 1 ≤ m → m ≤ a₀.size → Up rk (arrOf st') m → Q (some m) st') : wpS (model prog w) A E s (tail3 n a₀.size) Q st := by
  unfold tail3
  have hsz : n ≤ (arrOf st).size := by rw [hB.size]; exact hn
  have hB' : SBase a₀ (setArr st (mirror (arrOf st) 0 n ((n - 0) / 2))) := hB.setArr (mirror_perm _ _ _ _)
  refine wpS_bind (wpS_reverse (wpS_bind (asc ho hd h1 hn hB' ?_ fun m h2 h3 hu _ => wpS_pure (h m _ hB' (Nat.le_trans h1 h2) h3 hu))))
  intro i j hij hj
  have g : ∀ k, k < n → G rk (mirror (arrOf st) 0 n ((n - 0) / 2)) k = G rk (arrOf st) (0 + n - 1 - k) := fun k hk => by
    refine G_eq ?_
    rw [getElem?_mirror_all hsz, if_pos ⟨Nat.zero_le _, hk⟩]
  show G rk (mirror (arrOf st) 0 n ((n - 0) / 2)) i < G rk (mirror (arrOf st) 0 n ((n - 0) / 2)) j
  rw [g i (by omega), g j hj]
  exact hs _ _ (by omega) (by omega)

theorem desc (ho : Orc prog w A s rk a₀) (hd : Dst rk a₀) {st : SortSt} {Q : Option Nat → SortSt → Prop} (h2 : 2 ≤ a₀.size) (hB : SBase a₀ st) (hlt : G rk (arrOf st) 1 < G rk (arrOf st) 0)
    (h : ∀ m st', SBase a₀ st' → 1 ≤ m → m ≤ a₀.size → Up rk (arrOf st') m → Q (some m) st') : wpS (model prog w) A E s (descPart 1 a₀.size) Q st := by
  unfold descPart descLoop
  refine wpS_bind (wpS_lift (wpAny_rule ⟨rfl, ?_⟩))
  refine wpS_bind (wpS_mono (Q := fun c st' => ∃ m, c = (none, m, 0) ∧ st' = st ∧ 2 ≤ m ∧ m ≤ a₀.size ∧ Dn rk (arrOf st) m) (wpS_forRange (I := fun x c st' => c = (none, x, 0) ∧ st' = st ∧ Dn rk (arrOf st) x) (fun x c st' hax hxn hI => ?_) (fun c st' hI => ?_) ⟨rfl, rfl, fun i j hij hj => ?_⟩) fun c st' hI => ?_)
  · obtain ⟨rfl, rfl, hdn⟩ := hI
    refine wpS_bind (ask_lt ho hB hxn (by dsimp only; omega) ?_)
    dsimp only
    rcases Classical.em (G rk (arrOf st') x < G rk (arrOf st') (x - 1)) with q | q
    · rw [decide_eq_true q]
      refine wpS_pure ⟨rfl, rfl, fun i j hij hj => ?_⟩
      rcases Nat.lt_or_ge j x with hjx | hjx
      · exact hdn i j hij hjx
      · have e : j = x := by omega
        subst e
        rcases Nat.lt_or_ge i (j - 1) with hi | hi
        · exact List.lt_trans q (hdn i (j - 1) hi (by omega))
        · rwa [show i = j - 1 by omega]
    · have q' := lt_tot (dst_ne hd hB (i := x) (j := x - 1) (by omega) hxn (by omega)) q
      rw [decide_eq_false q]
      refine wpS_bind (ask_lt ho hB (by omega) hxn ?_)
      rw [decide_eq_true q']
      exact wpS_pure ⟨x, rfl, rfl, hax, Nat.le_of_lt hxn, hdn⟩
  · obtain ⟨rfl, rfl, hdn⟩ := hI
    rw [show max (1 + 1) a₀.size = a₀.size by omega] at hdn ⊢
    exact ⟨_, rfl, rfl, h2, Nat.le_refl _, hdn⟩
  · have : i = 0 ∧ j = 1 := by omega
    rw [this.1, this.2]; exact hlt
  · obtain ⟨m, rfl, rfl, h3, h4, hdn⟩ := hI
    show wpS _ _ _ _ (tail3 m a₀.size) _ _
    exact run3 ho hd (by omega) h4 hB hdn h

theorem count (ho : Orc prog w A s rk a₀) (hd : Dst rk a₀) {st : SortSt} {Q : Option Nat → SortSt → Prop} (h2 : 2 ≤ a₀.size) (hB : SBase a₀ st)
    (h : ∀ m st', SBase a₀ st' → 1 ≤ m → m ≤ a₀.size → Up rk (arrOf st') m → Q (some m) st') : wpS (model prog w) A E s (countRun' 0 a₀.size) Q st := by
  rw [countRun0_eq]
  refine wpS_bind (asc ho hd (Nat.le_refl 1) (by omega) hB (fun i j hij hj => by omega) fun n hn1 hn2 hu hor => ?_)
  dsimp only
  rcases Nat.lt_or_ge n a₀.size with hlt | hge
  · rw [if_neg (by simp; omega)]
    rcases Nat.lt_or_ge 1 n with hn | hn
    · rw [if_pos hn]
      refine wpS_bind (ask_lt ho hB (by omega) (by omega) ?_)
      rw [decide_eq_true (hu 0 (n - 1) (by omega) (by omega))]
      exact wpS_pure (h n st hB hn1 hn2 hu)
    · rw [if_neg (Nat.not_lt.mpr hn)]
      have e : n = 1 := by omega
      subst e
      exact desc ho hd h2 hB (hor.resolve_left (by omega)) h
  · have e : n = a₀.size := Nat.le_antisymm hn2 hge
    rw [if_pos (by simp [e])]
    exact wpS_pure (h n st hB hn1 hn2 hu)

theorem binary (ho : Orc prog w A s rk a₀) (hd : Dst rk a₀) {st : SortSt} {ok : Nat} {Q : Bool → SortSt → Prop} (h1 : 1 ≤ ok) (hok : ok ≤ a₀.size) (hB : SBase a₀ st) (hs : Up rk (arrOf st) ok)
    (h : ∀ st', SBase a₀ st' → Up rk (arrOf st') a₀.size → Q true st') : wpS (model prog w) A E s (binarySort' 0 a₀.size ok) Q st := by
  rw [binarySort'_eq]
  simp only [Nat.zero_add, show max ok 1 = ok by omega]
  refine wpS_bind (wpS_mono (Q := fun c st' => c = (none, ()) ∧ SBase a₀ st' ∧ Up rk (arrOf st') a₀.size) (wpS_forRange (I := fun k c st' => c = (none, ()) ∧ SBase a₀ st' ∧ Up rk (arrOf st') k) (fun k c st' hak hkn hI => ?_) (fun c st' hI => ?_) ⟨rfl, hB, hs⟩) fun c st' hI => ?_)
  · obtain ⟨rfl, hB', hu⟩ := hI
    refine wpS_bind (wpS_mono (Q := fun c st'' => st'' = st' ∧ ∃ l r, c = (none, l, r) ∧ l ≤ k ∧ (∀ i, i < l → G rk (arrOf st') i < G rk (arrOf st') k) ∧ (∀ i, l ≤ i → i < k → G rk (arrOf st') k < G rk (arrOf st') i))
      (wpS_forRange (I := fun x c st'' => st'' = st' ∧ ∃ l r, c = (none, l, r) ∧ l ≤ r ∧ r ≤ k ∧ r - l + x ≤ k ∧ (∀ i, i < l → G rk (arrOf st') i < G rk (arrOf st') k) ∧ (∀ i, r ≤ i → i < k → G rk (arrOf st') k < G rk (arrOf st') i))
        (fun x c st'' _ hxk hI => ?_) (fun c st'' hI => ?_) ⟨rfl, 0, k, rfl, Nat.zero_le _, Nat.le_refl _, by omega, fun i hi => absurd hi (by omega), fun i h1 h2 => absurd h2 (by omega)⟩) fun c st'' hI => ?_)
    · obtain ⟨rfl, l, r, rfl, hlr, hrk, hm, hlo, hhi⟩ := hI
      dsimp only
      rcases Nat.lt_or_ge l r with hlt | hge
      · rw [if_neg (Nat.not_le.mpr hlt)]
        refine wpS_bind (ask_lt ho hB' hkn (by omega) ?_)
        rcases Classical.em (G rk (arrOf st'') k < G rk (arrOf st'') ((l + r) / 2)) with q | q
        · rw [decide_eq_true q]
          refine wpS_pure ⟨rfl, l, (l + r) / 2, rfl, by omega, by omega, by omega, hlo, fun i h3 h4 => ?_⟩
          rcases Nat.lt_or_ge ((l + r) / 2) i with h5 | h5
          · exact List.lt_trans q (hu _ _ h5 h4)
          · rwa [show i = (l + r) / 2 by omega]
        · have q' := lt_tot (dst_ne hd hB' (i := k) (j := (l + r) / 2) (by omega) hkn (by omega)) q
          rw [decide_eq_false q]
          refine wpS_pure ⟨rfl, (l + r) / 2 + 1, r, rfl, by omega, by omega, by omega, fun i h3 => ?_, hhi⟩
          rcases Nat.lt_or_ge i ((l + r) / 2) with h5 | h5
          · exact List.lt_trans (hu _ _ h5 (by omega)) q'
          · rwa [show i = (l + r) / 2 by omega]
      · rw [if_pos hge]
        exact wpS_pure ⟨rfl, l, r, rfl, by omega, hlo, fun i h3 h4 => hhi i (by omega) h4⟩
    · obtain ⟨rfl, l, r, rfl, hlr, hrk, hm, hlo, hhi⟩ := hI
      exact ⟨rfl, l, r, rfl, by omega, hlo, fun i h3 h4 => hhi i (by omega) h4⟩
    · obtain ⟨rfl, l, r, rfl, hlk, hlo, hhi⟩ := hI
      show wpS _ _ _ _ (do moveDown' k l; pure (ForInStep.yield (none, ()))) _ _
      rw [moveDown'_eq]
      refine wpS_bind (wpS_modify (wpS_pure ⟨rfl, hB'.setArr (bubble_perm _ _ _), ?_⟩))
      have hks : k < (arrOf st'').size := by rw [hB'.size]; exact hkn
      have g : ∀ i, G rk (bubble (arrOf st'') k (k - l)) i = if i = l then G rk (arrOf st'') k else if l < i ∧ i ≤ k then G rk (arrOf st'') (i - 1) else G rk (arrOf st'') i := fun i => by
        have e := getElem?_bubble hks (k - l) (by omega) i
        rw [show k - (k - l) = l by omega] at e
        split
        · rw [if_pos (by assumption)] at e; exact G_eq e
        · rw [if_neg (by assumption)] at e
          split
          · rw [if_pos (by assumption)] at e; exact G_eq e
          · rw [if_neg (by assumption)] at e; exact G_eq e
      intro i j hij hj
      show G rk (bubble (arrOf st'') k (k - l)) i < G rk (bubble (arrOf st'') k (k - l)) j
      rw [g, g]
      by_cases i1 : i = l
      · rw [if_pos i1, if_neg (by omega), if_pos (by omega)]; exact hhi _ (by omega) (by omega)
      · rw [if_neg i1]
        by_cases i2 : l < i ∧ i ≤ k
        · rw [if_pos i2, if_neg (by omega), if_pos (by omega)]; exact hu _ _ (by omega) (by omega)
        · rw [if_neg i2]
          by_cases j1 : j = l
          · rw [if_pos j1]; exact hlo _ (by omega)
          · rw [if_neg j1]
            by_cases j2 : l < j ∧ j ≤ k
            · rw [if_pos j2]; exact hu _ _ (by omega) (by omega)
            · rw [if_neg j2]; exact hu _ _ (by omega) (by omega)
  · obtain ⟨rfl, hB', hu⟩ := hI
    rw [show max ok a₀.size = a₀.size by omega] at hu
    exact ⟨rfl, hB', hu⟩
  · obtain ⟨rfl, hB', hu⟩ := hI
    exact wpS_pure (h st' hB' hu)

/-- fewer than 64 items of distinct keys -/
theorem runs (ho : Orc prog w A s rk a₀) (hd : Dst rk a₀) {st : SortSt} {Q : Unit → SortSt → Prop} (hB : SBase a₀ st) (h2 : 2 ≤ a₀.size) (h64 : a₀.size < 64)
    (h : ∀ st', (arrOf st').Perm a₀ → failedOf st' = none → Up rk (arrOf st') a₀.size → Q () st') : wpS (model prog w) A E s sortRuns' Q st := by
  rw [sortRuns'_eq]
  refine wpS_bind (wpS_get ?_)
  dsimp only
  have hmr : minRun' a₀.size a₀.size 0 = a₀.size := by
    cases q : a₀.size with
    | zero => omega
    | succ f => rw [minRun'_succ, if_pos (by omega)]
  simp only [hB.size, hmr]
  let D : SortSt → Prop := fun st' => (arrOf st').Perm a₀ ∧ failedOf st' = none ∧ (pendingOf st').size = 1 ∧ Up rk (arrOf st') a₀.size
  have mk : ∀ st', SBase a₀ st' → Up rk (arrOf st') a₀.size → D (setPending st' ((pendingOf st').push (0, a₀.size, 0))) := fun st' hb hu =>
    ⟨hb.perm, hb.failed, by show ((pendingOf st').push _).size = 1; rw [hb.pend]; rfl, hu⟩
  refine wpS_bind (wpS_mono (Q := fun c st' => c = (none, a₀.size) ∧ D st') (wpS_forRange (I := fun x c st' => if x = 0 then c = (none, 0) ∧ SBase a₀ st' else c = (none, a₀.size) ∧ D st') (fun x c st' _ hx hI => ?_) (fun c st' hI => ?_) ?_) fun c st' hI => ?_)
  · split at hI
    · rename_i hx0
      subst hx0
      obtain ⟨rfl, hB'⟩ := hI
      dsimp only
      rw [if_neg (by omega)]
      simp only [Nat.sub_zero, Nat.min_self, Nat.zero_add]
      refine wpS_bind (count ho hd h2 hB' fun m st2 hB2 hm1 hm2 hu2 => ?_)
      dsimp only
      rcases Nat.lt_or_ge m a₀.size with hlt | hge
      · rw [if_pos hlt]
        refine wpS_bind (wpS_lift (wpAny_rule ⟨rfl, ?_⟩))
        refine wpS_bind (binary ho hd hm1 hm2 hB2 hu2 fun st3 hB3 hu3 => ?_)
        simp only [Bool.not_true, Bool.false_eq_true, if_false]
        refine wpS_bind (wpS_get ?_)
        have hb : (pendingOf st3).back? = none := by rw [hB3.pend]; rfl
        rw [hb]
        dsimp only
        refine wpS_bind (wpS_modify (wpS_pure ?_))
        exact (show (none, a₀.size) = (none, a₀.size) ∧ D _ from ⟨rfl, mk _ hB3 hu3⟩)
      · rw [if_neg (Nat.not_lt.mpr hge)]
        have e : m = a₀.size := Nat.le_antisymm hm2 hge
        subst e
        refine wpS_bind (wpS_get ?_)
        have hb : (pendingOf st2).back? = none := by rw [hB2.pend]; rfl
        rw [hb]
        dsimp only
        refine wpS_bind (wpS_modify (wpS_pure ?_))
        exact (show (none, a₀.size) = (none, a₀.size) ∧ D _ from ⟨rfl, mk _ hB2 hu2⟩)
    · obtain ⟨rfl, hD⟩ := hI
      dsimp only
      rw [if_pos (Nat.le_refl _)]
      exact wpS_pure ⟨rfl, hD⟩
  · rw [if_neg (by omega)] at hI
    exact hI
  · rw [if_pos rfl]; exact ⟨rfl, hB⟩
  · obtain ⟨rfl, hD⟩ := hI
    dsimp only
    refine wpS_bind (wpS_mono (wpS_forRange (I := fun _ c st'' => st'' = st' ∧ c = (none, ())) (Q := fun c st'' => st'' = st' ∧ c = (none, ())) (fun x c st'' _ _ hI => ?_) (fun _ _ hh => hh) ⟨rfl, rfl⟩) fun c st'' hI => ?_)
    · obtain ⟨rfl, rfl⟩ := hI
      refine wpS_bind (wpS_get ?_)
      rw [if_pos (by rw [hD.2.2.1]; exact Nat.le_refl 1)]
      exact wpS_pure ⟨rfl, rfl⟩
    · obtain ⟨rfl, rfl⟩ := hI
      exact wpS_pure (h _ hD.1 hD.2.1 hD.2.2.2)
end
end
-- F16
section
set_option maxRecDepth 100000
set_option maxHeartbeats 1000000
variable {prog : Program} {w : World}
open PySem.AutoSeq1 (wpAny_loadPart')
open PySem.MeetsSeq3 (plain_eq_loop entry_eq_loop)
theorem ints_at {P : Addr → Prop} {h : Heap} {vs : List Value} {ns : List Int} (r : Reps P h vs (ns.map D.int)) {i : Nat} {n : Int} (e : ns[i]? = some n) : ∃ t, vs[i]? = some (.int n t) := by
  obtain ⟨v, hv, rv⟩ := r.get (k := i) (d := .int n) (by rw [List.getElem?_map, e]; rfl)
  replace rv := rv.inv; cases rv with | int t => exact ⟨t, hv⟩
theorem lt_loop (l b : Addr) (us vs : List Value) (n n2 : Nat) (xs ys : List Int) {P : Addr → Prop} {h0 : Heap} (rx : Reps P h0 us (xs.map D.int)) (ry : Reps P h0 vs (ys.map D.int)) (k : Nat) :
    ∀ i : Nat, xs.length - i = k → i ≤ xs.length → i ≤ ys.length → Meets (Builtin.«list.__eq__.loop» ⟨[.ref l, .ref b, rawInt i, rawInt 0], []⟩)
      (fun A R s => s.heap.get? l = some (lobj us n) ∧ s.heap.get? b = some (lobj vs n2) ∧ R (.ok (.ret (.bool (decide (xs.drop i < ys.drop i))))) s) := by
  have lx := rx.length
  have ly := ry.length
  rw [List.length_map] at lx ly
  induction k with
  | zero =>
    intro i hk hi1 hi2 prog w A R s h
    obtain ⟨hp, g, d, tk, os⟩ := s; obtain ⟨hl, hb, h⟩ := h
    wp_walk using wpAny_loadPart' hl, wpAny_loadPart' hb
    have e1 : us.toArray[((i : Nat) : Int).toNat]? = none := by simp; omega
    have hd : xs.drop i = [] := by simp; omega
    rw [e1]
    rw [hd] at h
    wp_walk using wpAny_loadPart' hl, wpAny_loadPart' hb
    show R (.ok (.ret (.bool (decide (us.toArray.size < vs.toArray.size))))) _
    have q : (decide (us.toArray.size < vs.toArray.size)) = decide ([] < ys.drop i) := by
      rw [decide_eq_decide, List.size_toArray, List.size_toArray]
      cases hd2 : ys.drop i with
      | nil =>
        have : ys.length ≤ i := by simpa using hd2
        simp; omega
      | cons y r =>
        have : i < ys.length := by
          rcases Nat.lt_or_ge i ys.length with q | q
          · exact q
          · rw [List.drop_eq_nil_of_le q] at hd2; cases hd2
        simp; omega
    rw [q]; exact h
  | succ k ih =>
    intro i hk hi1 hi2 prog w A R s h
    obtain ⟨hp, g, d, tk, os⟩ := s; obtain ⟨hl, hb, h⟩ := h
    have hlt : i < xs.length := by omega
    have hdx : xs.drop i = xs[i] :: xs.drop (i + 1) := List.drop_eq_getElem_cons hlt
    rw [hdx] at h
    wp_walk using wpAny_loadPart' hl, wpAny_loadPart' hb
    obtain ⟨t, et⟩ := ints_at rx (i := i) (n := xs[i]) (List.getElem?_eq_getElem hlt)
    have e1 : us.toArray[((i : Nat) : Int).toNat]? = some (.int xs[i] t) := by simpa using et
    rw [e1]
    rcases Nat.lt_or_ge i ys.length with hlt2 | hge
    · have hdy : ys.drop i = ys[i] :: ys.drop (i + 1) := List.drop_eq_getElem_cons hlt2
      rw [hdy] at h
      obtain ⟨u, eu⟩ := ints_at ry (i := i) (n := ys[i]) (List.getElem?_eq_getElem hlt2)
      have e2 : vs.toArray[((i : Nat) : Int).toNat]? = some (.int ys[i] u) := by simpa using eu
      rw [e2]
      generalize xs[i] = x at *
      generalize ys[i] = y at *
      refine wpAny_bind (eqInts prog w _ _ ?_)
      by_cases hxy : x = y
      · subst hxy
        rw [show (x == x) = true by simp]
        wp_walk
        have hc : ((i : Int) + 1) = ((i + 1 : Nat) : Int) := by push_cast; rfl
        rw [hc]
        refine ⟨plainId_quiet plain_eq_loop _, codeAny_builtin entry_eq_loop ?_⟩
        rw [Around.under_plainId plain_eq_loop _]
        refine ih (i + 1) (by omega) hlt hlt2 prog w A R _ ⟨hl, hb, ?_⟩
        rw [show decide (List.drop (i + 1) xs < List.drop (i + 1) ys) = decide (x :: List.drop (i + 1) xs < x :: List.drop (i + 1) ys) by rw [decide_eq_decide, List.cons_lt_cons_iff]; simp [Int.lt_irrefl]]
        exact h
      · rw [show (x == y) = false by simpa using hxy]
        wp_walk using wpAny_loadPart' hl, wpAny_loadPart' hb
        rw [e1, e2]
        refine wpAny_bind (show wpAny _ _ (compareOp .Lt (.int x t) (.int y u)) _ _ _ from PyProof.Rows.lt_int ?_)
        rw [show decide (x < y) = decide (x :: List.drop (i + 1) xs < y :: List.drop (i + 1) ys) by rw [decide_eq_decide, List.cons_lt_cons_iff]; simp [hxy]]
        exact wpAny_pure h
    · have e2 : vs.toArray[((i : Nat) : Int).toNat]? = none := by simp; omega
      have hdy : ys.drop i = [] := List.drop_eq_nil_of_le hge
      rw [hdy] at h
      rw [e2]
      wp_walk using wpAny_loadPart' hl, wpAny_loadPart' hb
      show R (.ok (.ret (.bool (decide (us.toArray.size < vs.toArray.size))))) _
      rw [show decide (us.toArray.size < vs.toArray.size) = decide (xs[i] :: xs.drop (i + 1) < []) by rw [decide_eq_decide, List.size_toArray, List.size_toArray]; simp; omega]
      exact h

theorem list_lt (l b : Addr) (us vs : List Value) (n n2 : Nat) (xs ys : List Int) {P : Addr → Prop} {h0 : Heap} (rx : Reps P h0 us (xs.map D.int)) (ry : Reps P h0 vs (ys.map D.int)) :
    Meets (Builtin.«list.__lt__» ⟨[.ref l, .ref b], []⟩)
      (fun A R s => s.heap.get? l = some (lobj us n) ∧ s.heap.get? b = some (lobj vs n2) ∧ R (.ok (.ret (.bool (decide (xs < ys))))) s) := by
  intro prog w A R s h
  obtain ⟨hp, g, d, tk, os⟩ := s; obtain ⟨hl, hb, h⟩ := h
  have f3 := AutoSeq1.sub_list_list
  wp_walk using wpAny_loadPart' hl, wpAny_loadPart' hb
  refine ⟨plainId_quiet plain_eq_loop _, codeAny_builtin entry_eq_loop ?_⟩
  rw [Around.under_plainId plain_eq_loop _]
  exact lt_loop l b us vs n n2 xs ys rx ry _ 0 rfl (Nat.zero_le _) (Nat.zero_le _) prog w A R _ ⟨hl, hb, h⟩

/-- keys that are lists of ints -/
theorem orc_lists {A : Around} {s : Shared} {x y : Value} {xs ys : List Int} {P : Addr → Prop} (hu : A.units < cLine) (rx : Rep P s.heap x (.list (xs.map D.int))) (ry : Rep P s.heap y (.list (ys.map D.int))) {E : Value → Shared → Prop} {Q : Bool → Shared → Prop}
    (h : Q (decide (xs < ys)) s) : wpAny (model prog w) A (oneLt' true x y) Q E s := by
  replace rx := rx.inv; cases rx with
  | @list a us n _ ea ra =>
    replace ry := ry.inv; cases ry with
    | @list b vs n2 _ eb rb =>
      rw [oneLt'_eq]
      simp only [if_true]
      refine wpAny_bind (wpAny_cRoomFor hu ?_)
      refine wpAny_bind (wpAny_callSpecialIfBound?_slot (T := "list") ⟨_, ea, rfl⟩ F.slot_list_lt ?_)
      refine call_meets F.slot_list_lt ⟨_, ea, rfl⟩ F.entry_list_lt (F.args_list_lt_2 _ _) (list_lt a b us vs n n2 xs ys ra rb) ⟨ea, eb, ?_⟩
      exact wpAny_truthy_bool h
end
-- F17
section
set_option maxRecDepth 100000
set_option maxHeartbeats 1000000
variable {prog : Program} {w : World}
/-- the ints of a list in the heap -/
noncomputable def intOf : Value → Int
  | .int n _ => n
  | _ => 0
noncomputable def rkOf (h : Heap) : Value → List Int
  | .ref a => match h.get? a with
    | some o => match o.data with
      | .seq xs _ => xs.toList.map intOf
      | _ => []
    | none => []
  | _ => []
theorem intOf_reps {P : Addr → Prop} {h : Heap} : ∀ {vs : List Value} {ns : List Int}, Reps P h vs (ns.map D.int) → vs.map intOf = ns
  | [], [], _ => rfl
  | [], _ :: _, r => by replace r := r.inv; cases r
  | _ :: _, [], r => by replace r := r.inv; cases r
  | v :: vs, n :: ns, r => by
    replace r := r.inv; cases r with
    | cons a r =>
      replace a := a.inv; cases a with
      | int t => rw [List.map_cons, intOf_reps r]; rfl
theorem rkOf_rep {P : Addr → Prop} {h : Heap} {v : Value} {ns : List Int} (r : Rep P h v (.list (ns.map D.int))) : rkOf h v = ns := by
  replace r := r.inv; cases r with
  | @list a vs n _ e r =>
    unfold rkOf
    dsimp only
    rw [e]
    show vs.toArray.toList.map intOf = ns
    rw [← intOf_reps r]
theorem reps_get {P : Addr → Prop} {h : Heap} {vs : List Value} {α : Type} {ls : List α} {f : α → D} (r : Reps P h vs (ls.map f)) {v : Value} (hv : v ∈ vs) : ∃ l ∈ ls, Rep P h v (f l) := by
  obtain ⟨i, hi, rfl⟩ := List.mem_iff_getElem.mp hv
  obtain ⟨d, hd, rd⟩ := r.get' (k := i) (List.getElem?_eq_getElem hi)
  rw [List.getElem?_map] at hd
  cases e : ls[i]? with
  | none => rw [e] at hd; cases hd
  | some l => rw [e] at hd; cases hd; exact ⟨l, List.mem_of_getElem? e, rd⟩

noncomputable def leR (rk : List UInt8 → List Int) (a b : List UInt8) : Bool := !decide (rk b < rk a)
noncomputable def sortR (rk : List UInt8 → List Int) (ls : List (List UInt8)) : List (List UInt8) := ls.mergeSort (leR rk)
theorem leR_trans (rk : List UInt8 → List Int) (a b c : List UInt8) (h1 : leR rk a b = true) (h2 : leR rk b c = true) : leR rk a c = true := by
  unfold leR at *
  simp only [Bool.not_eq_true', decide_eq_false_iff_not] at *
  exact List.not_lt.mpr (List.le_trans (List.not_lt.mp h1) (List.not_lt.mp h2))
theorem leR_total (rk : List UInt8 → List Int) (a b : List UInt8) : (leR rk a b || leR rk b a) = true := by
  unfold leR
  rcases Classical.em (rk b < rk a) with h | h
  · have : ¬ rk a < rk b := fun q => List.lt_irrefl _ (List.lt_trans h q)
    simp [h, this]
  · simp [h]
theorem sortR_eq {rk : List UInt8 → List Int} {ls ms : List (List UInt8)} (hn : (ls.map rk).Nodup) (hp : ms.Perm ls) (hs : ms.Pairwise fun a b => rk a < rk b) : ms = sortR rk ls := by
  have inj : ∀ a b, a ∈ ls → b ∈ ls → rk a = rk b → a = b := fun a b ha hb e => by
    obtain ⟨i, hi, rfl⟩ := List.mem_iff_getElem.mp ha
    obtain ⟨j, hj, rfl⟩ := List.mem_iff_getElem.mp hb
    have : i = j := (List.getElem_inj (h₀ := by simpa using hi) (h₁ := by simpa using hj) hn).mp (by simpa using e)
    subst this; rfl
  refine List.Perm.eq_of_pairwise (le := fun a b => leR rk a b = true) (fun a b ha hb h1 h2 => ?_) (hs.imp fun {a b} h => ?_) (List.pairwise_mergeSort (leR_trans rk) (leR_total rk) ls) (hp.trans (List.mergeSort_perm ls (leR rk)).symm)
  · unfold leR at *
    simp only [Bool.not_eq_true', decide_eq_false_iff_not] at *
    exact inj a b (hp.mem_iff.mp ha) ((List.mergeSort_perm ls (leR rk)).mem_iff.mp hb) (List.le_antisymm (List.not_lt.mp h1) (List.not_lt.mp h2))
  · unfold leR
    simp only [Bool.not_eq_true', decide_eq_false_iff_not]
    exact fun q => List.lt_irrefl _ (List.lt_trans q h)

theorem mapM_at {M : Model} {A : Around} {E : Value → Shared → Prop} {s : Shared} {α : Type} {f : Value → Sem α} {c : α} : ∀ {vs : List Value} {Q : List α → Shared → Prop}, (∀ v ∈ vs, ∀ (Q : α → Shared → Prop), Q c s → wpAny M A (f v) Q E s) → Q (vs.map fun _ => c) s → wpAny M A (vs.mapM f) Q E s
  | [], Q, _, h => by rw [List.mapM_nil]; exact wpAny_pure h
  | v :: vs, Q, hf, h => by
    rw [List.mapM_cons]
    exact wpAny_bind (hf v (.head _) _ (wpAny_bind (mapM_at (fun v hv => hf v (.tail _ hv)) (wpAny_pure h))))
theorem firstOf_eq (v : Value) : firstOfTuple' v = (do
    if (← typeOf v) != .type "tuple" then return none
    return (← Builtin.List.listItems v)[0]?) := rfl
theorem kind_lists {A : Around} {E : Value → Shared → Prop} {s : Shared} {v₁ v₂ : Value} {vs : List Value} {Q : SortKind → Shared → Prop} (h : ∀ v ∈ v₁ :: v₂ :: vs, s.TypeIs v "list") (hq : Q oneType' s) :
    wpAny (model prog w) A (keyKind' (v₁ :: v₂ :: vs).toArray) Q E s := by
  rw [keyKind'_eq, List.mapM_toArray]
  refine wpAny_bind ?_
  rw [map_eq_pure_bind]
  refine wpAny_bind (mapM_at (c := none) (fun v hv Q hQ => ?_) (wpAny_pure ?_))
  · rw [firstOf_eq]
    exact wpAny_bind (wpAny_typeOf (h v hv) (wpAny_pure hQ))
  have hn : ((List.map (fun _ => (none : Option Value)) (v₁ :: v₂ :: vs)).toArray.all fun x => x.isSome) = false := by simp
  have h0 : (List.map (fun _ => (none : Option Value)) (v₁ :: v₂ :: vs)).toArray[0]? = some none := by simp
  rw [hn, h0]
  simp only [Bool.false_eq_true, if_false]
  show wpAny _ _ (if (none : Option Value).isSome = true then _ else _) Q E s
  simp only [Option.isSome_none, Bool.false_eq_true, if_false]
  refine wpAny_bind ?_
  rw [oneTypeOnly'_eq, List.mapM_toArray]
  refine wpAny_bind ?_
  rw [map_eq_pure_bind]
  refine wpAny_bind (mapM_at (c := Value.type "list") (fun v hv Q hQ => wpAny_typeOf (h v hv) hQ) (wpAny_pure ?_))
  have hall : ((List.map (fun _ => Value.type "list") (v₁ :: v₂ :: vs)).toArray.all fun x => x == Value.type "list") = true := by
    simp only [List.all_toArray, List.all_map, List.all_eq_true]
    intro _ _
    rfl
  have h3 : (List.map (fun _ => Value.type "list") (v₁ :: v₂ :: vs)).toArray[0]? = some (Value.type "list") := by simp
  rw [h3]
  simp only [hall, if_true]
  exact wpAny_pure (wpAny_pure hq)

section
variable {A : Around} {E : Value → Shared → Prop} {s0 s : Shared} {a kS : Addr} {vs keys : List Value} {ls : List (List UInt8)} {rk : List UInt8 → List Int} {e1 e : Nat} {Q : PySem.Fin → Shared → Prop}

/-- the end of the sort: the state holds the items in a new order -/
theorem sort_end (k0 : Keeps s0 s) (ha0 : s0.heap.get? a = none) (hk0 : s0.heap.get? kS = none) (hka : kS ≠ a) (ha : s.heap.get? a = some (lobj [] e1)) (hk : s.heap.get? kS = some (lobj keys e))
    {O : Addr → Prop} (rk_ : Reps O s.heap keys (ls.map fun l => D.list ((rk l).map D.int))) {O' : Addr → Prop} {h' : Heap} (rv : Reps O' h' vs (ls.map D.bytes)) (hn : (ls.map rk).Nodup) (h64 : ls.length < 64) (hu : A.units < cLine)
    (h : ∀ h' tk out c, (∀ b o, s0.heap.get? b = some o → h'.get? b = some o) → h'.get? a = some (lobj out c) → (∀ (P : Addr → Prop) h, Reps P h out ((sortR rk ls).map D.bytes)) → Q (.done (.ret .none)) { s with heap := h', toks := tk }) :
    wpAny (model prog w) A (ksk_end a false vs.toArray e1 (.ref kS) keys.toArray) Q E s := by
  have hlk : keys.length = ls.length := by rw [rk_.length, List.length_map]
  have hlv : vs.length = ls.length := by rw [rv.length, List.length_map]
  obtain ⟨hrow, hby⟩ := reps_rows rv
  have hzl : (keys.toArray.zip vs.toArray).toList = keys.zip vs := by simp
  have hzs : (keys.toArray.zip vs.toArray).size = ls.length := by simp [hlk, hlv]
  -- the keys of the items
  have hpair : ∀ p ∈ keys.zip vs, rkOf s.heap p.1 = rk (rowOf p.2) ∧ p.2 ∈ vs := fun p hp => by
    obtain ⟨i, hi, rfl⟩ := List.mem_iff_getElem.mp hp
    have hi' : i < ls.length := by simp [hlk, hlv] at hi; omega
    rw [List.getElem_zip]
    obtain ⟨d, hd, rd⟩ := rk_.get' (k := i) (List.getElem?_eq_getElem (by omega))
    rw [List.getElem?_map, List.getElem?_eq_getElem hi'] at hd
    cases hd
    refine ⟨?_, List.getElem_mem _⟩
    rw [rkOf_rep rd]
    congr 1
    have := congrArg (fun l => l[i]?) hrow
    simp only [List.getElem?_map, List.getElem?_eq_getElem hi', List.getElem?_eq_getElem (show i < vs.length by omega)] at this
    simpa using this.symm
  have hkeys : keys.map (rkOf s.heap) = ls.map rk := by
    apply List.ext_getElem?
    intro i
    rw [List.getElem?_map, List.getElem?_map]
    rcases Nat.lt_or_ge i ls.length with hi | hi
    · rw [List.getElem?_eq_getElem hi]
      obtain ⟨d, hd, rd⟩ := rk_.get' (k := i) (List.getElem?_eq_getElem (by omega))
      rw [List.getElem?_map, List.getElem?_eq_getElem hi] at hd
      cases hd
      rw [List.getElem?_eq_getElem (by omega)]
      simp [rkOf_rep rd]
    · rw [List.getElem?_eq_none (by omega), List.getElem?_eq_none (by omega)]; rfl
  have hdst : Dst (rkOf s.heap) (keys.toArray.zip vs.toArray) := by
    unfold Dst
    rw [hzl]
    have : (keys.zip vs).map (fun p => rkOf s.heap p.1) = ((keys.zip vs).map Prod.fst).map (rkOf s.heap) := by rw [List.map_map]; rfl
    rw [this, List.map_fst_zip (by omega), hkeys]; exact hn
  have hallk : ∀ p ∈ (keys.toArray.zip vs.toArray).toList, p.1 ∈ keys := fun p hp => by rw [hzl] at hp; exact (List.of_mem_zip hp).1
  have horc : Orc prog w A s (rkOf s.heap) (keys.toArray.zip vs.toArray) := by
    intro p hp q hq E Q hh
    obtain ⟨l1, _, r1⟩ := reps_get rk_ (hallk p hp)
    obtain ⟨l2, _, r2⟩ := reps_get rk_ (hallk q hq)
    rw [rkOf_rep r1, rkOf_rep r2] at hh
    exact orc_lists hu r1 r2 hh
  -- the tail
  have tail : ∀ st : SortSt, (arrOf st).Perm (keys.toArray.zip vs.toArray) → failedOf st = none → Up (rkOf s.heap) (arrOf st) (keys.toArray.zip vs.toArray).size → wpAny (model prog w) A (ksk_tail a false e1 (.ref kS) st) Q E s := by
    intro st hp hf hup
    have hl : (arrOf st).toList.Perm (keys.zip vs) := by rw [← hzl]; exact Array.perm_iff_toList_perm.mp hp
    have hss : (arrOf st).size = ls.length := by rw [hp.size_eq, hzs]
    have ho : ((arrOf st).map (·.2)).toList.Perm vs := by
      rw [Array.toList_map]
      have := hl.map Prod.snd
      rwa [List.map_snd_zip (by omega)] at this
    have hob : ∀ v ∈ ((arrOf st).map (·.2)).toList, ∃ b t, v = .bytes b t := fun v hv => hby v (ho.mem_iff.mp hv)
    have hq : ((arrOf st).map (·.2)).toList.map rowOf = sortR rk ls := by
      refine sortR_eq hn (by rw [← hrow]; exact ho.map _) ?_
      rw [List.pairwise_iff_getElem]
      intro i j hi hj hij
      have hi' : i < (arrOf st).size := by simpa using hi
      have hj' : j < (arrOf st).size := by simpa using hj
      have h1 := hup i j hij (by rw [hzs, ← hss]; exact hj')
      have g : ∀ k (hk : k < (arrOf st).size), G (rkOf s.heap) (arrOf st) k = rk (rowOf (arrOf st)[k].2) := fun k hk => by
        unfold G
        rw [getElem?_pos _ k hk]
        exact (hpair _ (hl.mem_iff.mp (by simp))).1
      rw [g i hi', g j hj'] at h1
      simpa using h1
    have s1 := Heap.SameBut.update s.heap kS (Obj.mapSeq fun _ => (#[] : Array Value))
    have na1 : (s.heap.update kS (Obj.mapSeq fun _ => (#[] : Array Value))).get? a = some (seqObj "list" #[] e1) := (s1.2 a hka.symm).trans ha
    have s2 := Heap.SameBut.update (s.heap.update kS (Obj.mapSeq fun _ => (#[] : Array Value))) a (Obj.mapSeq fun _ => (arrOf st).map (·.2))
    obtain ⟨c, hc⟩ : ∃ c, ((s.heap.update kS (Obj.mapSeq fun _ => (#[] : Array Value))).update a (Obj.mapSeq fun _ => (arrOf st).map (·.2))).get? a = some (seqObj "list" ((arrOf st).map (·.2)) c) := ⟨_, get?_update_seq na1 fun _ => (arrOf st).map (·.2)⟩
    unfold ksk_tail
    dsimp only
    refine wpAny_bind (listUpdate_at hk rfl ?_ (by rw [List.size_toArray, hlk, sizeLine_eq]; omega) (Nat.zero_le _))
    refine wpAny_bind (wpAny_letGo ?_)
    refine wpAny_bind (seqEpoch_at na1 rfl ?_)
    refine wpAny_bind (listUpdate_at na1 rfl ?_ (Nat.zero_le _) (by simp only [Bool.false_eq_true, if_false, Array.size_map]; rw [hss, sizeLine_eq]; omega))
    rw [hf]
    simp only [bne_self_eq_false, Bool.false_eq_true, if_false]
    refine wpAny_pure (h _ _ ((arrOf st).map (·.2)).toList c (fun b o q => ?_) ?_ fun P h => ?_)
    · have q1 := kheap k0 b o q
      exact (s2.2 b (by rintro rfl; rw [ha0] at q; cases q)).trans ((s1.2 b (by rintro rfl; rw [hk0] at q; cases q)).trans q1)
    · rw [hc]
    · have := rows_reps (P := P) (h := h) hob
      rw [hq] at this; exact this
  unfold ksk_end
  dsimp only
  simp only [Bool.false_eq_true, if_false]
  by_cases h2 : vs.toArray.size < 2
  · rw [if_pos h2, if_pos h2]
    refine wpAny_bind (wpAny_pure ?_)
    rw [StateT.run_pure]
    refine wpAny_bind (wpAny_pure (tail (SortSt.mk' general' (keys.toArray.zip vs.toArray) #[] 7 none) (Array.Perm.refl _) rfl fun i j hij hj => ?_))
    rw [List.size_toArray, hlv] at h2
    rw [hzs] at hj
    omega
  · rw [if_neg h2, if_neg h2]
    rw [List.size_toArray, hlv] at h2
    obtain ⟨v₁, v₂, rest, ek⟩ : ∃ v₁ v₂ rest, keys = v₁ :: v₂ :: rest := by
      match keys, hlk with
      | [], hlk => exact absurd hlk (by rw [List.length_nil]; omega)
      | [_], hlk => exact absurd hlk (by rw [List.length_cons, List.length_nil]; omega)
      | v₁ :: v₂ :: rest, _ => exact ⟨v₁, v₂, rest, rfl⟩
    have hal : ∀ v ∈ keys, s.TypeIs v "list" := fun v hv => by
      obtain ⟨l, _, r⟩ := reps_get rk_ hv
      replace r := r.inv; cases r with
      | @list b us n _ eb _ => exact ⟨_, eb, rfl⟩
    subst ek
    refine wpAny_bind (kind_lists hal ?_)
    refine wpAny_bind (wpAny_mono (runs horc hdst (st := SortSt.mk' oneType' ((v₁ :: v₂ :: rest).toArray.zip vs.toArray) #[] 7 none)
      (Q := fun _ st' => (arrOf st').Perm ((v₁ :: v₂ :: rest).toArray.zip vs.toArray) ∧ failedOf st' = none ∧ Up (rkOf s.heap) (arrOf st') ((v₁ :: v₂ :: rest).toArray.zip vs.toArray).size)
      ⟨Array.Perm.refl _, rfl, rfl, rfl⟩ (by rw [hzs]; omega) (by rw [hzs]; exact h64) fun st' a1 a2 a3 => ⟨a1, a2, a3⟩) ?_ fun _ _ e => e)
    rintro ⟨⟨⟩, st'⟩ s' ⟨rfl, hp, hf, hs⟩
    exact tail st' hp hf hs

theorem sort_keys {f : Value} {m : Nat} (k0 : Keeps s0 s) (B : Bs (KK w) s0.heap) (R : Room true m A) (ha0 : s0.heap.get? a = none) (hk0 : s0.heap.get? kS = none) (hka : kS ≠ a) (ha : s.heap.get? a = some (lobj [] e1)) (hk : s.heap.get? kS = some (lobj [] e))
    {O' : Addr → Prop} {h' : Heap} (rv : Reps O' h' vs (ls.map D.bytes)) (hn : (ls.map rk).Nodup) (h64 : ls.length < 64)
    (hf : ∀ l ∈ ls, Spec prog w (KK w) m f [.bytes l] [] (.list ((rk l).map D.int)))
    (h : ∀ h' tk out c, (∀ b o, s0.heap.get? b = some o → h'.get? b = some o) → h'.get? a = some (lobj out c) → (∀ (P : Addr → Prop) h, Reps P h out ((sortR rk ls).map D.bytes)) → Q (.done (.ret .none)) { s0 with heap := h', toks := tk }) :
    wpAny (model prog w) A (ksk_rest a f false vs.toArray e1 (.ref kS)) Q E s := by
  have hlv : vs.length = ls.length := by rw [rv.length, List.length_map]
  obtain ⟨hrow, hby⟩ := reps_rows rv
  have hu : A.units < cLine := R.cl
  let O : Addr → Prop := fun b => b = a ∨ b = kS
  unfold ksk_rest
  refine wpAny_bind (wpAny_rule ?_)
  rw [List.forIn_toArray]
  refine wpAny_bind (ksk_fold (fun i s' => Keeps s0 s' ∧ s'.heap.get? a = some (lobj [] e1) ∧ ∃ keys e, s'.heap.get? kS = some (lobj keys e) ∧ Reps O s'.heap keys ((ls.take i).map fun l => D.list ((rk l).map D.int))) vs 0 s
    ⟨k0, ha, [], e, hk, .nil⟩ (fun j x s' hx hI => ?_) fun s' hI => ?_)
  · obtain ⟨k1, ha1, keys, e2, hk1, rks⟩ := hI
    rw [Nat.zero_add] at rks ⊢
    have hj : j < ls.length := by rw [← hlv]; exact (List.getElem?_eq_some_iff.mp hx).1
    obtain ⟨d, hd, rx⟩ := rv.get' hx
    rw [List.getElem?_map, List.getElem?_eq_getElem hj] at hd
    cases hd
    have hdom : ∀ b, O b → ∃ o, s'.heap.get? b = some o := by
      rintro b (rfl | rfl)
      · exact ⟨_, ha1⟩
      · exact ⟨_, hk1⟩
    refine wpAny_bind (wpAny_attempt (wpAny_mono (hf ls[j] (List.getElem_mem _) s' A O [x] [] (fun _ _ => False) (B.keeps (kheap k1)) R hdom (.one (rx.imm rfl)) .nil) (fun v s'' q => ?_) fun _ _ hF => hF.elim))
    obtain ⟨k2, rq⟩ := q
    have hk2 := kheap k2 _ _ hk1
    have ha2 := kheap k2 _ _ ha1
    have hlk : keys.length ≤ ls.length := by
      rw [rks.length, List.length_map, List.length_take]; omega
    have s1 := Heap.SameBut.update s''.heap kS (Obj.mapSeq (·.push v))
    obtain ⟨c2, hc2⟩ : ∃ c2, (s''.heap.update kS (Obj.mapSeq (·.push v))).get? kS = some (seqObj "list" (keys.toArray.push v) c2) := ⟨_, get?_update_seq hk2 (·.push v)⟩
    dsimp only
    refine wpAny_bind (listUpdate_at hk2 rfl ?_ (by rw [List.size_toArray, sizeLine_eq]; omega) (by rw [Array.size_push, List.size_toArray, sizeLine_eq]; omega))
    refine wpAny_pure ⟨rfl, ?_, (s1.2 a hka.symm).trans ha2, keys ++ [v], c2, ?_, ?_⟩
    · have k3 := ktrans k1 k2
      obtain ⟨h3, t3, rfl, q3⟩ := k3
      refine ⟨_, t3, rfl, fun b o q => (s1.2 b ?_).trans (q3 b o q)⟩
      rintro rfl; rw [hk0] at q; cases q
    · rw [hc2]; simp [lobj]
    · rw [List.take_add_one, List.getElem?_eq_getElem hj, List.map_append]
      have mv : ∀ b o, ¬ O b → s''.heap.get? b = some o → isSeq o = true → (s''.heap.update kS (Obj.mapSeq (·.push v))).get? b = some o := fun b o nb q _ => (s1.2 b fun z => nb (.inr z)).trans q
      exact ((rks.keeps (kheap k2)).mono (fun _ q => q) mv).append (.one (rq.mono (fun _ q => q) mv))
  · obtain ⟨k1, ha1, keys, e2, hk1, rks⟩ := hI
    rw [Nat.zero_add, hlv, List.take_length] at rks
    refine wpAny_bind (listItems_at hk1 rfl ?_)
    refine sort_end k1 ha0 hk0 hka ha1 hk1 rks rv hn h64 hu fun h3 tk out c q1 q2 q3 => ?_
    obtain ⟨h4, t4, rfl, _⟩ := k1
    exact h h3 tk out c q1 q2 q3
end

theorem sp_sortedKey {m : Nat} {g : Addr} (ls : List (List UInt8)) (rk : List UInt8 → List Int) (hz : ls.length < 64) (hn : (ls.map rk).Nodup)
    (hf : ∀ l ∈ ls, Spec prog w (KK w) m (.ref g) [.bytes l] [] (.list ((rk l).map D.int))) :
    Spec prog w (KK w) (m + 2) (.builtin "sorted") [.list (ls.map D.bytes)] [("key", .raw (.ref g))] (.list ((sortR rk ls).map D.bytes)) := by
  intro s A O us ks E B R hdom rus rks
  replace rus := rus.inv; cases rus with | @cons v _ rv rus =>
  replace rus := rus.inv; cases rus
  replace rks := rks.inv; cases rks with | @cons kv _ rkv rks =>
  replace rks := rks.inv; cases rks
  replace rkv := rkv.inv; cases rkv
  replace rv := rv.inv; cases rv with
  | @list l vs n0 hO el rv =>
    have hlv : vs.length = ls.length := by rw [rv.length, List.length_map]
    have hl : s.heap.IsList l vs.toArray := ⟨_, el, rfl, n0, rfl⟩
    show wpAny _ _ (call (.builtin "sorted") [.ref l] [(Str.ofString "key", .ref g)]) _ _ s
    refine call_function_entry_kw kind_sorted plain_sorted entry_sorted (ksk_s1 _ _) ?_
    unfold Builtin.«sorted»
    refine wpAny_bind (m := checkCount "sorted" 1 1 _) (wpAny_pure ?_)
    refine wpAny_bind (collect_list hl ?_ (by rw [sizeLine_eq]; omega))
    refine wpAny_bind (wpAny_newList ?_ (by rw [sizeLine_eq]; omega))
    generalize hH : (s.heap.push (seqObj "list" #[] 0)).update s.heap.objs.size (Obj.mapSeq (· ++ vs.toArray)) = H
    have hsz : H.objs.size = s.heap.objs.size + 1 := by rw [← hH, Heap.size_update, size_push']
    have hoL : (H.push (lobj vs 0)).get? H.objs.size = some (lobj vs 0) := Heap.get?_push_size _ rfl
    have keep : ∀ b o, s.heap.get? b = some o → (H.push (lobj vs 0)).get? b = some o := fun b o q => by
      have hlt : b < s.heap.objs.size := Heap.lt_size q
      rw [Heap.get?_push_ne _ _ _ (by rw [hsz]; exact Nat.ne_of_lt (Nat.lt_succ_of_lt hlt)), ← hH, Heap.get?_update_ne _ _ _ _ (Nat.ne_of_lt hlt), Heap.get?_push_ne _ _ _ (Nat.ne_of_lt hlt)]
      exact q
    show wpAny _ _ _ _ _ { s with heap := H.push (lobj vs 0) }
    have hnew : s.heap.get? H.objs.size = none := by
      cases q : s.heap.get? H.objs.size with
      | none => rfl
      | some o => exact absurd (Heap.lt_size q) (by rw [hsz]; exact Nat.not_lt.mpr (Nat.le_succ _))
    refine wpAny_bind (wpAny_holding (wpAny_call_entry_kw slot_list_sort ⟨_, hoL, rfl⟩ entry_list_sort ?body (ksk_l1 _ _)))
    show wpAny _ _ (Builtin.«list.sort» ⟨[.ref H.objs.size], [(Str.ofString "key", .ref g)]⟩) _ _ _
    rw [ksk_t1]
    generalize hH2 : H.push (lobj vs 0) = H2 at *
    have s1 := Heap.SameBut.update H2 H.objs.size (Obj.mapSeq fun _ => (#[] : Array Value))
    obtain ⟨e1, ho1⟩ : ∃ e1, (H2.update H.objs.size (Obj.mapSeq fun _ => (#[] : Array Value))).get? H.objs.size = some (seqObj "list" #[] e1) := ⟨_, get?_update_seq hoL fun _ => #[]⟩
    unfold ksk_tree
    refine wpAny_bind (listItems_at hoL rfl ?_)
    refine wpAny_bind (listUpdate_at hoL rfl ?_ (by rw [List.size_toArray, sizeLine_eq]; omega) (Nat.zero_le _))
    refine wpAny_bind (seqEpoch_at ho1 rfl ?_)
    refine wpAny_bind (wpAny_newTuple ?_ (by show vs.length ≤ _; rw [sizeLine_eq]; omega))
    refine wpAny_bind (wpAny_newList ?_ (Nat.zero_le _))
    refine wpAny_holding ?_
    generalize hH3 : H2.update H.objs.size (Obj.mapSeq fun _ => (#[] : Array Value)) = H3 at *
    have hs3 : H3.objs.size = s.heap.objs.size + 2 := by rw [← hH3, Heap.size_update, ← hH2, Heap.size_push, hsz]
    generalize hH4 : H3.push (tobj vs 0) = H4
    have hs4 : H4.objs.size = s.heap.objs.size + 3 := by rw [← hH4, Heap.size_push, hs3]
    have g3 : ∀ b o, b ≠ H.objs.size → H2.get? b = some o → H3.get? b = some o := fun b o hb q => (s1.2 b hb).trans q
    have kk : ∀ b o, s.heap.get? b = some o → (H4.push (lobj [] 0)).get? b = some o := fun b o q => by
      refine Heap.get?_push_of_some _ ?_
      rw [← hH4]
      exact Heap.get?_push_of_some _ (g3 b o (by rintro rfl; rw [hnew] at q; cases q) (keep b o q))
    have hk4 : s.heap.get? H4.objs.size = none := by
      cases q : s.heap.get? H4.objs.size with
      | none => rfl
      | some o => exact absurd (Heap.lt_size q) (by rw [hs4]; exact Nat.not_lt.mpr (Nat.le_add_right _ _))
    have ha4 : (H4.push (lobj [] 0)).get? H.objs.size = some (lobj [] e1) := by
      refine Heap.get?_push_of_some _ ?_
      rw [← hH4]; exact Heap.get?_push_of_some _ ho1
    show wpAny _ _ (ksk_rest H.objs.size (.ref g) false vs.toArray e1 (.ref H4.objs.size)) _ _ { s with heap := H4.push (lobj [] 0) }
    refine sort_keys (s0 := s) (rk := rk) ⟨_, _, rfl, kk⟩ B (R.in1.in1) hnew hk4 (by intro z; rw [hs4, hsz] at z; have : s.heap.objs.size + 3 = s.heap.objs.size + 1 := z; omega) ha4 (Heap.get?_push_size _ rfl) rv hn hz hf fun h' tk out c q1 q2 q3 => ?_
    refine ⟨_, rfl, wpAny_pure ⟨_, rfl, ⟨h', tk, rfl, q1⟩, .list (fun q => ?_) q2 (q3 _ _)⟩⟩
    obtain ⟨o, q⟩ := hdom _ q
    rw [hnew] at q; cases q
end
-- F18
section
set_option maxRecDepth 100000
set_option maxHeartbeats 1000000
variable {prog : Program} {w : World}
section
variable {n : Nat} {env : Env} {σ : Sto}
theorem rep_bytes_at {P : Addr → Prop} {h : Heap} {vs : List Value} {ls : List (List UInt8)} (r : Reps P h vs (ls.map D.bytes)) {i : Nat} {v : Value} (e : vs[i]? = some v) : ∃ l, ls[i]? = some l ∧ ∀ Pr h, Rep Pr h v (.bytes l) := by
  obtain ⟨d, hd, rd⟩ := r.get' e
  rw [List.getElem?_map] at hd
  cases q : ls[i]? with
  | none => rw [q] at hd; cases hd
  | some l => rw [q] at hd; cases hd; exact ⟨l, rfl, fun _ _ => rd.imm rfl⟩

/-- for x, y in enumerate(a list of bytes) -/
theorem Ex.forEnum {x y z : Str} {px py zp tp np cp pos : Pos} {c : Nat} {body : List Stmt} {ls : List (List UInt8)} (f : Nat → Sto) (hz : σ.lookup z = some (.v (.list (ls.map D.bytes)))) (hzd : (z == ("__debug__" : Str)) = false) (hen : Ev prog w (KK w) true n env σ (.Name "enumerate" np) (.raw (.type "enumerate")))
    (h0 : subSto (f 0) σ) (hx : Storable env x) (hy : Storable env y)
    (hb : ∀ i l, ls[i]? = some l → Goes prog w (KK w) true n env (Sto.set (Sto.set (f i) x (.v (.int (i : Nat)))) y (.v (.bytes l))) body (f (i + 1))) :
    Ex prog w (KK w) true n env σ (.For (.Tuple [.Name x px, .Name y py] c tp) (.Call (.Name "enumerate" np) [.Name z zp] [] cp) body [] pos) (.next (f ls.length)) := by
  intro sE kp O ad s A E F W R
  have hh : A.handled = none := R.hand rfl
  obtain ⟨v, hv, rv⟩ := F.vals z _ hz
  replace rv := rv.inv; cases rv with
  | @list l vs m hlP el rv =>
  have hlen : vs.length = ls.length := by rw [rv.length, List.length_map]
  refine wpAny_For (wpAny_Call_Name_kw (wpAny_mono (hen sE kp O ad s A E F R) (fun fv s₁ ⟨k, r1⟩ => ?_) fun _ _ x => x))
  replace r1 := r1.inv; cases r1
  have F1 := F.keeps k
  have W1 := W.keeps k
  have hv1 := hv.keeps (kheap k)
  have el1 := kheap k _ _ el
  have hst : ∀ x ∈ backTo cp (starEach [Expr.Name z zp] env), x.1 = false := by
    rw [starEach_cons rfl]
    intro x hx
    rcases List.mem_cons.mp hx with rfl | hx
    · rfl
    · cases hx
  refine callWith_g hst rfl ?_
  rw [starEach_cons rfl]
  refine Calls.spliced_cons (wpAny_Name (load_var F1 hv1 (Calls.spliced_nil (wpAny_evalAll_nil ⟨.inl (fun _ => by simp), ?_⟩))) hzd)
  refine call_enumerate_list (items := vs.toArray) ⟨_, el1, rfl, m, rfl⟩ fun h₂ he hit hsz hk₂ => ?_
  refine wpAny_pyIter_enum he ?_
  have hn0 : s₁.heap.get? s₁.heap.objs.size = none := none_size _
  have hn1 : s₁.heap.get? (s₁.heap.objs.size + 1) = none := by
    cases q : s₁.heap.get? (s₁.heap.objs.size + 1) with
    | none => rfl
    | some o => exact absurd (Heap.lt_size q) (Nat.not_lt.mpr (Nat.le_succ _))
  generalize hI : s₁.heap.objs.size = I at *
  have hIe : I + 1 ≠ I := Nat.succ_ne_self _
  have hle : l ≠ I + 1 := by rintro rfl; rw [hn1] at el1; cases el1
  have hli : l ≠ I := by rintro rfl; rw [hn0] at el1; cases el1
  have WT := WalksT.enumerate (prog := prog) (w := w) hh (I + 1) I l hIe hle hli vs.toArray
  have k2 : Keeps s₁ { s₁ with heap := h₂ } := ⟨h₂, s₁.toks, rfl, hk₂⟩
  have F2 := (F1.keeps k2).sub h0
  have W2 := (W1.keeps k2).sub h0
  have hwk : ∀ b ∈ [I + 1, I], kp b = none := fun b hb => by
    have : s₁.heap.get? b = none := by
      rcases List.mem_cons.mp hb with rfl | hb
      · exact hn1
      · rw [List.mem_singleton.mp hb]; exact hn0
    cases q : kp b with
    | none => rfl
    | some o => have := F1.kept _ _ q; simp_all
  have hpf0 : ∀ b ∈ [I + 1, I, l], ¬ Pf O (f 0) ad b := fun b hb q => by
    have q' : Pf O σ ad b := by
      rcases q with q | ⟨y, es, e, q⟩
      · exact .inl q
      · exact .inr ⟨y, es, h0 _ _ e, q⟩
    rcases List.mem_cons.mp hb with rfl | hb
    · exact F1.notPf hn1 q'
    · rcases List.mem_cons.mp hb with rfl | hb
      · exact F1.notPf hn0 q'
      · rw [List.mem_singleton.mp hb] at q'; exact hlP q'
  let St : Nat → Heap → Prop := fun i h => (∃ old, IsEnum h (I + 1) I i old) ∧ h.IsListIter I l i ∧ h.IsList l vs.toArray
  have hob : ∀ i h, St i h → ∀ b ∈ [I + 1, I, l], ∃ o, h.get? b = some o ∧ notFrame o = true ∧ (b ∈ [I + 1, I] → isSeq o = false) := by
    rintro i h ⟨⟨old, he⟩, ⟨oi, e1, _, d1⟩, ⟨ol, e2, _, m2, d2⟩⟩ b hb
    rcases List.mem_cons.mp hb with rfl | hb
    · exact ⟨_, he, rfl, fun _ => rfl⟩
    · rcases List.mem_cons.mp hb with rfl | hb
      · exact ⟨oi, e1, by unfold notFrame; rw [d1], fun _ => by unfold isSeq; rw [d1]⟩
      · rw [List.mem_singleton.mp hb]
        exact ⟨ol, e2, by unfold notFrame; rw [d2], fun q => by
          rcases List.mem_cons.mp q with q | q
          · exact absurd q hle
          · exact absurd (List.mem_singleton.mp q) hli⟩
  refine codeAny_forLoop_any (fun m s' => ∃ i ad', m = ls.length - i ∧ i ≤ ls.length ∧ FR (KK w) sE kp O env (f i) ad' s' ∧ FW kp env (f i) ad' s' ∧ St i s'.heap ∧ ∀ b ∈ [I + 1, I, l], ¬ Pf O (f i) ad' b) ?_ ls.length
    ⟨0, ad, rfl, Nat.zero_le _, F2, W2, ⟨⟨_, he⟩, hit, ⟨_, hk₂ _ _ el1, rfl, m, rfl⟩⟩, hpf0⟩
  rintro m s₃ ⟨i, ad₃, rfl, hile, F₃, W₃, hst₃, hpf₃⟩
  have hw₃ : ∀ b ∈ [I + 1, I], ∃ o, s₃.heap.get? b = some o ∧ notFrame o = true ∧ isSeq o = false := fun b hb => by
    obtain ⟨o, e, nf, q⟩ := hob i _ hst₃ b (WT.sub b hb)
    exact ⟨o, e, nf, q hb⟩
  by_cases hlt : i < ls.length
  · refine WT.item i s₃ _ _ (by rw [List.size_toArray, hlen]; exact hlt) hst₃ fun T vals h₄ tk₄ hPt _ hT hMid hk₄ => ?_
    obtain ⟨t, x₀, hx₀, rfl⟩ := hPt
    refine WT.go _ c tp i T _ _ _ hMid fun h₅ hst₅ hk₅ => ?_
    obtain ⟨lr, hlr, hrep⟩ := rep_bytes_at rv (i := i) (v := x₀) (by simpa using hx₀)
    have hT₅ : h₅.IsTuple T #[.int i t, x₀] := hT.at fun o e => hk₅ T o (WT.apart i T h₄ hMid) e
    obtain ⟨F₅, W₅⟩ := iter_moved (tk := tk₄) F₃ W₃ hw₃ hwk (fun b o hb e => hk₅ b o hb (hk₄ b o hb e))
    refine wpAny_assign_Tuple hh hT₅ rfl rfl fun h₆ hx₆ => ?_
    have up₆ : ∀ b o, h₅.get? b = some o → h₆.get? b = some o := fun b o e => hx₆ b o (Nat.ne_of_lt (Heap.lt_size e)) e
    have k₆ : Keeps ({ s₃ with heap := h₅, toks := tk₄ } : Shared) { s₃ with heap := h₆, toks := tk₄ } := ⟨h₆, tk₄, rfl, up₆⟩
    have F₆ := F₅.keeps k₆
    have W₆ := W₅.keeps k₆
    have hst₆ : St (i + 1) h₆ := WT.frame _ _ _ hst₅ fun b _ o e => up₆ b o e
    have hob₆ : ∀ b ∈ [I + 1, I, l], ∃ o, h₆.get? b = some o ∧ notFrame o = true := fun b hb => let ⟨o, e, nf, _⟩ := hob _ _ hst₆ b hb; ⟨o, e, nf⟩
    obtain ⟨F₇, W₇⟩ := kp_up (fp := [I + 1, I, l]) F₆ W₆ hob₆ hpf₃
    have up : ∀ a o, kp a = some o → kpWith kp [I + 1, I, l] h₆ a = some o := fun a o e => by
      unfold kpWith; split
      · exact F₆.kept a o e
      · exact e
    have hfp : ∀ b ∈ [I + 1, I, l], ∃ o, h₆.get? b = some o ∧ kpWith kp [I + 1, I, l] h₆ b = some o := fun b hb => by
      obtain ⟨o, e, _⟩ := hob₆ b hb
      exact ⟨o, e, by unfold kpWith; rw [if_pos hb]; exact e⟩
    have ae := (assignEach_names (env := env) [(x, px), (y, py)]).1
    show wpAny _ A (assignInOrder ((assignEach ([(x, px), (y, py)].map nameT) env).map (·.2)) [.int i t, x₀]) _ _ _
    rw [ae]
    refine assignInOrder_cons (wpAny_assign_Name (store F₇.kd W₇ hx fun s₈ S₈ => ?_))
    obtain ⟨F₈, W₈⟩ := set_v (d := .int (i : Nat)) F₇ W₇ S₈ (.int _ _)
    refine assignInOrder_cons (wpAny_assign_Name (store F₈.kd W₈ hy fun s₉ S₉ => ?_))
    obtain ⟨F₉, W₉⟩ := set_v (d := .bytes lr) F₈ W₈ S₉ (hrep _ _)
    refine assignInOrder_nil ?_
    have fin : ∀ (s₁₀ : Shared) (ad₁₀ : Str → Addr), FR (KK w) sE (kpWith kp [I + 1, I, l] h₆) O env (f (i + 1)) ad₁₀ s₁₀ → FW (kpWith kp [I + 1, I, l] h₆) env (f (i + 1)) ad₁₀ s₁₀ →
        ∃ m, m < ls.length - i ∧ ∃ i' ad', m = ls.length - i' ∧ i' ≤ ls.length ∧ FR (KK w) sE kp O env (f i') ad' s₁₀ ∧ FW kp env (f i') ad' s₁₀ ∧ St i' s₁₀.heap ∧ ∀ b ∈ [I + 1, I, l], ¬ Pf O (f i') ad' b := fun s₁₀ ad₁₀ Fz Wz => by
      obtain ⟨Fd, Wd⟩ := kp_down Fz Wz up F₃.bs F₃.dom
      refine ⟨ls.length - (i + 1), by omega, i + 1, ad₁₀, rfl, hlt, Fd, Wd, ?_, ?_⟩
      · refine WT.frame _ _ _ hst₆ fun b hb o e => ?_
        obtain ⟨o', e', kb⟩ := hfp b hb
        rw [e] at e'; cases e'
        exact Fz.kept b o kb
      · rintro b hb (q | ⟨y, es, e, q⟩)
        · exact hpf₃ b hb (.inl q)
        · obtain ⟨_, _, kb⟩ := hfp b hb
          have := (Fz.owns y es e).2.1
          rw [q, kb] at this; cases this
    rcases hb i lr hlr with hb | hb
    · refine wpAny_mono (hb sE _ O ad₃ s₉ A _ F₉ W₉ R) (fun fl s₁₀ q => ?_) fun _ _ x => x
      obtain ⟨rfl, ad₁₀, Fz, Wz⟩ := q
      exact fin s₁₀ ad₁₀ Fz Wz
    · refine wpAny_mono (hb sE _ O ad₃ s₉ A _ F₉ W₉ R) (fun fl s₁₀ q => ?_) fun _ _ x => x
      obtain ⟨rfl, ad₁₀, Fz, Wz⟩ := q
      exact fin s₁₀ ad₁₀ Fz Wz
  · have hin : i = ls.length := by omega
    subst hin
    have hst' : St vs.toArray.size s₃.heap := by rw [List.size_toArray, hlen]; exact hst₃
    refine WT.done s₃ _ _ hst' fun h₄ tk₄ hk₄ => ?_
    obtain ⟨F₄, W₄⟩ := iter_moved (tk := tk₄) F₃ W₃ hw₃ hwk hk₄
    exact wpAny_execs_nil ⟨rfl, ad₃, F₄, W₄⟩
end
end
-- F19
section
set_option maxRecDepth 100000
set_option maxHeartbeats 1000000
variable {prog : Program} {w : World}
noncomputable def isIn (l : List Row) (x : Row) : Bool := l.any (· == x)
noncomputable def aboveL (order other : List Row) (k : Nat) : List Row := (order.drop (k + 1)).filter (isIn other)
noncomputable def lkStep (shelf other order : List Row) (k : Nat) (row : Row) : List Row :=
  if isIn other row = true then [] else List.replicate (if (aboveL order other k).isEmpty = true then shelf.count row else min (shelf.count row) 1) row
noncomputable def lackTo (shelf other order : List Row) : Nat → List Row
  | 0 => []
  | i + 1 => lackTo shelf other order i ++ (match order[i]? with
    | some row => lkStep shelf other order i row
    | none => [])
noncomputable def lacking (shelf other order : List Row) : List Row := lackTo shelf other order order.length
theorem lkStep_len (shelf other order : List Row) (k : Nat) (row : Row) : (lkStep shelf other order k row).length ≤ shelf.length := by
  have := List.count_le_length (a := row) (l := shelf)
  unfold lkStep
  split
  · simp
  · rw [List.length_replicate]; split <;> omega
theorem lackTo_len (shelf other order : List Row) : ∀ i, (lackTo shelf other order i).length ≤ i * shelf.length
  | 0 => by simp [lackTo]
  | i + 1 => by
    unfold lackTo
    rw [List.length_append, Nat.succ_mul]
    have h1 := lackTo_len shelf other order i
    have h2 : (match order[i]? with | some row => lkStep shelf other order i row | none => []).length ≤ shelf.length := by
      split
      · exact lkStep_len ..
      · simp
    omega
noncomputable def lkS (shelf other order : List Row) (i : Nat) : Sto := [("order", .v (.list (dRows order))), ("other", .v (.list (dRows other))), ("shelf", .v (.list (dRows shelf))), ("kept", .o (dRows (lackTo shelf other order i)))]
noncomputable def sndB : D → D := id
noncomputable def inB (l : List Row) : D → Bool
  | .bytes x => isIn l x
  | _ => false
theorem filt_rows (l m : List Row) : (dRows m).filter (inB l) = dRows (m.filter (isIn l)) := by
  induction m with
  | nil => rfl
  | cons a r ih =>
    show List.filter (inB l) (.bytes a :: dRows r) = _
    rw [List.filter_cons, List.filter_cons, ih]
    show (if isIn l a = true then _ else _) = _
    split <;> rfl
theorem sp_lacking (shelf other order : List Row) (h1 : shelf.length ≤ 100) (h2 : order.length ≤ 100) :
    Spec prog w (KK w) 9 (.ref 207) [.list (dRows shelf), .list (dRows other), .list (dRows order)] [] (.list (dRows (lacking shelf other order))) := by
  refine Spec.fn (n := 8) 207 (bd := [("shelf", .list (dRows shelf)), ("other", .list (dRows other)), ("order", .list (dRows order))]) (by kernel_rfl) (body := ?b) ?hb (by kernel_rfl) (by kernel_rfl) (by kernel_rfl) (by kernel_rfl) (by kernel_rfl) (by kernel_rfl) (by kernel_rfl) (by kernel_rfl) (.three fun v u t => by kernel_rfl) ?h
  case hb => rfl
  intro L
  with_reducible refine Exs.cons (Ex.newlist ?n1) ?_
  case n1 => exact .inl rfl
  with_reducible refine Exs.cons (Ex.forEnum (z := "order") (ls := order) (lkS shelf other order) ?e1 ?e2 ?e3 ?e4 ?e5 ?e6 ?e7) ?_
  case e1 => rfl
  case e2 => decide
  case e3 => (((with_reducible refine' Ev.blt ?z200.mbn1 ?z200.mbn2 ?z200.mbn3 ?z200.mbn4 ?z200.mbn5); (case z200.mbn1 => kernel_rfl); (case z200.mbn2 => boot_fact); (case z200.mbn3 => decide); (case z200.mbn4 => rfl); (case z200.mbn5 => decide)))
  case e4 => exact subSto.refl _
  case e5 => exact .inl rfl
  case e6 => exact .inl rfl
  case e7 =>
    intro i row hrow
    have hi : i < order.length := (List.getElem?_eq_some_iff.mp hrow).1
    have hlen := lackTo_len shelf other order i
    have hc := List.count_le_length (a := row) (l := shelf)
    have hmul : i * shelf.length ≤ 100 * 100 := Nat.mul_le_mul (by omega) h1
    refine .inl (Exs.sub ?_ (subSto.app (τ := ([("k", PV.v (D.int (i : Nat))), ("row", PV.v (D.bytes row)), ("many", PV.v (D.int (shelf.count row : Nat))), ("above", PV.o (dRows (aboveL order other i)))] : Sto))))
    with_reducible refine Exs.cons (Ex.assign (d := .int (shelf.count row : Nat)) ?v1 ?hx ?hi ?hq) ?_
    case hx => exact .inl rfl
    case hi => exact .inl rfl
    case hq => rfl
    case v1 => exact Ev.meth (n := 7) (by walk_at "me") (Evs.cons rfl (by walk_at "me") Evs.nil) typ_list rfl (by decide) rfl PySem.F.plainAttrs_list PySem.F.slot_list_count PySem.F.type_list_count sp_count
    with_reducible refine' Exs.cons (Ex.compOwn (σf := [("other", .v (.list (dRows other)))]) (ds := dRows (order.drop (i + 1))) (p := inB other) (r := sndB) ?c1 ?c2 ?c3 ?c4 ?c5 ?c6 ?c7 ?c8 ?c9 ?c10) ?_
    case c1 =>
      refine ItrE.list (Ev.mono (Ev.sliceFrom (k := ((i + 1 : Nat) : Int)) (by walk_at "me") (Ev.mono (Ev.bin (by walk_at "me") (by walk_at "me") Bop.add) (by congr 1)) (Int.natCast_nonneg _) ?s1 ?s2) ?s3)
      case s1 => rw [Int.toNat_natCast, List.length_map]; omega
      case s2 => rw [List.length_map]; omega
      case s3 => rw [Int.toNat_natCast]; unfold dRows; rw [List.map_drop]
    case c4 => rfl
    case c3 => rw [List.length_map, List.length_drop]; omega
    case c5 => decide
    case c6 => exact fun _ => rfl
    case c7 => kernel_rfl
    case c8 => exact .inl rfl
    case c2 =>
      refine ⟨rfl, fun C => .inl rfl, fun C c h => absurd (show some NameKind.local = some NameKind.cell from h) (by decide), ?_, fun C d hd => ?_, ?_⟩
      · intro C y pv h
        obtain ⟨rfl, rfl⟩ := look1 h
        exact ⟨rfl, ⟨_, rfl⟩, ⟨.inl rfl, .inl rfl, rfl⟩, by decide⟩
      · obtain ⟨x, hx, rfl⟩ := List.mem_map.mp hd
        refine Tests.one (Tr.cmp (d1 := .bytes x) (d2 := .list (dRows other)) ?ta ?tb Cop.inB rfl)
        · walk_at "me"
        · walk_at "me"
      · intro C d hd _
        obtain ⟨x, hx, rfl⟩ := List.mem_map.mp hd
        show Ev _ _ _ _ _ _ _ _ (.bytes x)
        walk_at "me"
    case c9 =>
      intro y c hl
      have e : (fenv w 207 L).cells = [(("other" : Str), L + 1)] := rfl
      rw [e, List.lookup_cons] at hl
      split at hl
      · rename_i q; rw [beq_iff_eq] at q; subst q; rfl
      · cases hl
    case c10 =>
      rw [filt_rows]
      show ((dRows _).map id).all D.imm = true
      rw [List.map_id]; exact dRows_imm _
    rw [filt_rows, show (dRows ((order.drop (i + 1)).filter (isIn other))).map sndB = dRows (aboveL order other i) from List.map_id _]
    have hfin : ∀ R, R = lackTo shelf other order (i + 1) → Exs prog w (KK w) true 8 (fenv w 207 L) ([("order", .v (.list (dRows order))), ("other", .v (.list (dRows other))), ("shelf", .v (.list (dRows shelf))), ("kept", .o (dRows R)), ("k", PV.v (D.int (i : Nat))), ("row", PV.v (D.bytes row)), ("many", PV.v (D.int (shelf.count row : Nat))), ("above", PV.o (dRows (aboveL order other i)))] : Sto) []
        (.next (lkS shelf other order (i + 1) ++ ([("k", PV.v (D.int (i : Nat))), ("row", PV.v (D.bytes row)), ("many", PV.v (D.int (shelf.count row : Nat))), ("above", PV.o (dRows (aboveL order other i)))] : Sto))) := by
      rintro R rfl
      exact Exs.nil
    with_reducible refine Exs.ite (c := !other.any (· == row)) (Tr.cmp (d1 := .bytes row) (d2 := .list (dRows other)) ?t1 ?t2 Cop.notInB ?t3) (fun h => ?_) (fun h => ?_)
    case t1 => walk_at "me"
    case t2 => walk_at "me"
    case t3 => rfl
    · dsimp only [List.cons_append, List.nil_append]
      have hne : isIn other row = false := by simpa [isIn] using h
      with_reducible refine Exs.cons (Ex.iadd (ds := dRows (lackTo shelf other order i)) (es := dRows (lkStep shelf other order i row)) ?l1 ?v2 ?l3 ?l4 ?l5) ?_
      case l1 => rfl
      case v2 =>
        with_reducible refine Ev.mono (Ev.bin (d1 := .list [.bytes row]) (d2 := .int ((if (aboveL order other i).isEmpty = true then shelf.count row else min (shelf.count row) 1 : Nat) : Int)) ?b1 ?b2 (Bop.mulL (Int.natCast_nonneg _) ?b3 ?b4)) ?b5
        case b1 => exact Ev.list (Evs.cons rfl (by walk_at "me") Evs.nil) (by show 1 ≤ 1000; decide)
        case b3 => split <;> omega
        case b4 => show 1 ≤ 100; decide
        case b5 =>
          rw [Int.toNat_natCast, rep_flat]
          unfold lkStep
          rw [hne]
          simp [dRows]
        case b2 =>
          refine Ev.ite (c := (aboveL order other i).isEmpty) ?i1 (fun q => ?_) (fun q => ?_)
          case i1 =>
            refine Tr.mono (Tr.cmp (d1 := .list (dRows (aboveL order other i))) (d2 := .list []) ?j1 ?j2 Cop.eqNil ?j3) ?j4
            case j1 => walk_at "me"
            case j2 => exact Ev.list Evs.nil (by decide)
            case j3 => rfl
            case j4 => cases aboveL order other i <;> rfl
          · rw [if_pos q]; walk_at "me"
          · rw [if_neg (by rw [q]; exact Bool.false_ne_true)]
            exact Ev.mono (Ev.bfn (n := 7) (by (((with_reducible refine' Ev.blt ?z201.mbn1 ?z201.mbn2 ?z201.mbn3 ?z201.mbn4 ?z201.mbn5); (case z201.mbn1 => kernel_rfl); (case z201.mbn2 => boot_fact); (case z201.mbn3 => decide); (case z201.mbn4 => rfl); (case z201.mbn5 => decide)))) (by nofun) (Evs.cons rfl (by walk_at "me") (Evs.cons rfl (by walk_at "me") Evs.nil)) sp_min) (by congr 1; omega)
      case l3 => exact dRows_imm _
      case l4 =>
        have := lkStep_len shelf other order i row
        simp only [dRows, List.length_map]; omega
      case l5 => exact .inl rfl
      have := hfin _ (show lackTo shelf other order i ++ lkStep shelf other order i row = lackTo shelf other order (i + 1) by
        show _ = _ ++ _
        rw [hrow])
      rw [show dRows (lackTo shelf other order i ++ lkStep shelf other order i row) = dRows (lackTo shelf other order i) ++ dRows (lkStep shelf other order i row) from List.map_append] at this
      exact this
    · dsimp only [List.cons_append, List.nil_append]
      have hne : isIn other row = true := by simpa [isIn] using h
      exact hfin _ (by
        show _ = _ ++ _
        rw [hrow]
        show _ = _ ++ lkStep shelf other order i row
        unfold lkStep
        rw [if_pos hne, List.append_nil])
  exact Exs.stop (Ex.ret (by walk_at "me")) rfl
end
-- F20
section
set_option maxRecDepth 100000
set_option maxHeartbeats 1000000
variable {prog : Program} {w : World}
noncomputable abbrev two2 (elt iter : Expr) (x y : Str) (px py qx : Pos) (ifs : List Expr) (scope : Scope) (pos : Pos) : Expr := .ListComp elt [⟨.Name x px, iter, [], 0⟩, ⟨.Name y py, .Name x qx, ifs, 0⟩] scope pos
section
variable {K : Frag} {n : Nat} {elt iter : Expr} {x y : Str} {px py qx : Pos} {ifs : List Expr} {scope : Scope} {pos : Pos} {it acc : Value} {env : Env}
theorem turn2_in : compTurn (two2 elt iter x y px py qx ifs scope pos) 1 it acc env = (do
      standAt (Expr.Name x qx).pos
      match ← pyNext it with
      | none => pure (.done .next)
      | some v =>
        letOwnedTupleGo (.Name y py) it v
        assign (.Name y py) env v
        let mut ok := true
        for c in ifs do
          if ok then ok ← isTrue c env (eval c env)
        if ok then
          (do let _ ← call (.builtin "list.append") [acc, ← eval elt env])
        again (.compLoop (two2 elt iter x y px py qx ifs scope pos) 1 it acc env)) := by rfl
theorem turn2_out : compTurn (two2 elt iter x y px py qx ifs scope pos) 0 it acc env = (do
      standAt iter.pos
      match ← pyNext it with
      | none => pure (.done .next)
      | some v =>
        letOwnedTupleGo (.Name x px) it v
        assign (.Name x px) env v
        let x' ← eval (.Name x qx) env
        standAt (Expr.Name x qx).pos
        let x' ← foldedSetIterable (.Name x qx) env x'
        let _ ← runOwn (.compStart (two2 elt iter x y px py qx ifs scope pos) 1 (← holding [x'] (pyIter x')) acc env) env
        again (.compLoop (two2 elt iter x y px py qx ifs scope pos) 0 it acc env)) := by rfl

theorem start2_in {A : Around} {R : Result → Shared → Prop} {s : Shared}
    (h0 : codeAny (model prog w) A (.compLoop (two2 elt iter x y px py qx ifs scope pos) 1 it acc env) R s)
    (h : wpAny (model prog w) A (pyIter it) (fun it' s' => codeAny (model prog w) A (.compLoop (two2 elt iter x y px py qx ifs scope pos) 1 it' acc env) R s')
      (notedBy (model prog w) A env fun x s' => R (.error x) s') s) :
    codeAny (model prog w) A (.compStart (two2 elt iter x y px py qx ifs scope pos) 1 it acc env) R s := by
  refine codeAny_of_tree ?_
  show wpAny _ _ ((compStart (two2 elt iter x y px py qx ifs scope pos) 1 it acc env).onRaise (fun x => do noteFrame x env; standAt theWindowsPlace)) _ _ s
  refine wpAny_notedAt ?_
  unfold compStart
  show wpAny _ _ (ask >>= _) _ _ s
  refine wpAny_bind (wpAny_askSetting (wpAny_ite ?_))
  split
  · first
      | exact wpAny_bind (wpAny_pure (wpAny_pure (And.intro rfl h0)))
      | exact wpAny_pure (And.intro rfl h0)
  · first
      | exact wpAny_bind (wpAny_rule (wpAny_bind (wpAny_standAt (wpAny_bind (wpAny_mono h (fun it' s' h' => wpAny_pure (And.intro rfl h')) fun _ _ x => x)))))
      | (refine wpAny_bind (wpAny_rule ?_); show wpAny _ _ (standAt _ >>= _) _ _ s; exact wpAny_bind (wpAny_standAt (wpAny_bind (wpAny_mono h (fun it' s' h' => wpAny_pure (And.intro rfl h')) fun _ _ x => x))))

/-- the inner loop: no test comes out -/
theorem inner2 {sE : Shared} {kp : Kpt} {O : Addr → Prop} {ad : Str → Addr} {s : Shared} {A : Around} {RR : Result → Shared → Prop} {es : List D} (F : FR K sE kp O env [(x, .v (.list es))] ad s) (W : FW kp env [(x, .v (.list es))] ad s) (R : Room true n A)
    (himm : es.all D.imm = true) (hxd : (x == ("__debug__" : Str)) = false) (hxy : (y == x) = false) (hy : Storable env y) (ht : ∀ e ∈ es, Tests prog w K n env [(x, .v (.list es)), (y, .v e)] ifs false)
    (h : ∀ s' ad', FR K sE kp O env [(x, .v (.list es))] ad' s' → FW kp env [(x, .v (.list es))] ad' s' → RR (.ok .next) s') {E : Value → Shared → Prop} :
    wpAny (model prog w) A (eval (.Name x qx) env) (fun x' s₁ => wpAny (model prog w) A (pyIter x') (fun it s₂ => codeAny (model prog w) A (.compStart (two2 elt iter x y px py qx ifs scope pos) 1 it acc env) RR s₂) E s₁) E s := by
  have hlk : List.lookup x ([(x, PV.v (.list es))] : Sto) = some (.v (.list es)) := by rw [List.lookup_cons, beq_self_eq_true]
  refine wpAny_mono (Itr.name (prog := prog) (w := w) (K := K) (n := n) (px := qx) hlk himm hxd sE kp O ad s A E F R) (fun xv s₁ q => wpAny_mono q (fun it s₂ q => ?_) fun _ _ x => x) fun _ _ x => x
  obtain ⟨I, fp, wr, P, St, rfl, Wk, k, hst, hob, hpf, hwr, hP⟩ := q
  have hset : ∀ d, Sto.set ([(x, PV.v (.list es))] : Sto) y (.v d) = [(x, .v (.list es)), (y, .v d)] := fun d => by
    show (if (y == x) = true then _ else _) = _
    rw [hxy]; rfl
  have loop : codeAny (model prog w) A (.compLoop (two2 elt iter x y px py qx ifs scope pos) 1 (.ref I) acc env) RR s₂ := by
    refine codeAny_loop rfl (fun m s' => ∃ i ad', m = es.length - i ∧ i ≤ es.length ∧ FR K sE kp O env [(x, .v (.list es))] ad' s' ∧ FW kp env [(x, .v (.list es))] ad' s' ∧ St i s'.heap ∧ ∀ b ∈ fp, ¬ Pf O [(x, .v (.list es))] ad' b) (fun m s₃ hI => ?_) es.length
      ⟨0, ad, rfl, Nat.zero_le _, F.keeps k, W.keeps k, hst, hpf⟩
    obtain ⟨i, ad₃, rfl, hile, F₃, W₃, hst₃, hpf₃⟩ := hI
    show wpAny _ A ((compTurn (two2 elt iter x y px py qx ifs scope pos) 1 (.ref I) acc env).onRaise (fun x => do noteFrame x env; theTreesLotGoes x)) _ _ _
    refine wpAny_noted ?_
    rw [turn2_in]
    refine wpAny_bind (wpAny_standAt (wpAny_bind ?_))
    have hw₃ : ∀ b ∈ wr, ∃ o, s₃.heap.get? b = some o ∧ notFrame o = true ∧ isSeq o = false := fun b hb => by
      obtain ⟨o, e, nf, q⟩ := hob i _ hst₃ b (Wk.sub b hb)
      exact ⟨o, e, nf, q hb⟩
    by_cases hlt : i < es.length
    · refine Wk.item i s₃ _ _ hlt hst₃ fun v h₄ tk₄ hPv hst₄ hk₄ => ?_
      obtain ⟨F₄, W₄⟩ := iter_moved (tk := tk₄) F₃ W₃ hw₃ hwr hk₄
      obtain ⟨d, hd, hr⟩ := hP i v hPv
      have hob₄ : ∀ b ∈ fp, ∃ o, h₄.get? b = some o ∧ notFrame o = true := fun b hb => let ⟨o, e, nf, _⟩ := hob _ _ hst₄ b hb; ⟨o, e, nf⟩
      obtain ⟨F₅, W₅⟩ := kp_up (fp := fp) F₄ W₄ hob₄ hpf₃
      have up : ∀ a o, kp a = some o → kpWith kp fp h₄ a = some o := fun a o e => by
        unfold kpWith; split
        · exact F₄.kept a o e
        · exact e
      have hfp : ∀ b ∈ fp, ∃ o, h₄.get? b = some o ∧ kpWith kp fp h₄ b = some o := fun b hb => by
        obtain ⟨o, e, _⟩ := hob₄ b hb
        exact ⟨o, e, by unfold kpWith; rw [if_pos hb]; exact e⟩
      dsimp only
      refine wpAny_bind (wpAny_of_eq (a := ()) rfl ?_)
      refine wpAny_bind (wpAny_assign_Name (store F₅.kd W₅ hy fun s₅ S => ?_))
      obtain ⟨F₆, W₆⟩ := set_v (d := d) F₅ W₅ S (hr _ _)
      rw [hset] at F₆ W₆
      refine wpAny_bind (wpAny_mono (ht d (List.mem_of_getElem? hd) sE _ O ad₃ s₅ A _ F₆ R) (fun ok s₆ q => ?_) fun _ _ x => x)
      obtain ⟨rfl, k₆⟩ := q
      simp only [Bool.false_eq_true, if_false]
      refine wpAny_pure ⟨rfl, es.length - (i + 1), by omega, i + 1, ad₃, rfl, hlt, ?_⟩
      have sub : subSto [(x, .v (.list es))] [(x, .v (.list es)), (y, .v d)] := fun z p hz => by
        obtain ⟨rfl, rfl⟩ := look1 hz
        rw [List.lookup_cons, beq_self_eq_true]
      have F₇ := (F₆.keeps k₆).sub sub
      have W₇ := (W₆.keeps k₆).sub sub
      obtain ⟨F₈, W₈⟩ := kp_down F₇ W₇ up F₃.bs F₃.dom
      refine ⟨F₈, W₈, ?_, ?_⟩
      · refine Wk.frame _ _ _ hst₄ fun b hb o e => ?_
        obtain ⟨o', e', kb⟩ := hfp b hb
        rw [e] at e'; cases e'
        exact F₇.kept b o kb
      · rintro b hb (q | ⟨z, es', e, q⟩)
        · exact hpf₃ b hb (.inl q)
        · obtain ⟨_, e2⟩ := look1 e; cases e2
    · have hin : i = es.length := by omega
      subst hin
      refine Wk.done s₃ _ _ hst₃ fun h₄ tk₄ hk₄ => ?_
      obtain ⟨F₄, W₄⟩ := iter_moved (tk := tk₄) F₃ W₃ hw₃ hwr hk₄
      exact wpAny_pure (h _ ad₃ F₄ W₄)
  exact start2_in loop (Wk.self 0 _ _ _ hst loop)

/-- two loops, no test comes out: the list is empty -/
theorem Ev.comp2 {σ : Sto} {dss : List (List D)} (hi : Ev prog w K true n env σ iter (.list (dss.map D.list))) (himm : ∀ es ∈ dss, es.all D.imm = true) (hclos : closureFor scope env = pure [])
    (hkind : scope.kind = .function) (hnames : ∀ y ∈ scope.names, y.2 = .local → scope.names.lookup y.1 = some .local) (hs : ∀ v, foldedSetIterable iter env v = pure v) (hxd : (x == ("__debug__" : Str)) = false) (hxy : (y == x) = false)
    (hx : ∀ C, (cenvOf scope [] C env).kindOf x = some .local) (hy : ∀ C, (cenvOf scope [] C env).kindOf y = some .local) (hcells : ∀ C, (cenvOf scope [] C env).cells = [])
    (ht : ∀ C, ∀ es ∈ dss, ∀ e ∈ es, Tests prog w K n (cenvOf scope [] C env) [(x, .v (.list es)), (y, .v e)] ifs false) :
    Ev prog w K true n env σ (two2 elt iter x y px py qx ifs scope pos) (.list []) := by
  intro sE kp O ad s A E F R
  have hh : A.handled = Option.none := R.hand rfl
  show wpAny _ _ (eval (.ListComp _ _ _ _) env) _ _ _
  rw [eval_ListComp]
  refine wpAny_comprehension_free (use := Option.none) rfl hs hclos hkind hnames (wpAny_mono (hi sE kp O ad s A E F R) (fun xv s₁ q => ?_) fun _ _ e => e)
  obtain ⟨k1, rx⟩ := q
  replace rx := rx.inv; cases rx with
  | @list a vs m hO ea rv =>
  have hlen : vs.length = dss.length := by rw [rv.length, List.length_map]
  refine wpAny_pyIter_list ⟨_, ea, rfl, m, rfl⟩ ?_
  have hn := none_size s₁.heap
  have hne : a ≠ s₁.heap.objs.size := by rintro rfl; rw [hn] at ea; cases ea
  have Wk := Walks.list (prog := prog) (w := w) hh s₁.heap.objs.size a hne vs.toArray
  generalize hI : s₁.heap.objs.size = I at *
  have k2 : Keeps s₁ { s₁ with heap := s₁.heap.push { cls := .type "list_iterator", data := .fields #[.ref a, .int 0 0] } } := kpush s₁ _ _
  have hit2 : ({ s₁ with heap := s₁.heap.push { cls := .type "list_iterator", data := .fields #[.ref a, .int 0 0] } } : Shared).heap.IsListIter I a 0 := ⟨_, hI ▸ Heap.get?_push_size _ rfl, rfl, rfl⟩
  have hsI : s.heap.get? I = Option.none := by
    cases q : s.heap.get? I with
    | none => rfl
    | some o => have := kheap k1 _ _ q; rw [hn] at this; cases this
  have ea2 := kheap k2 _ _ ea
  have kk := ktrans k1 k2
  generalize ({ s₁ with heap := s₁.heap.push { cls := .type "list_iterator", data := .fields #[.ref a, .int 0 0] } } : Shared) = s₂ at *
  have hn2 : s₂.heap.get? s₂.heap.objs.size = Option.none := none_size _
  refine wpAny_newList ?_ (by simp)
  refine newEnv_comp ?_
  dsimp only
  generalize hH1 : s₂.heap.push { cls := .type "list", data := .seq ([] : List Value).toArray } = h₁
  generalize hH2 : pushCells (h₁.push { cls := .type "dict", data := .dict #[] }) scope.names = h₂
  have hC : h₁.objs.size = s₂.heap.objs.size + 1 := by rw [← hH1, Heap.size_push]
  show codeAny _ _ (.compStart _ 0 _ _ (cenvOf scope [] h₁.objs.size env)) _ _
  have new : ∀ b, s₂.heap.objs.size ≤ b → s₂.heap.get? b = Option.none := fun b hb => by
    cases e : s₂.heap.get? b with
    | none => rfl
    | some o => exact absurd (Heap.lt_size e) (Nat.not_lt.mpr hb)
  have hCn : s₂.heap.get? h₁.objs.size = Option.none := new _ (by rw [hC]; exact Nat.le_succ _)
  have hDC : s₂.heap.objs.size ≠ h₁.objs.size := by rw [hC]; exact Nat.ne_of_lt (Nat.lt_succ_self _)
  have old₁ : ∀ b o, h₁.get? b = some o → h₂.get? b = some o := fun b o e => by rw [← hH2]; exact pushCells_keeps _ _ b o (Heap.get?_push_of_some _ e)
  have old : ∀ b o, s₂.heap.get? b = some o → h₂.get? b = some o := fun b o e => old₁ b o (by rw [← hH1]; exact Heap.get?_push_of_some _ e)
  have hD₂ : h₂.get? s₂.heap.objs.size = some (lobj [] 0) := old₁ _ _ (by rw [← hH1]; exact Heap.get?_push_size _ rfl)
  have hns₂ : h₂.Ns h₁.objs.size (fun _ => Option.none) := (Heap.Ns.new h₁ (.type "dict")).keeps (h' := h₂) (fun b o e => by rw [← hH2]; exact pushCells_keeps _ _ b o e)
  generalize hDd : s₂.heap.objs.size = Dd at *
  generalize hCc : h₁.objs.size = C at *
  have hxC := hx C
  have hyC := hy C
  have hcC := hcells C
  have htC := ht C
  have hkC : (cenvOf scope [] C env).scope.kind = .function := hkind
  have hlC : (cenvOf scope [] C env).locals = C := rfl
  have hgC : (cenvOf scope [] C env).globals = mainGlobals := F.gl
  have hbC : (cenvOf scope [] C env).builtins = builtinsNs := F.bi
  generalize cenvOf scope [] C env = cenv at *
  let kp0 : Kpt := fun b => if b = I then Option.none else if b = Dd then some (lobj [] 0) else s₂.heap.get? b
  have hID : Dd ≠ I := by
    rintro rfl
    obtain ⟨o, e, _⟩ := hit2
    rw [hn2] at e; cases e
  have hIC : C ≠ I := by
    rintro rfl
    obtain ⟨o, e, _⟩ := hit2
    rw [hCn] at e; cases e
  have hsD : s.heap.get? Dd = Option.none := by
    cases q : s.heap.get? Dd with
    | none => rfl
    | some o => have := kheap kk _ _ q; rw [hn2] at this; cases this
  have hkps : ∀ b o, s.heap.get? b = some o → kp0 b = some o := fun b o e => by
    have n1 : b ≠ I := fun q => by rw [q, hsI] at e; cases e
    have n2 : b ≠ Dd := fun q => by rw [q, hsD] at e; cases e
    show (if b = I then _ else _) = _
    rw [if_neg n1, if_neg n2]; exact kheap kk _ _ e
  have hkC0 : kp0 C = Option.none := by
    show (if C = I then _ else _) = _
    rw [if_neg hIC, if_neg (Ne.symm hDC)]; exact hCn
  have hkI0 : kp0 I = Option.none := by
    show (if I = I then _ else _) = _
    rw [if_pos rfl]
  have hka0 : kp0 a = some (lobj vs m) := by
    have n2 : a ≠ Dd := fun q => by rw [q, hn2] at ea2; cases ea2
    show (if a = I then _ else _) = _
    rw [if_neg hne, if_neg n2]; exact ea2
  have hkd : ∀ b o, kp0 b = some o → h₂.get? b = some o := fun b o e => by
    have e' : (if b = I then Option.none else if b = Dd then some (lobj [] 0) else s₂.heap.get? b) = some o := e
    split at e'
    · cases e'
    · split at e'
      · rename_i q; rw [q]; cases e'; exact hD₂
      · exact old b o e'
  have F0 : FR K s₂ kp0 O cenv [] (fun _ => 0) { s₂ with heap := h₂ } := by
    refine ⟨⟨h₂, _, rfl⟩, hkd, ?_, ?_, hkC, hgC, hbC, fun _ _ e => (by cases e), fun _ _ e => (by cases e)⟩
    · obtain ⟨hB, b, c⟩ := F.bs
      exact ⟨hB, b, fun b o e => hkps b o (F.kept b o (c b o e))⟩
    · intro b q
      obtain ⟨o, e⟩ := F.domS b q
      exact ⟨o, hkps b o e⟩
  have W0 : FW kp0 cenv [] (fun _ => 0) { s₂ with heap := h₂ } := by
    refine ⟨⟨_, hlC ▸ hns₂⟩, hlC ▸ hkC0, ?_, ?_, fun _ _ _ _ e => by cases e⟩
    · intro z c _ hl
      rw [hcC] at hl; cases hl
    · intro z z' c hl
      rw [hcC] at hl; cases hl
  have rvs : ∀ (P : Addr → Prop) (h : Heap), (∀ b o, kp0 b = some o → h.get? b = some o) → (∀ b, P b → O b) → Reps P h vs (dss.map D.list) := fun P h hh hp =>
    rv.mono hp fun b o _ e q => by
      have e2 := kheap k2 _ _ e
      refine hh b o ?_
      have n1 : b ≠ I := by rintro rfl; rw [hn] at e; cases e
      have n2 : b ≠ Dd := by rintro rfl; rw [hn2] at e2; cases e2
      show (if b = I then _ else _) = _
      rw [if_neg n1, if_neg n2]; exact e2
  have loop : ∀ RR : Result → Shared → Prop, (∀ s' ad', FR K s₂ kp0 O cenv [] ad' s' → FW kp0 cenv [] ad' s' → RR (.ok .next) s') →
      codeAny (model prog w) A (.compLoop (two2 elt iter x y px py qx ifs scope pos) 0 (.ref I) (.ref Dd) cenv) RR { s₂ with heap := h₂ } := by
    intro RR hRR
    refine codeAny_loop rfl (fun m s' => ∃ i ad', m = dss.length - i ∧ i ≤ dss.length ∧ FR K s₂ kp0 O cenv [] ad' s' ∧ FW kp0 cenv [] ad' s' ∧ s'.heap.IsListIter I a i ∧ s'.heap.IsList a vs.toArray) (fun mm s₃ hI => ?_) dss.length
      ⟨0, _, rfl, Nat.zero_le _, F0, W0, (let ⟨o, e, r⟩ := hit2; ⟨o, old _ _ e, r⟩), ⟨_, old _ _ ea2, rfl, m, rfl⟩⟩
    obtain ⟨i, ad₃, rfl, hile, F₃, W₃, hst₃⟩ := hI
    show wpAny _ A ((compTurn (two2 elt iter x y px py qx ifs scope pos) 0 (.ref I) (.ref Dd) cenv).onRaise (fun x => do noteFrame x cenv; theTreesLotGoes x)) _ _ _
    refine wpAny_noted ?_
    rw [turn2_out]
    refine wpAny_bind (wpAny_standAt (wpAny_bind ?_))
    have hw₃ : ∀ b ∈ [I], ∃ o, s₃.heap.get? b = some o ∧ notFrame o = true ∧ isSeq o = false := fun b hb => by
      rw [List.mem_singleton.mp hb]
      obtain ⟨⟨o, e, _, d⟩, _⟩ := hst₃
      exact ⟨o, e, by unfold notFrame; rw [d], by unfold isSeq; rw [d]⟩
    have hwk : ∀ b ∈ [I], kp0 b = Option.none := fun b hb => by rw [List.mem_singleton.mp hb]; exact hkI0
    by_cases hlt : i < dss.length
    · refine Wk.item i s₃ _ _ (by rw [List.size_toArray, hlen]; exact hlt) hst₃ fun v h₄ tk₄ hPv hst₄ hk₄ => ?_
      obtain ⟨F₄, W₄⟩ := iter_moved (tk := tk₄) F₃ W₃ hw₃ hwk hk₄
      have hv : vs[i]? = some v := by simpa using hPv
      have hd : dss[i]? = some dss[i] := List.getElem?_eq_getElem hlt
      have hmem : dss[i] ∈ dss := List.getElem_mem _
      generalize dss[i] = es at hd hmem
      obtain ⟨d, hd', rd⟩ := (rvs (Pf O (Sto.set [] x (.v (.list es))) ad₃) h₄ F₄.kept (fun b q => by
        rcases q with q | ⟨z, es', e, _⟩
        · exact q
        · rw [Sto.set_get] at e
          split at e
          · cases e
          · cases e)).get' hv
      rw [List.getElem?_map, hd] at hd'
      cases hd'
      have hob₄ : ∀ b ∈ [I, a], ∃ o, h₄.get? b = some o ∧ notFrame o = true := fun b hb => by
        obtain ⟨⟨o, e, _, d⟩, ⟨o2, e2, _, m2, d2⟩⟩ := hst₄
        rcases List.mem_cons.mp hb with rfl | hb
        · exact ⟨o, e, by unfold notFrame; rw [d]⟩
        · rw [List.mem_singleton.mp hb]; exact ⟨o2, e2, by unfold notFrame; rw [d2]⟩
      have hnoP : ∀ b ∈ [I, a], ¬ Pf O [] ad₃ b := fun b hb q => by
        rcases q with q | ⟨z, es', e, _⟩
        · rcases List.mem_cons.mp hb with rfl | hb
          · obtain ⟨o, e⟩ := F.domS b q; rw [hsI] at e; cases e
          · rw [List.mem_singleton.mp hb] at q; exact hO q
        · cases e
      obtain ⟨F₅, W₅⟩ := kp_up (fp := [I, a]) F₄ W₄ hob₄ hnoP
      have up : ∀ a' o, kp0 a' = some o → kpWith kp0 [I, a] h₄ a' = some o := fun a' o e => by
        unfold kpWith; split
        · exact F₄.kept a' o e
        · exact e
      have hfp : ∀ b ∈ [I, a], ∃ o, h₄.get? b = some o ∧ kpWith kp0 [I, a] h₄ b = some o := fun b hb => by
        obtain ⟨o, e, _⟩ := hob₄ b hb
        exact ⟨o, e, by unfold kpWith; rw [if_pos hb]; exact e⟩
      dsimp only
      refine wpAny_bind (wpAny_of_eq (a := ()) rfl ?_)
      refine wpAny_bind (wpAny_assign_Name (store F₅.kd W₅ (.inl hxC) fun s₅ S => ?_))
      obtain ⟨F₆, W₆⟩ := set_v (d := .list es) F₅ W₅ S rd
      have F₆ : FR K s₂ (kpWith kp0 [I, a] h₄) O cenv [(x, .v (.list es))] ad₃ s₅ := F₆
      have W₆ : FW (kpWith kp0 [I, a] h₄) cenv [(x, .v (.list es))] ad₃ s₅ := W₆
      refine wpAny_bind (wpAny_mono (inner2 (iter := iter) (elt := elt) (px := px) (py := py) (qx := qx) (ifs := ifs) (scope := scope) (pos := pos) (acc := .ref Dd) F₆ W₆ R (himm es hmem) hxd hxy (.inl hyC) (htC es hmem)
        (RR := fun r s' => match r with | .ok f => ∃ ad', FR K s₂ (kpWith kp0 [I, a] h₄) O cenv [(x, .v (.list es))] ad' s' ∧ FW (kpWith kp0 [I, a] h₄) cenv [(x, .v (.list es))] ad' s' | .error e => False)
        (fun s' ad' F' W' => ⟨ad', F', W'⟩)) (fun x' s₆ q => ?_) fun _ _ e => e)
      refine wpAny_bind (wpAny_standAt (wpAny_bind (wpAny_of_eq (a := x') rfl ?_)))
      refine wpAny_bind (wpAny_holding (wpAny_mono q (fun it2 s₇ q => ?_) fun _ _ e => e))
      refine wpAny_bind (wpAny_runOwn ?_)
      rw [Around.mark_none]
      refine codeAny_mono q fun r s₈ q => ?_
      cases r with
      | error e => exact q.elim
      | ok f =>
        obtain ⟨ad₈, F₈, W₈⟩ := q
        obtain ⟨F₉, W₉⟩ := kp_down F₈ W₈ up F₃.bs F₃.dom
        have sub : subSto [] [(x, PV.v (D.list es))] := fun z p hz => by cases hz
        refine wpAny_pure ⟨rfl, dss.length - (i + 1), by omega, i + 1, ad₈, rfl, hlt, F₉.sub sub, W₉.sub sub, ?_⟩
        refine Wk.frame _ _ _ hst₄ fun b hb o e => ?_
        obtain ⟨o', e', kb⟩ := hfp b hb
        rw [e] at e'; cases e'
        exact F₈.kept b o kb
    · have hin : i = vs.toArray.size := by rw [List.size_toArray, hlen]; omega
      subst hin
      refine Wk.done s₃ _ _ hst₃ fun h₄ tk₄ hk₄ => ?_
      obtain ⟨F₄, W₄⟩ := iter_moved (tk := tk₄) F₃ W₃ hw₃ hwk hk₄
      exact wpAny_pure (hRR _ ad₃ F₄ W₄)
  refine codeAny_compStart_list (loop _ ?_) (Wk.self 0 _ _ _ ⟨(let ⟨o, e, r⟩ := hit2; ⟨o, old _ _ e, r⟩), ⟨_, old _ _ ea2, rfl, m, rfl⟩⟩ (loop _ ?_)) <;>
  · intro s' ad' F' W'
    obtain ⟨m', hm'⟩ := W'.ns
    rw [hlC] at hm'
    show compPost _ _ _ Option.none _ (.ref Dd) cenv.locals (.ok .next) s'
    rw [hlC]
    refine ⟨m', hm', fun h'' hs'' => ?_⟩
    have hk3 : ∀ b o, kp0 b = some o → h''.get? b = some o := fun b o e => hs''.extBut b o (by
      rintro rfl; rw [hkC0] at e; cases e) (F'.kept b o e)
    refine ⟨?_, .list (n := 0) (fun q => ?_) (hk3 Dd (lobj [] 0) ?_) .nil⟩
    · obtain ⟨h₅, tk₅, rfl⟩ := F'.sh
      obtain ⟨h₆, tk₆, rfl, _⟩ := kk
      exact ⟨h'', tk₅, rfl, fun b o e => hk3 b o (hkps b o e)⟩
    · obtain ⟨o, e⟩ := F.domS _ q; rw [hsD] at e; cases e
    · show (if Dd = I then _ else _) = _
      rw [if_neg hID, if_pos rfl]
end

noncomputable def cmpI (x y : Row) : Int := b2i (decide (nums y < nums x)) - b2i (decide (nums x < nums y))
noncomputable def cmpRow (ts : List Row) (x : Row) : D := .list (ts.map fun y => .int (cmpI x y))
noncomputable def compared (ts : List Row) : List D := ts.map (cmpRow ts)
noncomputable def cmOut (ts : List Row) : D → D
  | .bytes x => cmpRow ts x
  | d => d
noncomputable def cmIn (x : Row) : D → D
  | .bytes y => .int (cmpI x y)
  | d => d
theorem sp_compared (ts : List Row) (hz : ts.length ≤ 100) : Spec prog w (KK w) 9 (.ref 212) [.list (dRows ts)] [] (.list (compared ts)) := by
  refine Spec.fn (n := 8) 212 (bd := [("texts", .list (dRows ts))]) (by kernel_rfl) (body := ?b) ?hb (by kernel_rfl) (by kernel_rfl) (by kernel_rfl) (by kernel_rfl) (by kernel_rfl) (by kernel_rfl) (by kernel_rfl) (by kernel_rfl) (.one fun v => by kernel_rfl) ?h
  case hb => rfl
  intro L
  have hcl : ∀ y c, (fenv w 212 L).cells.lookup y = some c → (fenv w 212 L).kindOf y = some .cell := by
    intro y c hl
    have e : (fenv w 212 L).cells = [(("texts" : Str), L + 1)] := rfl
    rw [e, List.lookup_cons] at hl
    split at hl
    · rename_i q; rw [beq_iff_eq] at q; subst q; rfl
    · cases hl
  with_reducible refine' Exs.cons (Ex.compVal (σf := [("texts", .v (.list (dRows ts)))]) (ds := dRows ts) (p := fun _ => true) (r := cmOut ts) ?c1 ?c2 ?c3 ?c4 ?c5 ?c6 ?c7 ?c8 ?c9 ?c10) ?_
  case c1 => exact ItrE.list (by walk_at "me")
  case c4 => rfl
  case c3 => rw [List.length_map]; omega
  case c5 => decide
  case c6 => exact fun _ => rfl
  case c7 => kernel_rfl
  case c8 => exact .inl rfl
  case c9 => exact hcl
  case c10 => rfl
  case c2 =>
    refine ⟨rfl, fun C => .inr ⟨rfl, _, rfl⟩, fun C c h h2 => rfl, ?_, fun C d _ => Tests.nil, ?_⟩
    · intro C y pv h
      obtain ⟨rfl, rfl⟩ := look1 h
      exact ⟨rfl, ⟨_, rfl⟩, ⟨.inl rfl, .inl rfl, rfl⟩, by decide⟩
    · intro C d hd _
      obtain ⟨u, hu, rfl⟩ := List.mem_map.mp hd
      show Ev _ _ _ _ _ _ _ _ (cmpRow ts u)
      with_reducible refine' Ev.mono (d := .list (((dRows ts).filter fun _ => true).map (cmIn u))) (Ev.comp (σf := [("one", .v (.bytes u))]) ?i1 ?cf ?hz ?hcl ?hn ?hs) ?c4
      case i1 => exact ItrE.list (by walk_at "me")
      case hcl => rfl
      case hz => rw [List.length_map]; omega
      case hn => decide
      case hs => exact fun _ => rfl
      case c4 => rw [filt_true]; unfold cmpRow; simp [Function.comp_def, cmIn]
      case cf =>
        refine ⟨rfl, fun C => .inl rfl, fun C c h => absurd (show some NameKind.local = some NameKind.cell from h) (by decide), ?_, fun C d _ => Tests.nil, ?_⟩
        · intro C y pv h
          obtain ⟨rfl, rfl⟩ := look1 h
          exact ⟨rfl, ⟨_, rfl⟩, ⟨.inl rfl, .inl rfl, rfl⟩, by decide⟩
        · intro C d hd _
          obtain ⟨v, hv, rfl⟩ := List.mem_map.mp hd
          show Ev _ _ _ _ _ _ _ _ (.int (cmpI u v))
          exact Ev.fn 52 (by kernel_rfl) (by rfl) (by decide) (by kernel_rfl) (Evs.cons rfl (by walk_at "me") (Evs.cons rfl (by walk_at "me") Evs.nil)) (Spec.le (sp_cmp u v) (by decide))
  rw [filt_true, show (dRows ts).map (cmOut ts) = compared ts by unfold compared dRows; simp [Function.comp_def, cmOut]]
  with_reducible refine Exs.stop (Ex.ret ?v) ?hr
  case hr => rfl
  case v =>
    refine Ev.ite (c := false) ?t1 (fun q => by cases q) (fun _ => ?_)
    case t1 =>
      refine Tr.val (d := .list []) ?e1 (Tru.list (by show 0 ≤ 1000000; decide)) rfl
      refine Ev.mono (Ev.comp2 (dss := ts.map fun x => ts.map fun y => D.int (cmpI x y)) ?d1 ?d2 ?d3 ?d4 ?d5 ?d6 ?d7 ?d8 ?d9 ?d10 ?d11 ?d12) rfl
      case d1 => exact Ev.mono (by walk_at "me") (by unfold compared; rw [List.map_map]; rfl)
      case d2 =>
        intro es hes
        obtain ⟨x, _, rfl⟩ := List.mem_map.mp hes
        rw [List.all_map, List.all_eq_true]
        exact fun _ _ => rfl
      case d3 => rfl
      case d4 => rfl
      case d5 => decide
      case d6 => exact fun _ => rfl
      case d7 => decide
      case d8 => decide
      case d9 => exact fun C => rfl
      case d10 => exact fun C => rfl
      case d11 => exact fun C => rfl
      case d12 =>
        intro C es hes e he
        obtain ⟨x, _, rfl⟩ := List.mem_map.mp hes
        obtain ⟨y, _, rfl⟩ := List.mem_map.mp he
        refine Tests.one (Tr.val (d := .bool false) ?f1 Tru.bool rfl)
        exact Ev.bfn (n := 7) (by (((with_reducible refine' Ev.blt ?z202.mbn1 ?z202.mbn2 ?z202.mbn3 ?z202.mbn4 ?z202.mbn5); (case z202.mbn1 => kernel_rfl); (case z202.mbn2 => boot_fact); (case z202.mbn3 => decide); (case z202.mbn4 => rfl); (case z202.mbn5 => decide)))) (by nofun) (Evs.cons rfl (by walk_at "me") (Evs.cons rfl (by (((with_reducible refine' Ev.blt ?z203.mbn1 ?z203.mbn2 ?z203.mbn3 ?z203.mbn4 ?z203.mbn5); (case z203.mbn1 => kernel_rfl); (case z203.mbn2 => boot_fact); (case z203.mbn3 => decide); (case z203.mbn4 => rfl); (case z203.mbn5 => decide)))) Evs.nil)) (sp_isInt (by kernel_rfl))
    · walk_at "me"
end
-- F21
section
set_option maxRecDepth 100000
set_option maxHeartbeats 1000000

/-- what moves when an exception passes: the slots of the frames S, the things X -/
noncomputable def Mv (S : List Addr) (X : Addr → Prop) (h h' : Heap) : Prop := ∀ b o, h.get? b = some o → ¬ X b → ∃ sl, h'.get? b = some { o with slots := sl } ∧ (b ∉ S → sl = o.slots)
theorem Mv.same {S : List Addr} {X : Addr → Prop} {h h' : Heap} (m : Mv S X h h') {b : Addr} {o : Obj} (e : h.get? b = some o) (hx : ¬ X b) (hS : b ∉ S) : h'.get? b = some o := by
  obtain ⟨sl, e', q⟩ := m b o e hx
  rw [q hS] at e'; exact e'
theorem Mv.refl (S : List Addr) (X : Addr → Prop) (h : Heap) : Mv S X h h := fun b o e _ => ⟨o.slots, e, fun _ => rfl⟩
theorem Mv.trans {S : List Addr} {X : Addr → Prop} {h h' h'' : Heap} (a : Mv S X h h') (b : Mv S X h' h'') : Mv S X h h'' := fun c o e x => by
  obtain ⟨sl, e1, q1⟩ := a c o e x
  obtain ⟨sl2, e2, q2⟩ := b c _ e1 x
  exact ⟨sl2, e2, fun hS => by rw [q2 hS, ← q1 hS]⟩
theorem Mv.mono {S : List Addr} {X X' : Addr → Prop} {h h' : Heap} (a : Mv S X h h') (hx : ∀ b, X b → X' b) : Mv S X' h h' := fun b o e x => a b o e fun q => x (hx b q)
theorem Mv.of_keeps {S : List Addr} {X : Addr → Prop} {h h' : Heap} (k : ∀ b o, h.get? b = some o → h'.get? b = some o) : Mv S X h h' := fun b o e _ => ⟨o.slots, k b o e, fun _ => rfl⟩
theorem Mv.of_but {S : List Addr} {h h' : Heap} {a : Addr} (k : Heap.SameBut a h h') : Mv S (· = a) h h' := fun b o e x => ⟨o.slots, (k.2 b x).trans e, fun _ => rfl⟩

section
variable {K : Frag} {sE : Shared} {kp kp' : Kpt} {O : Addr → Prop} {env : Env} {σ : Sto} {ad : Str → Addr} {s : Shared} {S : List Addr} {X : Addr → Prop} {h' : Heap} {tk : Nat}

/-- the frame stands it -/
theorem shift (F : FR K sE kp O env σ ad s) (W : FW kp env σ ad s) (m : Mv S X s.heap h') (hS : ∀ b ∈ S, ∀ o, s.heap.get? b = some o → isSeq o = false) (hX : ∀ b, X b → ∀ o, s.heap.get? b = some o → notFrame o = true ∧ isSeq o = false)
    (hk : ∀ a o, kp' a = some o → h'.get? a = some o) (hbs : ∃ hB, Bs K hB ∧ ∀ a o, hB.get? a = some o → kp' a = some o) (hd : ∀ a, O a → ∃ o, kp' a = some o) (hnew : ∀ a, kp a = none → kp' a = none) :
    FR K sE kp' O env σ ad { s with heap := h', toks := tk } ∧ FW kp' env σ ad { s with heap := h', toks := tk } := by
  have nsk : ∀ {a mm}, s.heap.Ns a mm → h'.Ns a mm := fun {a mm} hn => by
    obtain ⟨o, es, ep, e, d, r⟩ := id hn
    obtain ⟨sl, e', _⟩ := m a o e fun q => by
      have := (hX a q o e).1
      rw [ns_frame hn e] at this; cases this
    exact ⟨_, es, ep, e', d, r⟩
  have clk : ∀ {a v}, s.heap.IsCell a v → h'.IsCell a v := fun {a v} hn => by
    obtain ⟨o, e, d⟩ := id hn
    obtain ⟨sl, e', _⟩ := m a o e fun q => by
      have := (hX a q o e).1
      rw [cell_frame hn e] at this; cases this
    exact ⟨_, e', d⟩
  have vk : ∀ {x v}, VarIs env s.heap x v → VarIs env h' x v := by
    rintro x v (⟨k, mm, n, e⟩ | ⟨k, c, l, e⟩)
    · exact .inl ⟨k, mm, nsk n, e⟩
    · exact .inr ⟨k, c, l, clk e⟩
  have sq : ∀ a o, s.heap.get? a = some o → isSeq o = true → h'.get? a = some o := fun a o e q => m.same e (fun hx => by
    have := (hX a hx o e).2
    rw [q] at this; cases this) fun hs => by
    have := hS a hs o e
    rw [q] at this; cases this
  refine ⟨⟨?_, hk, hbs, hd, F.kd, F.gl, F.bi, ?_, ?_⟩, ⟨?_, hnew _ W.new, ?_, W.inj, W.sep⟩⟩
  · obtain ⟨h, t, rfl⟩ := F.sh; exact ⟨h', _, rfl⟩
  · intro x d e
    obtain ⟨v, hv, r⟩ := F.vals x d e
    exact ⟨v, vk hv, r.mono (fun _ q => q) fun a o _ e q => sq a o e q⟩
  · intro x ds e
    obtain ⟨hv, hk', vs, n, e', r⟩ := F.owns x ds e
    exact ⟨vk hv, hnew _ hk', vs, n, sq _ _ e' rfl, r.mono (fun _ q => q) fun a o _ e q => sq a o e q⟩
  · obtain ⟨mm, hm⟩ := W.ns; exact ⟨mm, nsk hm⟩
  · intro x c kx l
    obtain ⟨a, v, b⟩ := W.cel x c kx l
    exact ⟨hnew _ a, v, clk b⟩
end

/-- an exception under way: fl its frame, c its context -/
noncomputable def ExcAt (h : Heap) (e T : Addr) (fl c : Value) : Prop :=
  ∃ oe vs oT ts, h.get? e = some oe ∧ oe.cls = .type "IndexError" ∧ oe.data = .fields vs ∧ vs[1]? = some (.ref T) ∧ vs[2]? = some c ∧ T ≠ e ∧ h.get? T = some oT ∧ oT.data = .fields ts ∧ ts[3]? = some fl
theorem ExcAt.keep {h h' : Heap} {e T : Addr} {fl c : Value} (x : ExcAt h e T fl c) (k1 : ∀ o, h.get? e = some o → h'.get? e = some o) (k2 : ∀ o, h.get? T = some o → h'.get? T = some o) : ExcAt h' e T fl c :=
  let ⟨oe, vs, oT, ts, a, b, d, e1, e2, ne, f, g⟩ := x; ⟨oe, vs, oT, ts, k1 _ a, b, d, e1, e2, ne, k2 _ f, g⟩
theorem ExcAt.isX {h : Heap} {e T : Addr} {fl c : Value} (x : ExcAt h e T fl c) {b : Addr} (hb : b = e ∨ b = T) : ∃ o, h.get? b = some o ∧ notFrame o = true ∧ isSeq o = false := by
  obtain ⟨oe, vs, oT, ts, a, _, d, _, _, _, f, g, _⟩ := x
  rcases hb with rfl | rfl
  · exact ⟨oe, a, by unfold notFrame; rw [d], by unfold isSeq; rw [d]⟩
  · exact ⟨oT, f, by unfold notFrame; rw [g], by unfold isSeq; rw [g]⟩

/-- one that was just raised -/
noncomputable def ExcNew (h h' : Heap) (e : Addr) (c : Value) : Prop :=
  (∀ b o, h.get? b = some o → h'.get? b = some o) ∧ h.get? e = none ∧ ∃ oe vs, h'.get? e = some oe ∧ oe.cls = .type "IndexError" ∧ oe.data = .fields vs ∧ vs[1]? = some .none ∧ vs[2]? = some c

/-- what is being handled: nothing, or an exception without a context -/
noncomputable def Hnd (A : Around) (h : Heap) (c : Value) : Prop := (A.handled = none ∧ c = .none) ∨ ∃ e o vs, A.handled = some (.ref e) ∧ c = .ref e ∧ h.get? e = some o ∧ o.data = .fields vs ∧ vs[2]? = some .none

section
variable {prog : Program} {w : World} {A : Around} {E : Value → Shared → Prop} {s : Shared} {env : Env}

theorem entry_unchain : entryFor table "proto.unchain" = some Builtin.«proto.unchain» := entryFor_of_tree (by kernel_rfl)

theorem raise_index {α : Type} {msg : String} {c : Value} {Q : α → Shared → Prop} (hh : Hnd A s.heap c) (h : ∀ h' tk e, ExcNew s.heap h' e c → E (.ref e) { s with heap := h', toks := tk }) : wpAny (model prog w) A (raiseErrorWords "IndexError" msg : Sem α) Q E s := by
  rcases hh with ⟨hh, rfl⟩ | ⟨e1, o1, vs1, hh, rfl, h1, d1, c1⟩
  · refine wpAny_raiseErrorWords plainExc_IndexError hh fun h' tk e x => h h' tk e ⟨x.keeps, x.new, ?_⟩
    obtain ⟨ob, t, a, b, d⟩ := x.there
    exact ⟨ob, _, a, b, d, rfl, rfl⟩
  · unfold raiseErrorWords
    refine wpAny_bind (wpAny_mkText (wpAny_bind ?_))
    refine wpAny_newExc_plain plainExc_IndexError (fun h' e x => ?_) (by show 1 ≤ sizeLine; rw [sizeLine_eq]; decide)
    unfold raiseNew
    refine wpAny_bind (wpAny_handled ?_)
    rw [hh]
    obtain ⟨t, ht, _, _⟩ := x.there
    have hne : e1 ≠ e := by rintro rfl; have := x.new; rw [h1] at this; cases this
    have h1' := x.keeps _ _ h1
    dsimp only
    rw [if_pos (show (Value.ref e1 != Value.ref e) = true by simp [hne])]
    refine wpAny_bind (wpAny_holding (wpAny_runValue (codeAny_builtin entry_unchain ?_)))
    show wpAny _ _ (do
      let context ← field (.ref e1) 2
      if context == .none then return ← ret .none
      if context == .ref e then
        rule "raise.context-cycle-cut"
        setField (.ref e1) 2 .none
        return ← ret .none
      if context == .ref e1 then rule "raise.context-old-cycle"; return ← ret .none
      let slow ← if false = true then field (.ref e1) 2 else pure (.ref e1)
      again (.builtin "proto.unchain" ⟨[.ref e, context, slow, .bool !false], []⟩)) _ _ _
    refine wpAny_bind (wpAny_field h1' d1 c1 ?_)
    rw [if_pos (show (Value.none == Value.none) = true from rfl)]
    refine wpAny_pure ?_
    show wpAny _ A (updateField e 2 (Value.ref e1) >>= fun _ => throw (Value.ref e)) _ _ _
    refine wpAny_bind ?_
    unfold updateField
    refine wpAny_bind (wpAny_load ht ?_)
    dsimp only
    rw [if_pos (show 2 < (#[Value.ref t, Value.none, Value.none, Value.none, Value.bool false, Value.none] : Array Value).size from by simp)]
    refine wpAny_update ht (wpAny_throw (h _ _ e ⟨?_, x.new, ?_⟩))
    · intro b o q
      refine (Heap.get?_update_other _ _ ?_).trans (x.keeps b o q)
      rintro rfl; have := x.new; rw [q] at this; cases this
    · exact ⟨_, _, Heap.get?_update_self _ ht rfl, rfl, rfl, rfl, rfl⟩

theorem fits_pos {k : Int} (h0 : 0 ≤ k) (h1 : k < 2 ^ 63) : Builtin.List.listFitsIndex k = true := fitsIndex_both (by omega) h1
/-- an index behind the end -/
theorem item_out {l : Addr} {items : Array Value} {k : Nat} {t : Tok} {c : Value} {Q : Value → Shared → Prop} (hh : Hnd A s.heap c) (hl : s.heap.IsList l items) (hk : items.size ≤ k) (hk2 : (k : Int) < 2 ^ 63)
    (hE : ∀ h' tk e, ExcNew s.heap h' e c → E (.ref e) { s with heap := h', toks := tk }) : wpAny (model prog w) A (getItem (.ref l) (.int k t)) Q E s := by
  obtain ⟨o, ho, hc, ne, hd⟩ := id hl
  have hfit := fits_pos (Int.natCast_nonneg k) hk2
  clear hk2
  obtain ⟨kk, hkk⟩ : ∃ kk : Int, kk = k := ⟨_, rfl⟩
  rw [← hkk] at hfit ⊢
  unfold getItem
  try with_reducible refine wpAny_holding ?_
  first | refine wpAny_bind (wpAny_pure ?_) | skip
  refine wpAny_bind (wpAny_sequenceKey hl.typeIs (by decide) ?_)
  refine wpAny_bind (wpAny_callSpecial?_slot (name := Str.ofString "__getitem__") hl.typeIs slot_list_getitem
    (wpAny_call_entry slot_list_getitem hl.typeIs entry_list_getitem ?_ (args_list_getitem _ _)))
  show wpAny _ _ (Builtin.List.listSubscript? (.int kk t) >>= _) _ _ s
  refine wpAny_bind (wpAny_listSubscript_int hfit ?_)
  subst hkk
  have hx : items[k]? = none := Array.getElem?_eq_none hk
  show wpAny _ _ ((seqItemAt l k >>= fun r => pure (r.map (k, ·))) >>= _) _ _ s
  refine wpAny_bind (wpAny_bind (wpAny_seqItemAt ho hd (wpAny_pure ?_)))
  rw [hx]
  first
    | exact wpAny_bind (wpAny_rule (raise_index hh hE))
    | exact wpAny_bind (wpAny_rule (wpAny_bind (raise_index hh hE)))
    | exact wpAny_bind (wpAny_bind (wpAny_rule (raise_index hh hE)))
    | exact wpAny_rule (raise_index hh hE)
end
end
-- F22
section
set_option maxRecDepth 100000
set_option maxHeartbeats 1000000
section
variable {M : Model} {A : Around} {E : Value → Shared → Prop} {s : Shared} {env envL : Env} {L LL : Addr} {S : List Addr} {e T : Addr} {fl c : Value}

theorem put_field {h : Heap} {a : Addr} {o : Obj} {vs : Array Value} {i : Nat} {x : Value} (ho : h.get? a = some o) (hd : o.data = .fields vs) :
    (h.update a (Obj.mapFields (·.setIfInBounds i x))).get? a = some (o.mapFields (·.setIfInBounds i x)) ∧ (o.mapFields (·.setIfInBounds i x)).data = .fields (vs.setIfInBounds i x) :=
  ⟨Heap.get?_update_self _ ho (Obj.isFreed_of_fields (Obj.data_mapFields hd _)), Obj.data_mapFields hd _⟩

theorem set_flight {fr : Option Addr} {Q : Unit → Shared → Prop} (x : ExcAt s.heap e T fl c) (h : ∀ h', ExcAt h' e T (fr.elim .none fun f => rawInt f) c → Mv S (· = T) s.heap h' → Q () { s with heap := h' }) : wpAny M A (setFlight (.ref e) fr) Q E s := by
  obtain ⟨oe, vs, oT, ts, he, hcls, hd, h1, h2, hne, hT, hdT, h3⟩ := x
  unfold setFlight
  refine wpAny_bind (wpAny_field he hd h1 ?_)
  rw [if_pos (show (Value.ref T != Value.none) = true from by simp)]
  have hsz : 3 < ts.size := (Array.getElem?_eq_some_iff.mp h3).1
  refine wpAny_setField hT hdT hsz (h _ ?_ (.of_but (Heap.SameBut.update ..)))
  obtain ⟨p1, p2⟩ := put_field (i := 3) (x := fr.elim .none fun f => rawInt f) hT hdT
  exact ⟨oe, vs, _, _, (Heap.get?_update_other _ _ hne).trans he, hcls, hd, h1, h2, hne, p1, p2, by simp [hsz]⟩

theorem came_back (hf : env.frame = some L) (x : ExcAt s.heap e T fl c) (h : ∀ h', ExcAt h' e T (rawInt L) c → Mv S (· = T) s.heap h' → E (.ref e) { s with heap := h' }) : cameBackBy M A env E (.ref e) s := by
  obtain ⟨oe, vs, oT, ts, he, hcls, hd, h1, h2, hne, hT, hdT, h3⟩ := id x
  unfold cameBackBy
  refine wpAny_bind (wpAny_field he hd h1 ?_)
  rw [if_neg (show ¬ (Value.ref T == Value.none) = true from by simp)]
  rw [hf]
  exact set_flight (S := S) x h

theorem pass_on {α : Type} {what : String} {Q : α → Shared → Prop} (hf : env.frame = some L) (x : ExcAt s.heap e T fl c) (h : ∀ h', ExcAt h' e T (rawInt L) c → Mv S (· = T) s.heap h' → E (.ref e) { s with heap := h' }) : wpAny M A (PySem.passOn what (.ref e) env : Sem α) Q E s := by
  obtain ⟨oe, vs, oT, ts, he, hcls, hd, h1, h2, hne, hT, hdT, h3⟩ := id x
  unfold PySem.passOn
  refine wpAny_bind (wpAny_field he hd h1 ?_)
  rw [if_neg (show ¬ (Value.ref T == Value.none) = true from by simp)]
  rw [hf]
  exact wpAny_bind (set_flight (S := S) x fun h' a b => wpAny_throw (h h' a b))

theorem note_again {Q : Unit → Shared → Prop} (hf : env.frame = some L) (x : ExcAt s.heap e T (rawInt L) c) (h : Q () s) : wpAny M A (noteFrame (.ref e) env) Q E s := by
  obtain ⟨oe, vs, oT, ts, he, hcls, hd, h1, h2, hne, hT, hdT, h3⟩ := x
  exact wpAny_noteFrame_inFlight hf he hd h1 hT hdT h3 h

theorem note_new {oL oLL oe : Obj} {vs : Array Value} {Q : Unit → Shared → Prop} (hfr : A.frames = some [env, envL]) (hk1 : env.scope.kind ≠ .module) (hk2 : envL.scope.kind ≠ .module) (hf : env.frame = some L) (hf2 : envL.frame = some LL)
    (hL : s.heap.get? L = some oL) (hLd : ∀ vs, oL.data ≠ .fields vs) (hLL : s.heap.get? LL = some oLL) (hLLd : ∀ vs, oLL.data ≠ .fields vs)
    (he : s.heap.get? e = some oe) (hcls : oe.cls = .type "IndexError") (hd : oe.data = .fields vs) (h1 : vs[1]? = some .none) (h2 : vs[2]? = some c)
    (h : ∀ h' T, s.heap.get? T = none → ExcAt h' e T (rawInt L) c → Mv [L, LL] (· = e) s.heap h' → Q () { s with heap := h' }) : wpAny M A (noteFrame (.ref e) env) Q E s := by
  have hl : s.heap.FunFrames ({} : Heap) [env, envL] := ⟨hk1, ⟨L, oL, hf, Heap.get?_none_of_le (Nat.zero_le _), hL, hLd⟩, hk2, ⟨LL, oLL, hf2, Heap.get?_none_of_le (Nat.zero_le _), hLL, hLLd⟩, trivial⟩
  have hS : [env, envL].filterMap (·.frame) = [L, LL] := by simp [hf, hf2]
  have heL : e ∉ [L, LL] := by
    intro q
    rcases List.mem_cons.mp q with rfl | q
    · rw [he] at hL; cases hL; exact hLd _ hd
    · rw [List.mem_singleton.mp q] at he; rw [he] at hLL; cases hLL; exact hLLd _ hd
  have hsz : 1 < vs.size := (Array.getElem?_eq_some_iff.mp h1).1
  unfold noteFrame
  simp only [hf]
  refine wpAny_bind (wpAny_field he hd h1 ?_)
  rw [if_neg (by decide)]
  refine wpAny_bind (wpAny_frameOf_fun hfr hl hf fun h₁ hs₁ => ?_)
  rw [hS] at hs₁
  refine wpAny_bind (wpAny_entryPlaceOf fun pl hpl => ?_)
  unfold EntryCells.newEntry newFields
  refine wpAny_bind (wpAny_newObj_type ?_ (hpl.sizeOk5 _ _ _ _ _))
  have he₁ : h₁.get? e = some oe := (hs₁.2.1 e heL).trans he
  have he₂ := Heap.get?_push_of_some (h := h₁) { cls := .type "traceback", dict := none, data := .fields ([Value.none, .ref L, .none, rawInt L, .none] ++ (if pl.isEmpty then List.replicate 6 Value.none else pl)).toArray } he₁
  refine wpAny_setField he₂ hd hsz (h _ h₁.objs.size ?_ ?_ ?_)
  · exact Heap.get?_none_of_le (Nat.le_of_eq hs₁.1.symm)
  · have hTe : h₁.objs.size ≠ e := Nat.ne_of_gt (Heap.lt_size he₁)
    obtain ⟨p1, p2⟩ := put_field (i := 1) (x := Value.ref h₁.objs.size) he₂ hd
    refine ⟨_, _, _, _, p1, (Obj.cls_mapFields _ _).trans hcls, p2, by simp [hsz], ?_, hTe, (Heap.get?_update_other _ _ (Ne.symm hTe)).trans (Heap.get?_push_size h₁ rfl), rfl, ?_⟩
    · rw [Array.getElem?_setIfInBounds_ne (by decide)]; exact h2
    · first | (simp; done) | (rcases hpl with rfl | ⟨_, _, _, _, _, _, _, rfl⟩ <;> simp)
  · intro b o hb hbe
    obtain ⟨sl, e1⟩ := hs₁.2.2 b o hb
    refine ⟨sl, (Heap.get?_update_other _ _ (Ne.symm hbe)).trans (Heap.get?_push_of_some _ e1), fun hbS => ?_⟩
    have e2 := (hs₁.2.1 b hbS).trans hb
    rw [e1] at e2
    cases o
    simpa using e2
end
end
-- F23
section
set_option maxRecDepth 100000
set_option maxHeartbeats 1000000
variable {prog : Program} {w : World}
structure Cal (env envL : Env) (LL : Addr) : Prop where
  kd2 : envL.scope.kind ≠ .module
  fr : env.frame = some env.locals
  fr2 : envL.frame = some LL

noncomputable def Lw (kp : Kpt) (LL : Addr) (sl : Array (Option Value)) : Kpt := fun a => if a = LL then (kp LL).map fun o => { o with slots := sl } else kp a

/-- what the caller's frame is to this one -/
structure Low (K : Frag) (kp : Kpt) (O : Addr → Prop) (LL : Addr) : Prop where
  obj : ∃ o, kp LL = some o ∧ (∀ vs, o.data ≠ .fields vs) ∧ isSeq o = false
  bs : ∃ hB, Bs K hB ∧ hB.get? LL = none ∧ ∀ a o, hB.get? a = some o → kp a = some o
  no : ¬ O LL
theorem Low.slots {K : Frag} {kp : Kpt} {O : Addr → Prop} {LL : Addr} (x : Low K kp O LL) (sl : Array (Option Value)) : Low K (Lw kp LL sl) O LL := by
  obtain ⟨o, e, d, q⟩ := x.obj
  refine ⟨⟨{ o with slots := sl }, by unfold Lw; rw [if_pos rfl, e]; rfl, d, q⟩, ?_, x.no⟩
  obtain ⟨hB, b, n, k⟩ := x.bs
  refine ⟨hB, b, n, fun a o' e' => ?_⟩
  have : a ≠ LL := fun q => by rw [q, n] at e'; cases e'
  unfold Lw; rw [if_neg this]; exact k a o' e'
theorem Lw_none {kp : Kpt} {LL a : Addr} {sl : Array (Option Value)} (h : kp a = none) : Lw kp LL sl a = none := by
  unfold Lw
  split
  · rename_i e; rw [← e, h]; rfl
  · exact h

section
variable {K : Frag} {sE : Shared} {kp : Kpt} {O : Addr → Prop} {env envL : Env} {σ : Sto} {ad : Str → Addr} {s : Shared} {LL : Addr} {A : Around} {E : Value → Shared → Prop} {e T : Addr} {fl c : Value}

theorem moved {h' : Heap} (F : FR K sE kp O env σ ad s) (W : FW kp env σ ad s) (hT : kp T = none) (x : ExcAt s.heap e T fl c) (m : Mv [] (· = T) s.heap h') : FR K sE kp O env σ ad { s with heap := h' } ∧ FW kp env σ ad { s with heap := h' } := by
  refine shift (tk := s.toks) F W m (fun b hb => by cases hb) (fun b hb o eo => ?_) (fun a o ka => ?_) F.bs F.dom fun a h => h
  · obtain ⟨o', e', nf, ns⟩ := x.isX (.inr hb)
    rw [eo] at e'; cases e'; exact ⟨nf, ns⟩
  · exact m.same (F.kept a o ka) (by rintro rfl; rw [hT] at ka; cases ka) (fun h => by cases h)

theorem noted {M : Model} {h' : Heap} {tk : Nat} (C : Cal env envL LL) (hfr : A.frames = some [env, envL]) (lw : Low K kp O LL) (F : FR K sE kp O env σ ad s) (W : FW kp env σ ad s) (x : ExcNew s.heap h' e c) {Q : Unit → Shared → Prop}
    (hq : ∀ h'' T sl, FR K sE (Lw kp LL sl) O env σ ad { s with heap := h'', toks := tk } → FW (Lw kp LL sl) env σ ad { s with heap := h'', toks := tk } → ExcAt h'' e T (rawInt env.locals) c → kp e = none → kp T = none → Q () { s with heap := h'', toks := tk }) :
    wpAny M A (noteFrame (.ref e) env) Q E { s with heap := h', toks := tk } := by
  obtain ⟨xk, xn, oe, vs, he, hcls, hd, h1, h2⟩ := x
  have k1 : Keeps s { s with heap := h', toks := tk } := ⟨h', tk, rfl, xk⟩
  have F1 := F.keeps k1
  have W1 := W.keeps k1
  have hke : kp e = none := by
    cases q : kp e with
    | none => rfl
    | some o => have := F.kept _ _ q; rw [xn] at this; cases this
  obtain ⟨m0, hns⟩ := W1.ns
  obtain ⟨oL, es, ep, eL, dL, _⟩ := id hns
  obtain ⟨oLL, kLL, dLL, sLL⟩ := lw.obj
  have eLL : h'.get? LL = some oLL := F1.kept _ _ kLL
  refine note_new hfr (by rw [F.kd]; decide) C.kd2 C.fr C.fr2 eL (fun vs q => by rw [dL] at q; cases q) eLL dLL he hcls hd h1 h2 fun h'' T hTn x2 mv => ?_
  have hkT : kp T = none := by
    cases q : kp T with
    | none => rfl
    | some o => have := F1.kept _ _ q; rw [show (({ s with heap := h', toks := tk } : Shared).heap.get? T) = none from hTn] at this; cases this
  have hLe : LL ≠ e := by rintro rfl; rw [hke] at kLL; cases kLL
  obtain ⟨sl, eLL', _⟩ := mv LL oLL eLL hLe
  suffices key : FR K sE (Lw kp LL sl) O env σ ad { s with heap := h'', toks := tk } ∧ FW (Lw kp LL sl) env σ ad { s with heap := h'', toks := tk } from hq h'' T sl key.1 key.2 x2 hke hkT
  refine shift (s := { s with heap := h', toks := tk }) (kp' := Lw kp LL sl) (tk := tk) F1 W1 mv (fun b hb o eo => ?_) (fun b hb o eo => ?_) (fun a o ka => ?_) ?_ (fun a q => ?_) fun a h => Lw_none h
  · rcases List.mem_cons.mp hb with rfl | hb
    · exact ns_notSeq hns eo
    · rw [List.mem_singleton.mp hb] at eo
      have eo' : h'.get? LL = some o := eo
      rw [eLL] at eo'; cases eo'; exact sLL
  · have hb : b = e := hb
    subst hb
    have eo' : h'.get? b = some o := eo
    have he' : h'.get? b = some oe := he
    rw [he'] at eo'; cases eo'
    exact ⟨by unfold notFrame; rw [hd], by unfold isSeq; rw [hd]⟩
  · unfold Lw at ka
    split at ka
    · rename_i q; subst q
      rw [kLL] at ka; cases ka; exact eLL'
    · rename_i hne
      refine mv.same (F1.kept a o ka) (by rintro rfl; rw [hke] at ka; cases ka) (fun hb => ?_)
      rcases List.mem_cons.mp hb with rfl | hb
      · rw [W.new] at ka; cases ka
      · exact hne (List.mem_singleton.mp hb)
  · exact (lw.slots sl).bs.imp fun hB h => ⟨h.1, h.2.2⟩
  · obtain ⟨o, e⟩ := F.dom a q
    have : a ≠ LL := by rintro rfl; exact lw.no q
    exact ⟨o, by unfold Lw; rw [if_neg this]; exact e⟩

/-- what is handled meanwhile -/
noncomputable def HndK (A : Around) (kp : Kpt) (c : Value) : Prop := (A.handled = none ∧ c = .none) ∨ ∃ e o vs, A.handled = some (.ref e) ∧ c = .ref e ∧ kp e = some o ∧ o.data = .fields vs ∧ vs[2]? = some .none
theorem HndK.at (h : HndK A kp c) (F : FR K sE kp O env σ ad s) : Hnd A s.heap c := by
  rcases h with h | ⟨e, o, vs, a, b, d, r⟩
  · exact .inl h
  · exact .inr ⟨e, o, vs, a, b, F.kept _ _ d, r⟩

/-- an item behind the end -/
theorem sub_out {n : Nat} {nm idx : Str} {p1 p2 p3 : Pos} {ds : List D} {k : Nat} {Q : Value → Shared → Prop} (hn : σ.lookup nm = some (.v (.list ds))) (hi : σ.lookup idx = some (.v (.int (k : Nat)))) (hd1 : (nm == ("__debug__" : Str)) = false) (hd2 : (idx == ("__debug__" : Str)) = false)
    (F : FR K sE kp O env σ ad s) (R : Room false n A) (hh : HndK A kp c) (hk : ds.length ≤ k) (hz : k ≤ 1000000)
    (hE : ∀ s₁ h' tk e, Keeps s s₁ → ExcNew s₁.heap h' e c → E (.ref e) { s₁ with heap := h', toks := tk }) :
    wpAny (model prog w) A (eval (.Subscript (.Name nm p1) (.Name idx p2) p3) env) Q E s := by
  refine Subscript_ (two (Ev.val hn hd1) (Ev.val hi hd2) F R fun a b s' k1 r1 r2 => ?_)
  have F1 := F.keeps k1
  replace r2 := r2.inv; cases r2 with
  | int u =>
  replace r1 := r1.inv; cases r1 with
  | @list a vs m hO e r =>
    have hlen := r.length
    have hL : s'.heap.IsList a vs.toArray := ⟨_, e, rfl, m, rfl⟩
    exact tail_any hL.typeIs slot_list_getitem.lookup (item_out (hh.at F1) hL (by rw [List.size_toArray]; omega) (by omega) fun h' tk e x => hE s' h' tk e k1 x) rfl

theorem set_set (x : Str) (p q : PV) : ∀ σ : Sto, Sto.set (Sto.set σ x p) x q = Sto.set σ x q
  | [] => by simp [Sto.set]
  | (y, r) :: σ => by
    have ih := set_set x p q σ
    by_cases h : (x == y) = true
    · simp only [Sto.set, h, if_true]
    · simp only [Sto.set, h, if_false, Bool.false_eq_true, ih]
theorem look_set {x y : Str} {p : PV} (h : y ≠ x) : (Sto.set σ x p).lookup y = σ.lookup y := by rw [Sto.set_get, if_neg h]
theorem look_self {x : Str} {p : PV} : (Sto.set σ x p).lookup x = some p := by rw [Sto.set_get, if_pos rfl]
theorem set_id {x : Str} {p : PV} (h : σ.lookup x = some p) : subSto (Sto.set σ x p) σ := fun y q e => by
  rw [Sto.set_get] at e
  split at e
  · subst_vars; cases e; exact h
  · exact e

/-- how far the items are alike -/
noncomputable def runTo (v : Row) (xs : List Row) (k : Nat) : Nat := k + ((xs.drop k).takeWhile (· == v)).length

noncomputable abbrev skipStmt (nm idx var : Str) (p1 p2 p3 p4 p5 p6 p7 p8 p9 : Pos) (kk : Nat) : Stmt :=
  .While (.Compare (.Subscript (.Name nm p1) (.Name idx p2) p3) [.Eq] [.Name var p4] p5) [.AugAssign (.Name idx p6) .Add (.Constant (.int 1) kk p7) p8] [] p9
end
end
-- F24
section
set_option maxRecDepth 100000
set_option maxHeartbeats 1000000
variable {prog : Program} {w : World}
theorem take_run (v : Row) : ∀ l : List Row, (∀ i, i < (l.takeWhile (· == v)).length → l[i]? = some v) ∧ ∀ x, l[(l.takeWhile (· == v)).length]? = some x → x ≠ v
  | [] => ⟨fun i h => by simp at h, fun x h => by simp at h⟩
  | a :: l => by
    obtain ⟨q1, q2⟩ := take_run v l
    by_cases h : a = v
    · subst h
      simp only [List.takeWhile_cons, beq_self_eq_true, if_true, List.length_cons]
      refine ⟨fun i hi => ?_, fun x hx => q2 x (by simpa using hx)⟩
      cases i with
      | zero => rfl
      | succ i => exact q1 i (by omega)
    · have hb : (a == v) = false := by simpa using h
      simp only [List.takeWhile_cons, hb, Bool.false_eq_true, if_false, List.length_nil]
      refine ⟨fun i hi => absurd hi (Nat.not_lt_zero _), fun x hx => ?_⟩
      have : a = x := by simpa using hx
      subst this; exact h
theorem runTo_spec (v : Row) (xs : List Row) (k : Nat) (hk : k ≤ xs.length) : k ≤ runTo v xs k ∧ runTo v xs k ≤ xs.length ∧ (∀ i, k ≤ i → i < runTo v xs k → xs[i]? = some v) ∧ (∀ x, xs[runTo v xs k]? = some x → x ≠ v) := by
  have h1 : ((xs.drop k).takeWhile (· == v)).length ≤ (xs.drop k).length := (List.takeWhile_sublist _).length_le
  rw [List.length_drop] at h1
  obtain ⟨q1, q2⟩ := take_run v (xs.drop k)
  refine ⟨by unfold runTo; omega, by unfold runTo; omega, fun i h2 h3 => ?_, fun x hx => ?_⟩
  · have h4 := q1 (i - k) (by unfold runTo at h3; omega)
    rw [List.getElem?_drop] at h4
    rwa [show k + (i - k) = i by omega] at h4
  · exact q2 x (by rw [List.getElem?_drop]; exact hx)

theorem Iop_z {z : Bool} {n : Nat} {op : Operator} {a b d d' : D} (h : Iop prog w (KK w) z n op a b d) (e : d = d') : Iop prog w (KK w) z n op a b d' := e ▸ h
section
variable {sE : Shared} {kp : Kpt} {O : Addr → Prop} {env envL : Env} {σ : Sto} {ad : Str → Addr} {s : Shared} {LL : Addr} {A : Around} {E : Value → Shared → Prop} {c : Value}

theorem skipWhile {n : Nat} {nm idx var : Str} {p1 p2 p3 p4 p5 p6 p7 p8 p9 : Pos} {kk : Nat} {xs : List Row} {k : Nat} {v : Row} {Q : Flow → Shared → Prop} (C : Cal env envL LL) (hfr : A.frames = some [env, envL]) (lw : Low (KK w) kp O LL) (hh : HndK A kp c)
    (hn : σ.lookup nm = some (.v (.list (dRows xs)))) (hi : σ.lookup idx = some (.v (.int (k : Nat)))) (hv : σ.lookup var = some (.v (.bytes v))) (h1 : (nm == ("__debug__" : Str)) = false) (h2 : (idx == ("__debug__" : Str)) = false) (h3 : (var == ("__debug__" : Str)) = false)
    (n1 : nm ≠ idx) (n2 : var ≠ idx) (hs : Storable env idx) (hk : k ≤ xs.length) (hz : xs.length ≤ 1000) (F : FR (KK w) sE kp O env σ ad s) (W : FW kp env σ ad s) (R : Room false n A)
    (hq : runTo v xs k < xs.length → ∀ s' ad', FR (KK w) sE kp O env (Sto.set σ idx (.v (.int (runTo v xs k : Nat)))) ad' s' → FW kp env (Sto.set σ idx (.v (.int (runTo v xs k : Nat)))) ad' s' → Q .next s')
    (he : runTo v xs k = xs.length → ∀ s' ad' e T sl, FR (KK w) sE (Lw kp LL sl) O env (Sto.set σ idx (.v (.int (xs.length : Nat)))) ad' s' → FW (Lw kp LL sl) env (Sto.set σ idx (.v (.int (xs.length : Nat)))) ad' s' →
      ExcAt s'.heap e T (rawInt env.locals) c → kp e = none → kp T = none → E (.ref e) s') :
    wpAny (model prog w) A (exec (skipStmt nm idx var p1 p2 p3 p4 p5 p6 p7 p8 p9 kk) env) Q E s := by
  obtain ⟨r1, r2, r3, r4⟩ := runTo_spec v xs k hk
  let τ : Nat → Sto := fun i => Sto.set σ idx (.v (.int (i : Nat)))
  refine wpAny_While (codeAny_whileLoop (fun m s' => ∃ i ad', m = xs.length - i ∧ k ≤ i ∧ i ≤ runTo v xs k ∧ FR (KK w) sE kp O env (τ i) ad' s' ∧ FW kp env (τ i) ad' s') ?_ (xs.length - k) ⟨k, ad, rfl, Nat.le_refl _, r1, F.sub (set_id hi), W.sub (set_id hi)⟩)
  rintro m s₁ ⟨i, ad₁, rfl, hki, hir, F₁, W₁⟩
  have l1 : (τ i).lookup nm = some (.v (.list (dRows xs))) := (look_set n1).trans hn
  have l2 : (τ i).lookup idx = some (.v (.int (i : Nat))) := look_self
  have l3 : (τ i).lookup var = some (.v (.bytes v)) := (look_set n2).trans hv
  by_cases hlt : i < xs.length
  · have hx : (dRows xs)[i]? = some (.bytes xs[i]) := by rw [List.getElem?_map, List.getElem?_eq_getElem hlt]; rfl
    have T1 : Tr prog w (KK w) false n env (τ i) (.Compare (.Subscript (.Name nm p1) (.Name idx p2) p3) [.Eq] [.Name var p4] p5) (xs[i] == v) :=
      Tr.cmp (Ev.sub (Ev.val l1 h1) (Ev.val l2 h2) (Sop.listItem (Int.natCast_nonneg _) (by omega) (by rw [Int.toNat_natCast]; exact hx) (fun _ _ => rfl))) (Ev.val l3 h3) Cop.eqB rfl
    refine wpAny_mono (T1 sE kp O ad₁ s₁ A _ F₁ R) (fun b s₂ q => ?_) fun _ _ x => x
    obtain ⟨rfl, k2⟩ := q
    have F₂ := F₁.keeps k2
    have W₂ := W₁.keeps k2
    by_cases hxv : xs[i] = v
    · rw [show (xs[i] == v) = true by simpa using hxv]
      simp only [if_true]
      have hir2 : i < runTo v xs k := by
        rcases Nat.lt_or_ge i (runTo v xs k) with q | q
        · exact q
        · have e : i = runTo v xs k := by omega
          exact absurd hxv (r4 xs[i] (by rw [← e]; exact List.getElem?_eq_getElem hlt))
      have X := Exs.cons (z := false) (prog := prog) (Ex.aug (n := n) (K := KK w) (px := p6) (pos := p8) (d := .int ((i + 1 : Nat) : Int)) l2 (Ev.int (i := 1) (k := kk) (pos := p7)) (Iop_z Iop.add (by congr 1)) rfl hs) Exs.nil
      refine wpAny_mono (X sE kp O ad₁ s₂ A _ F₂ W₂ R) (fun fl s₃ q => ?_) fun _ _ x => x
      obtain ⟨rfl, ad₃, F₃, W₃⟩ := q
      rw [show Sto.set (τ i) idx (.v (.int ((i + 1 : Nat) : Int))) = τ (i + 1) from set_set ..] at F₃ W₃
      exact ⟨xs.length - (i + 1), by omega, i + 1, ad₃, rfl, by omega, hir2, F₃, W₃⟩
    · rw [show (xs[i] == v) = false by simpa using hxv]
      simp only [Bool.false_eq_true, if_false]
      have e : i = runTo v xs k := by
        rcases Nat.lt_or_ge i (runTo v xs k) with q | q
        · have := r3 i hki q
          rw [List.getElem?_eq_getElem hlt] at this
          exact absurd (Option.some.inj this) hxv
        · omega
      subst e
      exact wpAny_execs_nil (hq hlt s₂ ad₁ F₂ W₂)
  · have e1 : i = xs.length := by omega
    have e2 : runTo v xs k = xs.length := by omega
    refine wpAny_isTrue_Compare1 (sub_out l1 l2 h1 h2 F₁ R hh (by rw [List.length_map]; omega) (by omega) fun s₂ h' tk e kq x => ?_) rfl
    have F₂ := F₁.keeps kq
    have W₂ := W₁.keeps kq
    show wpAny _ A (noteFrame (.ref e) env) _ _ _
    refine noted C hfr lw F₂ W₂ x fun h'' T sl F₃ W₃ x₃ ke kT => ?_
    refine came_back (S := []) C.fr x₃ fun h₄ x₄ mv => ?_
    obtain ⟨F₄, W₄⟩ := moved F₃ W₃ (Lw_none kT) x₃ mv
    subst e1
    exact he e2 _ ad₁ e T sl F₄ W₄ x₄ ke kT
end
end
-- F25
section
set_option maxRecDepth 100000
set_option maxHeartbeats 1000000
variable {prog : Program} {w : World}
section
variable {z : Bool} {n : Nat} {env : Env} {σ : Sto}
/-- x = y = e, a plain datum -/
theorem Ex.assign2 {x y : Str} {px py pos : Pos} {value : Expr} {d : D} (h : Ev prog w (KK w) z n env σ value d) (hx : Storable env x) (hy : Storable env y) (hi : d.imm = true)
    (he : (assignEach [Expr.Name x px, Expr.Name y py] env).map (·.2) = [PySem.assign (.Name x px) env, PySem.assign (.Name y py) env]) (hw : swappedStores [Expr.Name x px, Expr.Name y py] value env = pure none) :
    Ex prog w (KK w) z n env σ (.Assign [.Name x px, .Name y py] value pos) (.next (Sto.set (Sto.set σ x (.v d)) y (.v d))) := by
  intro sE kp O ad s A E F W R
  refine wpAny_Assign_two (wpAny_mono (h sE kp O ad s A E F R) (fun v s₁ ⟨k, r⟩ => ?_) fun _ _ x => x) he hw
  refine wpAny_assign_Name (store F.kd (W.keeps k) hx fun s₂ S => ?_)
  obtain ⟨F2, W2⟩ := set_v (F.keeps k) (W.keeps k) S (r.imm hi)
  refine wpAny_assign_Name (store F2.kd W2 hy fun s₃ S3 => ⟨rfl, ad, set_v F2 W2 S3 (r.imm hi)⟩)

/-- x.extend(e) -/
theorem Ex.extend {x : Str} {p1 apos pos pos2 : Pos} {e : Expr} {ds es : List D} (hx : σ.lookup x = some (.o ds)) (h : Ev prog w (KK w) z n env σ e (.list es)) (hi : es.all D.imm = true) (hz : ds.length + es.length ≤ 100000)
    (hd : (x == ("__debug__" : Str)) = false) (hst : notStar e = true) (hline : (apos.endLine == pos.line) = true) :
    Ex prog w (KK w) z n env σ (.Expr (.Call (.Attribute (.Name x p1) "extend" apos) [e] [] pos) pos2) (.next (Sto.set σ x (.o (ds ++ es)))) := by
  intro sE kp O ad s A E F W R
  obtain ⟨hv, hkp, vs, n', e₁, rs⟩ := F.owns x ds hx
  have hs1 : backTo pos (starEach [e] env) = [(false, eval e env)] := by rw [starEach_cons hst]; rfl
  refine wpAny_Expr_any (wpAny_Call_method rfl (by rw [hs1]; rfl) hline PySem.F.plainAttrs_list PySem.F.slot_list_extend PySem.F.type_list_extend ?_) (interactive_of F.kd) rfl
  refine wpAny_Name (load_var F hv ⟨⟨_, e₁, rfl⟩, fun a q => (by cases q; exact ⟨_, e₁, rfl⟩), ?_⟩) hd
  rw [hs1]
  refine callWith_g (by intro y hy; rw [List.mem_singleton.mp hy]) rfl ?_
  refine Calls.spliced_cons (wpAny_mono (h sE kp O ad s A E F R) (fun v s₁ ⟨k, r⟩ => Calls.spliced_nil (wpAny_evalAll_nil ⟨.inl (fun _ => nofun), ?_⟩)) fun _ _ x => x)
  have F₁ := F.keeps k
  have e₂ := kheap k _ _ e₁
  replace r := r.inv; cases r with
  | @list b us m hO e₃ r₃ =>
    have hl : vs.length = ds.length := rs.length
    have hl' : us.length = es.length := r₃.length
    have hsz : vs.toArray.size + us.toArray.size ≤ 1000000 := by simp; omega
    refine call_meets PySem.F.slot_list_extend ⟨_, e₂, rfl⟩ PySem.F.entry_list_extend (PySem.F.args_list_extend_2 _ _) (AutoSeq1.list_extend_list_list_0 (ad x) vs.toArray n' b us.toArray m (tooLong_no hsz) (by rw [sizeLine_eq]; omega) (by rw [sizeLine_eq]; omega)) ⟨e₂, e₃, ?_⟩
    obtain ⟨n'', hob⟩ := concat_obj vs us n'
    have e₄ : (s₁.heap.update (ad x) (Obj.mapSeq fun xs => xs ++ us.toArray)).get? (ad x) = some (lobj (vs ++ us) n'') := by
      rw [Heap.get?_update_self _ e₂ (by rw [hob]; rfl), hob]
    have hs := Heap.SameBut.update s₁.heap (ad x) (Obj.mapSeq fun xs => xs ++ us.toArray)
    have rim : Reps (Pf O σ ad) s₁.heap us es := r₃.imms hi
    obtain ⟨G, Wg⟩ := grow (tk := s₁.toks) F₁ (W.keeps k) hx e₂ e₄ hs rim
    exact ⟨rfl, ad, G, Wg⟩
end
end
-- F26
section
set_option maxRecDepth 100000
set_option maxHeartbeats 1000000
variable {prog : Program} {w : World}
noncomputable def sd (xs ys : List Row) : List Row × List Row :=
  match xs, ys with
  | [], ys => ([], ys)
  | x :: xs, [] => (x :: xs, [])
  | x :: xs, y :: ys =>
    if nums x < nums y then let r := sd (xs.dropWhile (· == x)) (y :: ys); (x :: r.1, r.2)
    else if nums y < nums x then let r := sd (x :: xs) (ys.dropWhile (· == y)); (r.1, y :: r.2)
    else sd (xs.dropWhile (· == x)) (ys.dropWhile (· == y))
termination_by xs.length + ys.length
decreasing_by
  all_goals
    have h1 : (List.dropWhile (· == x) xs).length ≤ xs.length := (List.dropWhile_sublist _).length_le
    have h2 : (List.dropWhile (· == y) ys).length ≤ ys.length := (List.dropWhile_sublist _).length_le
    simp only [List.length_cons]
    omega
theorem sd_nil (ys : List Row) : sd [] ys = ([], ys) := by rw [sd]
theorem sd_nil2 (xs : List Row) : sd xs [] = (xs, []) := by cases xs <;> rw [sd]
theorem sd_lt {x y : Row} {xs ys : List Row} (h : nums x < nums y) : sd (x :: xs) (y :: ys) = (x :: (sd (xs.dropWhile (· == x)) (y :: ys)).1, (sd (xs.dropWhile (· == x)) (y :: ys)).2) := by rw [sd, if_pos h]
theorem sd_gt {x y : Row} {xs ys : List Row} (h0 : ¬ nums x < nums y) (h : nums y < nums x) : sd (x :: xs) (y :: ys) = ((sd (x :: xs) (ys.dropWhile (· == y))).1, y :: (sd (x :: xs) (ys.dropWhile (· == y))).2) := by rw [sd, if_neg h0, if_pos h]
theorem sd_eq {x y : Row} {xs ys : List Row} (h0 : ¬ nums x < nums y) (h : ¬ nums y < nums x) : sd (x :: xs) (y :: ys) = sd (xs.dropWhile (· == x)) (ys.dropWhile (· == y)) := by rw [sd, if_neg h0, if_neg h]
theorem drop_runTo (v : Row) (xs : List Row) (k : Nat) : xs.drop (runTo v xs k) = (xs.drop k).dropWhile (· == v) := by
  unfold runTo
  rw [← List.drop_drop]
  generalize xs.drop k = l
  conv => lhs; rw [← List.takeWhile_append_dropWhile (p := (· == v)) (l := l)]
  rw [show (List.takeWhile (· == v) l ++ List.dropWhile (· == v) l).takeWhile (· == v) = List.takeWhile (· == v) l by rw [List.takeWhile_append_dropWhile]]
  exact List.drop_left ..

section
variable {sE : Shared} {kp : Kpt} {O : Addr → Prop} {env envL : Env} {σ : Sto} {ad : Str → Addr} {s : Shared} {LL : Addr} {A : Around} {E : Value → Shared → Prop} {c : Value} {n : Nat} {e T : Addr}

noncomputable abbrev lk (σ : Sto) (x : Str) : Option PV := List.lookup x σ
noncomputable abbrev extStmt (nm src idx : Str) (p1 p2 p3 p4 p5 p6 p7 p8 : Pos) : Stmt :=
  .Expr (.Call (.Attribute (.Name nm p1) "extend" p2) [.Subscript (.Name src p3) (.Slice (some (.Name idx p4)) none none p5) p6] [] p7) p8

theorem Room.mark {A : Around} {n : Nat} {h : Option Value} {z : Bool} (R : Room z n A) : Room false n (A.mark h) := by
  cases h with
  | none => rw [Around.mark_none]; exact ⟨R.depth, R.units, fun q => by cases q⟩
  | some v => exact ⟨R.depth, R.units, fun q => by cases q⟩

/-- except IndexError: the rests are taken over -/
theorem handler {q1 q2 q3 q4 q5 q6 q7 q8 u1 u2 u3 u4 u5 u6 u7 u8 v1 v2 v3 : Pos} {xs ys ms us : List Row} {i j : Nat} {Q : Flow → Shared → Prop} (hf : env.frame = some env.locals) (F : FR (KK w) sE kp O env σ ad s) (W : FW kp env σ ad s) (R : Room false n A)
    (x : ExcAt s.heap e T (rawInt env.locals) c) (kT : kp T = none)
    (lx : lk σ "expected" = some (.v (.list (dRows xs)))) (ly : lk σ "actual" = some (.v (.list (dRows ys)))) (li : lk σ "i" = some (.v (.int (i : Nat)))) (lj : lk σ "j" = some (.v (.int (j : Nat))))
    (lm : lk σ "missing" = some (.o (dRows ms))) (lu : lk σ "unexpected" = some (.o (dRows us))) (hi : i ≤ xs.length) (hj : j ≤ ys.length) (z1 : xs.length ≤ 1000) (z2 : ys.length ≤ 1000) (z3 : ms.length ≤ 1000) (z4 : us.length ≤ 1000)
    (hk : env.kindOf "IndexError" = some .globalImplicit) (l1 : (q2.endLine == q7.line) = true) (l2 : (u2.endLine == u7.line) = true)
    (hq : ∀ s' ad', FR (KK w) sE kp O env (Sto.set (Sto.set σ "missing" (.o (dRows (ms ++ xs.drop i)))) "unexpected" (.o (dRows (us ++ ys.drop j)))) ad' s' → FW kp env (Sto.set (Sto.set σ "missing" (.o (dRows (ms ++ xs.drop i)))) "unexpected" (.o (dRows (us ++ ys.drop j)))) ad' s' → Q .brk s') :
    wpAny (model prog w) A (setFlight (.ref e) none) (fun _ s₃ => wpAny (model prog w) A (handleBy (.ref e) env [.ExceptHandler (some (.Name "IndexError" v1)) none [extStmt "missing" "expected" "i" q1 q2 q3 q4 q5 q6 q7 q8, extStmt "unexpected" "actual" "j" u1 u2 u3 u4 u5 u6 u7 u8, .Break v2] v3]) Q E s₃) E s := by
  refine set_flight (S := []) x fun h₁ x₁ m₁ => ?_
  obtain ⟨F₁, W₁⟩ := moved F W kT x m₁
  refine wpAny_handleBy_builtin (X := "IndexError") (T := "IndexError") PySem.F.isExc_IndexError PySem.F.notTuple_IndexError PySem.F.self_IndexError ?_
  have R' : Room false n (A.mark (some (.ref e))) := R.mark
  have N1 : Ev prog w (KK w) false n env σ (.Name "IndexError" v1) (.raw (.type "IndexError")) := Ev.blt (by kernel_rfl) (by boot_fact) (by decide) hk (by decide)
  refine wpAny_mono (N1 sE kp O ad _ _ _ F₁ R') (fun v s₂ ⟨k, r⟩ => ?_) fun _ _ x => x
  replace r := r.inv; cases r
  have F₂ := F₁.keeps k
  have W₂ := W₁.keeps k
  have x₂ : ExcAt s₂.heap e T .none c := x₁.keep (fun o => kheap k e o) (fun o => kheap k T o)
  refine ⟨rfl, ?_, ?_⟩
  · obtain ⟨oe, _, _, _, he, hc, _⟩ := x₂
    exact ⟨oe, he, hc⟩
  simp only [if_true]
  refine set_flight (S := []) x₂ fun h₃ x₃ m₃ => ?_
  obtain ⟨F₃, W₃⟩ := moved F₂ W₂ kT x₂ m₃
  have X : Exs prog w (KK w) false n env σ [extStmt "missing" "expected" "i" q1 q2 q3 q4 q5 q6 q7 q8, extStmt "unexpected" "actual" "j" u1 u2 u3 u4 u5 u6 u7 u8, .Break v2]
      (.brk (Sto.set (Sto.set σ "missing" (.o (dRows (ms ++ xs.drop i)))) "unexpected" (.o (dRows (us ++ ys.drop j))))) := by
    have d1 : dRows (ms ++ xs.drop i) = dRows ms ++ dRows (xs.drop i) := List.map_append
    have d2 : dRows (us ++ ys.drop j) = dRows us ++ dRows (ys.drop j) := List.map_append
    rw [d1, d2]
    have g : ∀ {x : Str}, x ≠ "missing" → lk (Sto.set σ "missing" (.o (dRows ms ++ dRows (xs.drop i)))) x = lk σ x := fun h => look_set h
    refine Exs.cons (Ex.extend (es := dRows (xs.drop i)) lm (Ev.mono (Ev.sliceFrom (k := (i : Int)) (Ev.val lx (by decide)) (Ev.val li (by decide)) (Int.natCast_nonneg _) ?_ ?_) ?_) (dRows_imm _) ?_ (by decide) rfl ?_) ?_
    · rw [Int.toNat_natCast, List.length_map]; exact hi
    · rw [List.length_map]; omega
    · rw [Int.toNat_natCast]; unfold dRows; rw [List.map_drop]
    · simp only [dRows, List.length_map, List.length_drop]; omega
    · exact l1
    refine Exs.cons (Ex.extend (es := dRows (ys.drop j)) ((g (by decide)).trans lu) (Ev.mono (Ev.sliceFrom (k := (j : Int)) (Ev.val ((g (by decide)).trans ly) (by decide)) (Ev.val ((g (by decide)).trans lj) (by decide)) (Int.natCast_nonneg _) ?_ ?_) ?_) (dRows_imm _) ?_ (by decide) rfl ?_) ?_
    · rw [Int.toNat_natCast, List.length_map]; exact hj
    · rw [List.length_map]; omega
    · rw [Int.toNat_natCast]; unfold dRows; rw [List.map_drop]
    · simp only [dRows, List.length_map, List.length_drop]; omega
    · exact l2
    exact Exs.stop Ex.brk rfl
  refine wpAny_mono (X sE kp O ad _ _ _ F₃ W₃ R') (fun f s' q => ?_) fun _ _ x => x
  obtain ⟨rfl, ad', F', W'⟩ := q
  exact hq s' ad' F' W'
end
end
-- F27
section
set_option maxRecDepth 100000
set_option maxHeartbeats 1000000
variable {prog : Program} {w : World}
noncomputable def sdS (xs ys : List Row) (i j : Nat) (ms us : List Row) : Sto := [("actual", .v (.list (dRows ys))), ("expected", .v (.list (dRows xs))), ("i", .v (.int (i : Nat))), ("j", .v (.int (j : Nat))), ("missing", .o (dRows ms)), ("unexpected", .o (dRows us))]

noncomputable def eaS (x y : Row) : Sto := [("e", .v (.bytes x)), ("a", .v (.bytes y))]

noncomputable def Catches (w : World) (sE : Shared) (kp : Kpt) (O : Addr → Prop) (env : Env) (LL : Addr) (xs ys M U : List Row) (E : Value → Shared → Prop) : Prop :=
  ∀ s' ad' e T c sl i' j' ms' us', FR (KK w) sE (Lw kp LL sl) O env (sdS xs ys i' j' ms' us') ad' s' → FW (Lw kp LL sl) env (sdS xs ys i' j' ms' us') ad' s' → ExcAt s'.heap e T (rawInt env.locals) c → Lw kp LL sl T = none →
    i' ≤ xs.length → j' ≤ ys.length → ms'.length ≤ 1000 → us'.length ≤ 1000 → ms' ++ xs.drop i' = M → us' ++ ys.drop j' = U → E (.ref e) s'
noncomputable def Nexts (w : World) (sE : Shared) (kp : Kpt) (O : Addr → Prop) (env : Env) (xs ys M U : List Row) (m : Nat) (Q : Flow → Shared → Prop) : Prop :=
  ∀ s' ad' i' j' ms' us', FR (KK w) sE kp O env (sdS xs ys i' j' ms' us') ad' s' → FW kp env (sdS xs ys i' j' ms' us') ad' s' → i' ≤ xs.length → j' ≤ ys.length → (xs.length - i') + (ys.length - j') < m → ms'.length ≤ i' → us'.length ≤ j' →
    ms' ++ (sd (xs.drop i') (ys.drop j')).1 = M → us' ++ (sd (xs.drop i') (ys.drop j')).2 = U → Q .next s'

structure SldEnv (env : Env) : Prop where
  i : env.kindOf "i" = some .local
  j : env.kindOf "j" = some .local
  e : env.kindOf "e" = some .local
  a : env.kindOf "a" = some .local
  exc : env.kindOf "IndexError" = some .globalImplicit

section
variable {sE : Shared} {kp : Kpt} {O : Addr → Prop} {env envL : Env} {ad : Str → Addr} {s : Shared} {LL : Addr} {A : Around} {E : Value → Shared → Prop} {Q : Flow → Shared → Prop} {n : Nat} {xs ys ms us M U : List Row} {i j : Nat} {x y : Row}

noncomputable abbrev incStmt (nm : Str) (p1 p2 p3 : Pos) (kk : Nat) : Stmt := .AugAssign (.Name nm p1) .Add (.Constant (.int 1) kk p2) p3
noncomputable abbrev appStmt (nm v : Str) (p1 p2 p3 p4 p5 : Pos) : Stmt := .Expr (.Call (.Attribute (.Name nm p1) "append" p2) [.Name v p3] [] p4) p5

theorem subS {i j : Nat} {ms us : List Row} {τ : Sto} : subSto (sdS xs ys i j ms us) (sdS xs ys i j ms us ++ τ) := subSto.app

theorem branchLt {a1 a2 a3 a4 a5 b1 b2 b3 p1 p2 p3 p4 p5 p6 p7 p8 p9 : Pos} {k1 k2 : Nat} (C : Cal env envL LL) (V : SldEnv env) (hfr : A.frames = some [env, envL]) (lw : Low (KK w) kp O LL) (R : Room true n A) (hh : A.handled = none) (hline : (a2.endLine == a4.line) = true)
    (F : FR (KK w) sE kp O env (sdS xs ys i j ms us ++ eaS x y) ad s) (W : FW kp env (sdS xs ys i j ms us ++ eaS x y) ad s)
    (hx : xs[i]? = some x) (hy : ys[j]? = some y) (z1 : xs.length ≤ 900) (z2 : ys.length ≤ 900) (m1 : ms.length ≤ i) (m2 : us.length ≤ j) (hlt : nums x < nums y)
    (hM : ms ++ (sd (xs.drop i) (ys.drop j)).1 = M) (hU : us ++ (sd (xs.drop i) (ys.drop j)).2 = U)
    (hC : Catches w sE kp O env LL xs ys M U E) (hN : Nexts w sE kp O env xs ys M U ((xs.length - i) + (ys.length - j)) Q) :
    wpAny (model prog w) A (execs [appStmt "missing" "e" a1 a2 a3 a4 a5, incStmt "i" b1 b2 b3 k1, skipStmt "expected" "i" "e" p1 p2 p3 p4 p5 p6 p7 p8 p9 k2] env) Q E s := by
  have hi : i < xs.length := (List.getElem?_eq_some_iff.mp hx).1
  have hj : j < ys.length := (List.getElem?_eq_some_iff.mp hy).1
  have dx : xs.drop i = x :: xs.drop (i + 1) := by rw [List.drop_eq_getElem_cons hi]; congr 1; rw [List.getElem?_eq_getElem hi] at hx; exact Option.some.inj hx
  have dy : ys.drop j = y :: ys.drop (j + 1) := by rw [List.drop_eq_getElem_cons hj]; congr 1; rw [List.getElem?_eq_getElem hj] at hy; exact Option.some.inj hy
  rw [dx, dy, sd_lt hlt, ← drop_runTo, ← dy] at hM hU
  obtain ⟨r1, r2, _, _⟩ := runTo_spec x xs (i + 1) hi
  refine wpAny_execs_cons (wpAny_mono (Ex.append (prog := prog) (w := w) (K := KK w) (z := true) (n := n) (ds := dRows ms) (d := .bytes x) rfl (Ev.val rfl (by decide)) rfl (by rw [List.length_map]; omega) (by decide) rfl hline sE kp O ad s A E F W R) (fun f s₁ q => ?_) fun _ _ x => x)
  obtain ⟨rfl, ad₁, F₁, W₁⟩ := q
  refine wpAny_execs_cons (wpAny_mono (Ex.aug (prog := prog) (w := w) (K := KK w) (z := true) (n := n) (d1 := .int (i : Nat)) (d := .int ((i + 1 : Nat) : Int)) rfl (Ev.int (i := 1)) (Iop_z Iop.add (by congr 1)) rfl (.inl V.i) sE kp O ad₁ s₁ A E F₁ W₁ R) (fun f s₂ q => ?_) fun _ _ x => x)
  obtain ⟨rfl, ad₂, F₂, W₂⟩ := q
  have e2 : Sto.set (Sto.set (sdS xs ys i j ms us ++ eaS x y) "missing" (.o (dRows ms ++ [.bytes x]))) "i" (.v (.int ((i + 1 : Nat) : Int))) = sdS xs ys (i + 1) j (ms ++ [x]) us ++ eaS x y := by
    unfold sdS eaS
    rw [show dRows (ms ++ [x]) = dRows ms ++ [.bytes x] from List.map_append]
    rfl
  rw [e2] at F₂ W₂
  have e3 : ∀ k : Nat, Sto.set (sdS xs ys (i + 1) j (ms ++ [x]) us ++ eaS x y) "i" (.v (.int (k : Nat))) = sdS xs ys k j (ms ++ [x]) us ++ eaS x y := fun k => rfl
  have hM' : (ms ++ [x]) ++ (sd (xs.drop (runTo x xs (i + 1))) (ys.drop j)).1 = M := by rw [List.append_assoc]; exact hM
  refine wpAny_execs_cons (skipWhile (n := n) (xs := xs) (k := i + 1) (v := x) C hfr lw (.inl ⟨hh, rfl⟩) rfl rfl rfl (by decide) (by decide) (by decide) (by decide) (by decide) (.inl V.i) hi (by omega) F₂ W₂ ⟨R.depth, R.units, fun q => by cases q⟩ (fun hr s₃ ad₃ F₃ W₃ => ?_) (fun hr s₃ ad₃ e T sl F₃ W₃ x₃ ke kT => ?_))
  · rw [e3] at F₃ W₃
    refine wpAny_execs_nil (hN s₃ ad₃ (runTo x xs (i + 1)) j (ms ++ [x]) us (F₃.sub subS) (W₃.sub subS) r2 (by omega) (by omega) ?_ (by omega) hM' hU)
    rw [List.length_append, List.length_singleton]; omega
  · rw [e3] at F₃ W₃
    rw [hr, List.drop_length, sd_nil] at hM' hU
    refine hC s₃ ad₃ e T .none sl xs.length j (ms ++ [x]) us (F₃.sub subS) (W₃.sub subS) x₃ (Lw_none kT) (Nat.le_refl _) (by omega) ?_ (by omega) ?_ hU
    · rw [List.length_append, List.length_singleton]; omega
    · rw [List.drop_length]; exact hM'

theorem branchGt {a1 a2 a3 a4 a5 b1 b2 b3 p1 p2 p3 p4 p5 p6 p7 p8 p9 : Pos} {k1 k2 : Nat} (C : Cal env envL LL) (V : SldEnv env) (hfr : A.frames = some [env, envL]) (lw : Low (KK w) kp O LL) (R : Room true n A) (hh : A.handled = none) (hline : (a2.endLine == a4.line) = true)
    (F : FR (KK w) sE kp O env (sdS xs ys i j ms us ++ eaS x y) ad s) (W : FW kp env (sdS xs ys i j ms us ++ eaS x y) ad s)
    (hx : xs[i]? = some x) (hy : ys[j]? = some y) (z1 : xs.length ≤ 900) (z2 : ys.length ≤ 900) (m1 : ms.length ≤ i) (m2 : us.length ≤ j) (h0 : ¬ nums x < nums y) (hlt : nums y < nums x)
    (hM : ms ++ (sd (xs.drop i) (ys.drop j)).1 = M) (hU : us ++ (sd (xs.drop i) (ys.drop j)).2 = U)
    (hC : Catches w sE kp O env LL xs ys M U E) (hN : Nexts w sE kp O env xs ys M U ((xs.length - i) + (ys.length - j)) Q) :
    wpAny (model prog w) A (execs [appStmt "unexpected" "a" a1 a2 a3 a4 a5, incStmt "j" b1 b2 b3 k1, skipStmt "actual" "j" "a" p1 p2 p3 p4 p5 p6 p7 p8 p9 k2] env) Q E s := by
  have hi : i < xs.length := (List.getElem?_eq_some_iff.mp hx).1
  have hj : j < ys.length := (List.getElem?_eq_some_iff.mp hy).1
  have dx : xs.drop i = x :: xs.drop (i + 1) := by rw [List.drop_eq_getElem_cons hi]; congr 1; rw [List.getElem?_eq_getElem hi] at hx; exact Option.some.inj hx
  have dy : ys.drop j = y :: ys.drop (j + 1) := by rw [List.drop_eq_getElem_cons hj]; congr 1; rw [List.getElem?_eq_getElem hj] at hy; exact Option.some.inj hy
  rw [dx, dy, sd_gt h0 hlt, ← drop_runTo, ← dx] at hM hU
  obtain ⟨r1, r2, _, _⟩ := runTo_spec y ys (j + 1) hj
  refine wpAny_execs_cons (wpAny_mono (Ex.append (prog := prog) (w := w) (K := KK w) (z := true) (n := n) (ds := dRows us) (d := .bytes y) rfl (Ev.val rfl (by decide)) rfl (by rw [List.length_map]; omega) (by decide) rfl hline sE kp O ad s A E F W R) (fun f s₁ q => ?_) fun _ _ x => x)
  obtain ⟨rfl, ad₁, F₁, W₁⟩ := q
  refine wpAny_execs_cons (wpAny_mono (Ex.aug (prog := prog) (w := w) (K := KK w) (z := true) (n := n) (d1 := .int (j : Nat)) (d := .int ((j + 1 : Nat) : Int)) rfl (Ev.int (i := 1)) (Iop_z Iop.add (by congr 1)) rfl (.inl V.j) sE kp O ad₁ s₁ A E F₁ W₁ R) (fun f s₂ q => ?_) fun _ _ x => x)
  obtain ⟨rfl, ad₂, F₂, W₂⟩ := q
  have e2 : Sto.set (Sto.set (sdS xs ys i j ms us ++ eaS x y) "unexpected" (.o (dRows us ++ [.bytes y]))) "j" (.v (.int ((j + 1 : Nat) : Int))) = sdS xs ys i (j + 1) ms (us ++ [y]) ++ eaS x y := by
    unfold sdS eaS
    rw [show dRows (us ++ [y]) = dRows us ++ [.bytes y] from List.map_append]
    rfl
  rw [e2] at F₂ W₂
  have e3 : ∀ k : Nat, Sto.set (sdS xs ys i (j + 1) ms (us ++ [y]) ++ eaS x y) "j" (.v (.int (k : Nat))) = sdS xs ys i k ms (us ++ [y]) ++ eaS x y := fun k => rfl
  have hU' : (us ++ [y]) ++ (sd (xs.drop i) (ys.drop (runTo y ys (j + 1)))).2 = U := by rw [List.append_assoc]; exact hU
  refine wpAny_execs_cons (skipWhile (n := n) (xs := ys) (k := j + 1) (v := y) C hfr lw (.inl ⟨hh, rfl⟩) rfl rfl rfl (by decide) (by decide) (by decide) (by decide) (by decide) (.inl V.j) hj (by omega) F₂ W₂ ⟨R.depth, R.units, fun q => by cases q⟩ (fun hr s₃ ad₃ F₃ W₃ => ?_) (fun hr s₃ ad₃ e T sl F₃ W₃ x₃ ke kT => ?_))
  · rw [e3] at F₃ W₃
    refine wpAny_execs_nil (hN s₃ ad₃ i (runTo y ys (j + 1)) ms (us ++ [y]) (F₃.sub subS) (W₃.sub subS) (by omega) r2 (by omega) (by omega) ?_ hM hU')
    rw [List.length_append, List.length_singleton]; omega
  · rw [e3] at F₃ W₃
    rw [hr, List.drop_length, sd_nil2] at hM hU'
    refine hC s₃ ad₃ e T .none sl i ys.length ms (us ++ [y]) (F₃.sub subS) (W₃.sub subS) x₃ (Lw_none kT) (by omega) (Nat.le_refl _) (by omega) ?_ hM ?_
    · rw [List.length_append, List.length_singleton]; omega
    · rw [List.drop_length]; exact hU'

noncomputable abbrev eqBody (b1 b2 b3 p1 p2 p3 p4 p5 p6 p7 p8 p9 c1 c2 c3 r1 r2 r3 r4 r5 r6 r7 r8 r9 tp : Pos) (k1 k2 k3 k4 : Nat) : List Stmt :=
  [incStmt "i" b1 b2 b3 k1, .Try [skipStmt "expected" "i" "e" p1 p2 p3 p4 p5 p6 p7 p8 p9 k2] [] [] [incStmt "j" c1 c2 c3 k3, skipStmt "actual" "j" "a" r1 r2 r3 r4 r5 r6 r7 r8 r9 k4] tp]

theorem Lw_up {h : Heap} {sl sl2 : Array (Option Value)} {fp : List Addr} {o' : Obj} (hkp : kp LL = some o') (hfp : LL ∉ fp) (hk : ∀ a ∈ fp, ∀ o, Lw kp LL sl a = some o → h.get? a = some o) :
    ∀ a o, Lw kp LL sl2 a = some o → Lw (kpWith (Lw kp LL sl) fp h) LL sl2 a = some o := by
  intro a o e
  unfold Lw at e
  unfold Lw
  split at e
  · rename_i q
    rw [if_pos q]
    unfold kpWith
    rw [if_neg hfp]
    dsimp only
    rw [if_pos rfl]
    rw [hkp] at e ⊢
    exact e
  · rename_i q
    rw [if_neg q]
    unfold kpWith
    split
    · rename_i hm
      exact hk a hm o (by unfold Lw; rw [if_neg q]; exact e)
    · dsimp only
      rw [if_neg q]; exact e

theorem branchEq {b1 b2 b3 p1 p2 p3 p4 p5 p6 p7 p8 p9 c1 c2 c3 r1 r2 r3 r4 r5 r6 r7 r8 r9 tp : Pos} {k1 k2 k3 k4 : Nat} (C : Cal env envL LL) (V : SldEnv env) (hfr : A.frames = some [env, envL]) (lw : Low (KK w) kp O LL) (R : Room true n A) (hh : A.handled = none)
    (F : FR (KK w) sE kp O env (sdS xs ys i j ms us ++ eaS x y) ad s) (W : FW kp env (sdS xs ys i j ms us ++ eaS x y) ad s)
    (hx : xs[i]? = some x) (hy : ys[j]? = some y) (z1 : xs.length ≤ 900) (z2 : ys.length ≤ 900) (m1 : ms.length ≤ i) (m2 : us.length ≤ j) (h0 : ¬ nums x < nums y) (hlt : ¬ nums y < nums x)
    (hM : ms ++ (sd (xs.drop i) (ys.drop j)).1 = M) (hU : us ++ (sd (xs.drop i) (ys.drop j)).2 = U)
    (hC : Catches w sE kp O env LL xs ys M U E) (hN : Nexts w sE kp O env xs ys M U ((xs.length - i) + (ys.length - j)) Q) :
    wpAny (model prog w) A (execs (eqBody b1 b2 b3 p1 p2 p3 p4 p5 p6 p7 p8 p9 c1 c2 c3 r1 r2 r3 r4 r5 r6 r7 r8 r9 tp k1 k2 k3 k4) env) Q E s := by
  have hi : i < xs.length := (List.getElem?_eq_some_iff.mp hx).1
  have hj : j < ys.length := (List.getElem?_eq_some_iff.mp hy).1
  have dx : xs.drop i = x :: xs.drop (i + 1) := by rw [List.drop_eq_getElem_cons hi]; congr 1; rw [List.getElem?_eq_getElem hi] at hx; exact Option.some.inj hx
  have dy : ys.drop j = y :: ys.drop (j + 1) := by rw [List.drop_eq_getElem_cons hj]; congr 1; rw [List.getElem?_eq_getElem hj] at hy; exact Option.some.inj hy
  rw [dx, dy, sd_eq h0 hlt, ← drop_runTo, ← drop_runTo] at hM hU
  obtain ⟨r1, r2, _, _⟩ := runTo_spec x xs (i + 1) hi
  obtain ⟨t1, t2, _, _⟩ := runTo_spec y ys (j + 1) hj
  have RF : Room false n A := ⟨R.depth, R.units, fun q => by cases q⟩
  refine wpAny_execs_cons (wpAny_mono (Ex.aug (prog := prog) (w := w) (K := KK w) (z := true) (n := n) (d1 := .int (i : Nat)) (d := .int ((i + 1 : Nat) : Int)) rfl (Ev.int (i := 1)) (Iop_z Iop.add (by congr 1)) rfl (.inl V.i) sE kp O ad s A E F W R) (fun f s₂ q => ?_) fun _ _ x => x)
  obtain ⟨rfl, ad₂, F₂, W₂⟩ := q
  have e2 : Sto.set (sdS xs ys i j ms us ++ eaS x y) "i" (.v (.int ((i + 1 : Nat) : Int))) = sdS xs ys (i + 1) j ms us ++ eaS x y := rfl
  rw [e2] at F₂ W₂
  have e3 : ∀ k : Nat, Sto.set (sdS xs ys (i + 1) j ms us ++ eaS x y) "i" (.v (.int (k : Nat))) = sdS xs ys k j ms us ++ eaS x y := fun k => rfl
  have e4 : ∀ i k : Nat, Sto.set (sdS xs ys i j ms us ++ eaS x y) "j" (.v (.int (k : Nat))) = sdS xs ys i k ms us ++ eaS x y := fun i k => rfl
  have e5 : ∀ i k : Nat, Sto.set (sdS xs ys i (j + 1) ms us ++ eaS x y) "j" (.v (.int (k : Nat))) = sdS xs ys i k ms us ++ eaS x y := fun i k => rfl
  refine wpAny_execs_cons (wpAny_Try_finally ?_)
  refine wpAny_execs_cons (skipWhile (n := n) (xs := xs) (k := i + 1) (v := x) C hfr lw (.inl ⟨hh, rfl⟩) rfl rfl rfl (by decide) (by decide) (by decide) (by decide) (by decide) (.inl V.i) hi (by omega) F₂ W₂ RF (fun hr s₃ ad₃ F₃ W₃ => ?_) (fun hr s₃ ad₃ e T sl F₃ W₃ x₃ ke kT => ?_))
  · -- nothing was raised
    rw [e3] at F₃ W₃
    refine wpAny_execs_nil (wpAny_execs_nil ?_)
    refine wpAny_execs_cons (wpAny_mono (Ex.aug (prog := prog) (w := w) (K := KK w) (z := true) (n := n) (d1 := .int (j : Nat)) (d := .int ((j + 1 : Nat) : Int)) rfl (Ev.int (i := 1)) (Iop_z Iop.add (by congr 1)) rfl (.inl V.j) sE kp O ad₃ s₃ A _ F₃ W₃ R) (fun f s₄ q => ?_) fun _ _ x => x)
    obtain ⟨rfl, ad₄, F₄, W₄⟩ := q
    rw [e4] at F₄ W₄
    refine wpAny_execs_cons (skipWhile (n := n) (xs := ys) (k := j + 1) (v := y) C hfr lw (.inl ⟨hh, rfl⟩) rfl rfl rfl (by decide) (by decide) (by decide) (by decide) (by decide) (.inl V.j) hj (by omega) F₄ W₄ RF (fun hr2 s₅ ad₅ F₅ W₅ => ?_) (fun hr2 s₅ ad₅ e T sl F₅ W₅ x₅ ke kT => ?_))
    · rw [e5] at F₅ W₅
      refine wpAny_execs_nil (wpAny_execs_nil (hN s₅ ad₅ (runTo x xs (i + 1)) (runTo y ys (j + 1)) ms us (F₅.sub subS) (W₅.sub subS) r2 t2 (by omega) (by omega) (by omega) hM hU))
    · rw [e5] at F₅ W₅
      show wpAny _ A (noteFrame (.ref e) env) _ _ _
      refine note_again C.fr x₅ ?_
      refine came_back (S := []) C.fr x₅ fun h₆ x₆ mv => ?_
      obtain ⟨F₆, W₆⟩ := moved F₅ W₅ (Lw_none kT) x₅ mv
      rw [hr2, List.drop_length, sd_nil2] at hM hU
      exact hC _ ad₅ e T .none sl (runTo x xs (i + 1)) ys.length ms us (F₆.sub subS) (W₆.sub subS) x₆ (Lw_none kT) r2 (Nat.le_refl _) (by omega) (by omega) hM (by rw [List.drop_length]; exact hU)
  · -- the first loop ran out
    rw [e3] at F₃ W₃
    rw [hr, List.drop_length, sd_nil] at hM hU
    show wpAny _ A (noteFrame (.ref e) env) _ _ _
    refine note_again C.fr x₃ ⟨ref_ne_byPass e, note_again C.fr x₃ ?_⟩
    refine set_flight (S := []) x₃ fun h₄ x₄ mv => ?_
    obtain ⟨F₄, W₄⟩ := moved F₃ W₃ (Lw_none kT) x₃ mv
    obtain ⟨oLL, kLL, _⟩ := lw.obj
    have hLLf : LL ∉ [e, T] := by
      intro q
      rcases List.mem_cons.mp q with q | q
      · rw [q, ke] at kLL; cases kLL
      · rw [List.mem_singleton.mp q, kT] at kLL; cases kLL
    have hmem : ∀ b ∈ [e, T], b = e ∨ b = T := fun b hb => (List.mem_cons.mp hb).imp id List.mem_singleton.mp
    have hkn : ∀ b ∈ [e, T], Lw kp LL sl b = none := fun b hb => by
      rcases hmem b hb with rfl | rfl
      · exact Lw_none ke
      · exact Lw_none kT
    have hpf : ∀ b ∈ [e, T], ¬ Pf O (sdS xs ys xs.length j ms us ++ eaS x y) ad₃ b := fun b hb q => by
      rcases q with q | ⟨z, ds, ez, q⟩
      · obtain ⟨o, eo⟩ := F₄.dom b q
        rw [hkn b hb] at eo; cases eo
      · obtain ⟨_, _, vs, m, eo, _⟩ := F₄.owns z ds ez
        obtain ⟨o', e', _, ns⟩ := x₄.isX (hmem b hb)
        rw [q] at eo
        have eo' : h₄.get? b = some (lobj vs m) := eo
        rw [e'] at eo'; cases eo'; cases ns
    obtain ⟨F₅, W₅⟩ := kp_up (fp := [e, T]) F₄ W₄ (fun b hb => let ⟨o, a, b, _⟩ := x₄.isX (hmem b hb); ⟨o, a, b⟩) hpf
    have up1 : ∀ a o, Lw kp LL sl a = some o → kpWith (Lw kp LL sl) [e, T] h₄ a = some o := fun a o ea => by
      unfold kpWith; split
      · exact F₄.kept a o ea
      · exact ea
    have kfp : ∀ b ∈ [e, T], ∀ o, h₄.get? b = some o → kpWith (Lw kp LL sl) [e, T] h₄ b = some o := fun b hb o eo => by unfold kpWith; rw [if_pos hb]; exact eo
    have lw2 : Low (KK w) (kpWith (Lw kp LL sl) [e, T] h₄) O LL := by
      obtain ⟨⟨o, a, b⟩, ⟨hB, c1, c2, c3⟩, d⟩ := lw.slots sl
      exact ⟨⟨o, up1 _ _ a, b⟩, ⟨hB, c1, c2, fun a o q => up1 a o (c3 a o q)⟩, d⟩
    have hh2 : HndK (A.mark (some (.ref e))) (kpWith (Lw kp LL sl) [e, T] h₄) (.ref e) := by
      obtain ⟨oe, vs, _, _, q1, _, q2, _, q3, _⟩ := id x₄
      exact .inr ⟨e, oe, vs, rfl, rfl, kfp e (.head _) _ q1, q2, q3⟩
    have RF2 : Room false n (A.mark (some (.ref e))) := R.mark
    refine wpAny_execs_cons (wpAny_mono (Ex.aug (prog := prog) (w := w) (K := KK w) (z := false) (n := n) (d1 := .int (j : Nat)) (d := .int ((j + 1 : Nat) : Int)) rfl (Ev.int (i := 1)) (Iop_z Iop.add (by congr 1)) rfl (.inl V.j) sE _ O ad₃ _ _ _ F₅ W₅ RF2) (fun f s₆ q => ?_) fun _ _ x => x)
    obtain ⟨rfl, ad₆, F₆, W₆⟩ := q
    rw [e4] at F₆ W₆
    refine wpAny_execs_cons (skipWhile (n := n) (xs := ys) (k := j + 1) (v := y) C hfr lw2 hh2 rfl rfl rfl (by decide) (by decide) (by decide) (by decide) (by decide) (.inl V.j) hj (by omega) F₆ W₆ RF2 (fun hr2 s₇ ad₇ F₇ W₇ => ?_) (fun hr2 s₇ ad₇ e' T' sl' F₇ W₇ x₇ ke' kT' => ?_))
    · rw [e5] at F₇ W₇
      refine wpAny_execs_nil ?_
      have x₇ : ExcAt s₇.heap e T .none .none := x₄.keep (fun o q => F₇.kept e o (kfp e (.head _) o q)) (fun o q => F₇.kept T o (kfp T (.tail _ (.head _)) o q))
      obtain ⟨F₈, W₈⟩ := kp_down F₇ W₇ up1 F₃.bs F₃.dom
      refine pass_on (S := []) C.fr x₇ fun h₉ x₉ mv9 => ?_
      obtain ⟨F₉, W₉⟩ := moved F₈ W₈ (Lw_none kT) x₇ mv9
      exact hC _ ad₇ e T .none sl xs.length (runTo y ys (j + 1)) ms us (F₉.sub subS) (W₉.sub subS) x₉ (Lw_none kT) (Nat.le_refl _) t2 (by omega) (by omega) (by rw [List.drop_length]; exact hM) hU
    · rw [e5] at F₇ W₇
      show wpAny _ (A.mark (some (.ref e))) (noteFrame (.ref e') env) _ _ _
      refine note_again C.fr x₇ ?_
      refine came_back (S := []) C.fr x₇ fun h₈ x₈ mv8 => ?_
      obtain ⟨F₈, W₈⟩ := moved F₇ W₇ (Lw_none kT') x₇ mv8
      have up2 := Lw_up (kp := kp) (LL := LL) (h := h₄) (sl := sl) (sl2 := sl') (fp := [e, T]) kLL hLLf (fun a _ o ea => F₄.kept a o ea)
      obtain ⟨hB, g1, g2, g3⟩ := (lw.slots sl').bs
      obtain ⟨F₉, W₉⟩ := kp_down F₈ W₈ up2 ⟨hB, g1, g3⟩ (fun a q => by
        obtain ⟨o, eo⟩ := F.dom a q
        exact ⟨o, by unfold Lw; rw [if_neg (by rintro rfl; exact lw.no q)]; exact eo⟩)
      have kT2 : Lw kp LL sl' T' = none := by
        cases q : Lw kp LL sl' T' with
        | none => rfl
        | some o =>
          have := up2 _ _ q
          rw [Lw_none kT'] at this; cases this
      rw [hr2, List.drop_length] at hU
      exact hC _ ad₇ e' T' (.ref e) sl' xs.length ys.length ms us (F₉.sub subS) (W₉.sub subS) x₈ kT2 (Nat.le_refl _) (Nat.le_refl _) (by omega) (by omega) (by rw [List.drop_length]; exact hM) (by rw [List.drop_length]; exact hU)
end
end
-- F28
section
set_option maxRecDepth 100000
set_option maxHeartbeats 1000000
variable {prog : Program} {w : World}
section
variable {sE : Shared} {kp : Kpt} {O : Addr → Prop} {env envL : Env} {ad : Str → Addr} {s : Shared} {LL : Addr} {A : Around} {E : Value → Shared → Prop} {Q : Flow → Shared → Prop} {n : Nat} {xs ys ms us M U : List Row} {i j : Nat}

noncomputable abbrev getStmt (v nm idx : Str) (p1 p2 p3 p4 p5 : Pos) : Stmt := .Assign [.Name v p1] (.Subscript (.Name nm p2) (.Name idx p3) p4) p5
noncomputable abbrev cmpE (op : CmpOp) (p1 p2 p3 : Pos) : Expr := .Compare (.Name "e" p1) [op] [.Name "a" p2] p3

theorem turn {d1 d2 d3 d4 d5 f1 f2 f3 f4 f5 g1 g2 g3 h1 h2 h3 : Pos} {a1 a2 a3 a4 a5 b1 b2 b3 p1 p2 p3 p4 p5 p6 p7 p8 p9 : Pos} {k1 k2 : Nat} {a1' a2' a3' a4' a5' b1' b2' b3' p1' p2' p3' p4' p5' p6' p7' p8' p9' : Pos} {k1' k2' : Nat}
    {eb1 eb2 eb3 ep1 ep2 ep3 ep4 ep5 ep6 ep7 ep8 ep9 ec1 ec2 ec3 er1 er2 er3 er4 er5 er6 er7 er8 er9 etp : Pos} {ek1 ek2 ek3 ek4 : Nat} {q1 q2 q3 q4 q5 q6 q7 q8 u1 u2 u3 u4 u5 u6 u7 u8 v1 v2 v3 ip1 ip2 tp : Pos}
    (C : Cal env envL LL) (V : SldEnv env) (hfr : A.frames = some [env, envL]) (lw : Low (KK w) kp O LL) (R : Room true n A) (hl1 : (a2.endLine == a4.line) = true) (hl2 : (a2'.endLine == a4'.line) = true) (hl3 : (q2.endLine == q7.line) = true) (hl4 : (u2.endLine == u7.line) = true)
    (F : FR (KK w) sE kp O env (sdS xs ys i j ms us) ad s) (W : FW kp env (sdS xs ys i j ms us) ad s) (hi : i ≤ xs.length) (hj : j ≤ ys.length) (z1 : xs.length ≤ 900) (z2 : ys.length ≤ 900) (m1 : ms.length ≤ i) (m2 : us.length ≤ j)
    (hM : ms ++ (sd (xs.drop i) (ys.drop j)).1 = M) (hU : us ++ (sd (xs.drop i) (ys.drop j)).2 = U)
    (hN : Nexts w sE kp O env xs ys M U ((xs.length - i) + (ys.length - j)) Q) (hB : ∀ s' ad' sl i' j', FR (KK w) sE (Lw kp LL sl) O env (sdS xs ys i' j' M U) ad' s' → FW (Lw kp LL sl) env (sdS xs ys i' j' M U) ad' s' → Q .brk s') :
    wpAny (model prog w) A (exec (.Try [getStmt "e" "expected" "i" d1 d2 d3 d4 d5, getStmt "a" "actual" "j" f1 f2 f3 f4 f5,
      .If (cmpE .Lt g1 g2 g3) [appStmt "missing" "e" a1 a2 a3 a4 a5, incStmt "i" b1 b2 b3 k1, skipStmt "expected" "i" "e" p1 p2 p3 p4 p5 p6 p7 p8 p9 k2]
        [.If (cmpE .Gt h1 h2 h3) [appStmt "unexpected" "a" a1' a2' a3' a4' a5', incStmt "j" b1' b2' b3' k1', skipStmt "actual" "j" "a" p1' p2' p3' p4' p5' p6' p7' p8' p9' k2']
          (eqBody eb1 eb2 eb3 ep1 ep2 ep3 ep4 ep5 ep6 ep7 ep8 ep9 ec1 ec2 ec3 er1 er2 er3 er4 er5 er6 er7 er8 er9 etp ek1 ek2 ek3 ek4) ip1] ip2]
      [.ExceptHandler (some (.Name "IndexError" v1)) none [extStmt "missing" "expected" "i" q1 q2 q3 q4 q5 q6 q7 q8, extStmt "unexpected" "actual" "j" u1 u2 u3 u4 u5 u6 u7 u8, .Break v2] v3] [] [] tp) env) Q E s := by
  have hh : A.handled = none := R.hand rfl
  have RF : Room false n A := ⟨R.depth, R.units, fun q => by cases q⟩
  have hand : ∀ s' ad' e T c sl i' j' ms' us', FR (KK w) sE (Lw kp LL sl) O env (sdS xs ys i' j' ms' us') ad' s' → FW (Lw kp LL sl) env (sdS xs ys i' j' ms' us') ad' s' → ExcAt s'.heap e T (rawInt env.locals) c → Lw kp LL sl T = none →
    i' ≤ xs.length → j' ≤ ys.length → ms'.length ≤ 1000 → us'.length ≤ 1000 → ms' ++ xs.drop i' = M → us' ++ ys.drop j' = U →
      wpAny (model prog w) A (setFlight (.ref e) none) (fun _ s₃ => wpAny (model prog w) A (handleBy (.ref e) env [.ExceptHandler (some (.Name "IndexError" v1)) none [extStmt "missing" "expected" "i" q1 q2 q3 q4 q5 q6 q7 q8, extStmt "unexpected" "actual" "j" u1 u2 u3 u4 u5 u6 u7 u8, .Break v2] v3]) Q E s₃) E s' := by
    intro s' ad' e T c sl i' j' ms' us' F' W' x' kT hi' hj' z3 z4 e1 e2
    refine handler (n := n) (xs := xs) (ys := ys) (ms := ms') (us := us') (i := i') (j := j') C.fr F' W' RF x' kT rfl rfl rfl rfl rfl rfl hi' hj' (by omega) (by omega) z3 z4 V.exc hl3 hl4 fun s'' ad'' F'' W'' => ?_
    rw [e1, e2] at F'' W''
    exact hB s'' ad'' sl i' j' F'' W''
  have catches : Catches w sE kp O env LL xs ys M U (fun e s₁ => wpAny (model prog w) A (noteFrame e env) (fun _ s₂ => wpAny (model prog w) A (setFlight e none) (fun _ s₃ => wpAny (model prog w) A (handleBy e env [.ExceptHandler (some (.Name "IndexError" v1)) none [extStmt "missing" "expected" "i" q1 q2 q3 q4 q5 q6 q7 q8, extStmt "unexpected" "actual" "j" u1 u2 u3 u4 u5 u6 u7 u8, .Break v2] v3]) Q E s₃) E s₂) E s₁) := by
    intro s' ad' e T c sl i' j' ms' us' F' W' x' kT hi' hj' z3 z4 e1 e2
    exact note_again C.fr x' (hand s' ad' e T c sl i' j' ms' us' F' W' x' kT hi' hj' z3 z4 e1 e2)
  refine wpAny_Try_except ?_
  by_cases hil : i < xs.length
  · have hx : (dRows xs)[i]? = some (.bytes xs[i]) := by rw [List.getElem?_map, List.getElem?_eq_getElem hil]; rfl
    have hx' : xs[i]? = some xs[i] := List.getElem?_eq_getElem hil
    generalize xs[i] = x at hx hx'
    have X1 : Ev prog w (KK w) true n env (sdS xs ys i j ms us) (.Subscript (.Name "expected" d2) (.Name "i" d3) d4) (.bytes x) :=
      Ev.sub (Ev.val rfl (by decide)) (Ev.val rfl (by decide)) (Sop.listItem (Int.natCast_nonneg _) (by omega) (by rw [Int.toNat_natCast]; exact hx) (fun _ _ => rfl))
    refine wpAny_execs_cons (wpAny_mono (Ex.assign X1 (.inl V.e) (.inl rfl) rfl sE kp O ad s A _ F W R) (fun f s₁ q => ?_) fun _ _ x => x)
    obtain ⟨rfl, ad₁, F₁, W₁⟩ := q
    by_cases hjl : j < ys.length
    · have hy : (dRows ys)[j]? = some (.bytes ys[j]) := by rw [List.getElem?_map, List.getElem?_eq_getElem hjl]; rfl
      have hy' : ys[j]? = some ys[j] := List.getElem?_eq_getElem hjl
      generalize ys[j] = y at hy hy'
      have X2 : Ev prog w (KK w) true n env (Sto.set (sdS xs ys i j ms us) "e" (.v (.bytes x))) (.Subscript (.Name "actual" f2) (.Name "j" f3) f4) (.bytes y) :=
        Ev.sub (Ev.val rfl (by decide)) (Ev.val rfl (by decide)) (Sop.listItem (Int.natCast_nonneg _) (by omega) (by rw [Int.toNat_natCast]; exact hy) (fun _ _ => rfl))
      refine wpAny_execs_cons (wpAny_mono (Ex.assign X2 (.inl V.a) (.inl rfl) rfl sE kp O ad₁ s₁ A _ F₁ W₁ R) (fun f s₂ q => ?_) fun _ _ x => x)
      obtain ⟨rfl, ad₂, F₂, W₂⟩ := q
      have F₂ : FR (KK w) sE kp O env (sdS xs ys i j ms us ++ eaS x y) ad₂ s₂ := F₂
      have W₂ : FW kp env (sdS xs ys i j ms us ++ eaS x y) ad₂ s₂ := W₂
      have T1 : Tr prog w (KK w) true n env (sdS xs ys i j ms us ++ eaS x y) (cmpE .Lt g1 g2 g3) (decide (nums x < nums y)) := Tr.cmp (Ev.val rfl (by decide)) (Ev.val rfl (by decide)) Cop.ltB rfl
      have T2 : Tr prog w (KK w) true n env (sdS xs ys i j ms us ++ eaS x y) (cmpE .Gt h1 h2 h3) (decide (nums y < nums x)) := Tr.cmp (Ev.val rfl (by decide)) (Ev.val rfl (by decide)) Cop.gtB rfl
      refine wpAny_execs_cons (wpAny_If (wpAny_mono (T1 sE kp O ad₂ s₂ A _ F₂ R) (fun b s₃ q => ?_) fun _ _ x => x))
      obtain ⟨rfl, k3⟩ := q
      have F₃ := F₂.keeps k3
      have W₃ := W₂.keeps k3
      by_cases hlt : nums x < nums y
      · rw [decide_eq_true hlt]
        simp only [if_true]
        refine branchLt (n := n) (M := M) (U := U) C V hfr lw R hh hl1 F₃ W₃ hx' hy' z1 z2 m1 m2 hlt hM hU catches ?_
        intro s' ad' i' j' ms' us' F' W' a1 a2 a3 a4 a5 a6 a7
        exact wpAny_execs_nil (wpAny_execs_nil (hN s' ad' i' j' ms' us' F' W' a1 a2 a3 a4 a5 a6 a7))
      · rw [decide_eq_false hlt]
        simp only [Bool.false_eq_true, if_false]
        refine wpAny_execs_cons (wpAny_If (wpAny_mono (T2 sE kp O ad₂ s₃ A _ F₃ R) (fun b s₄ q => ?_) fun _ _ x => x))
        obtain ⟨rfl, k4⟩ := q
        have F₄ := F₃.keeps k4
        have W₄ := W₃.keeps k4
        by_cases hgt : nums y < nums x
        · rw [decide_eq_true hgt]
          simp only [if_true]
          refine branchGt (n := n) (M := M) (U := U) C V hfr lw R hh hl2 F₄ W₄ hx' hy' z1 z2 m1 m2 hlt hgt hM hU catches ?_
          intro s' ad' i' j' ms' us' F' W' a1 a2 a3 a4 a5 a6 a7
          exact wpAny_execs_nil (wpAny_execs_nil (wpAny_execs_nil (hN s' ad' i' j' ms' us' F' W' a1 a2 a3 a4 a5 a6 a7)))
        · rw [decide_eq_false hgt]
          simp only [Bool.false_eq_true, if_false]
          refine branchEq (n := n) (M := M) (U := U) C V hfr lw R hh F₄ W₄ hx' hy' z1 z2 m1 m2 hlt hgt hM hU catches ?_
          intro s' ad' i' j' ms' us' F' W' a1 a2 a3 a4 a5 a6 a7
          exact wpAny_execs_nil (wpAny_execs_nil (wpAny_execs_nil (hN s' ad' i' j' ms' us' F' W' a1 a2 a3 a4 a5 a6 a7)))
    · have hje : j = ys.length := by omega
      subst hje
      rw [List.drop_length, sd_nil2] at hM hU
      refine wpAny_execs_cons (wpAny_Assign_Name (sub_out (ds := dRows ys) (k := ys.length) rfl rfl (by decide) (by decide) F₁ RF (.inl ⟨hh, rfl⟩) (by rw [List.length_map]; exact Nat.le_refl _) (by omega) fun s₂ h' tk e k2 xn => ?_) rfl)
      refine noted C hfr lw (F₁.keeps k2) (W₁.keeps k2) xn fun h'' T sl F₂ W₂ x₂ ke kT => ?_
      refine hand _ ad₁ e T .none sl i ys.length ms us (F₂.sub ?_) (W₂.sub ?_) x₂ (Lw_none kT) hi hj (by omega) (by omega) hM (by rw [List.drop_length]; exact hU) <;> exact subS (τ := [("e", .v (.bytes x))])
  · have hie : i = xs.length := by omega
    subst hie
    rw [List.drop_length, sd_nil] at hM hU
    refine wpAny_execs_cons (wpAny_Assign_Name (sub_out (ds := dRows xs) (k := xs.length) rfl rfl (by decide) (by decide) F RF (.inl ⟨hh, rfl⟩) (by rw [List.length_map]; exact Nat.le_refl _) (by omega) fun s₂ h' tk e k2 xn => ?_) rfl)
    refine noted C hfr lw (F.keeps k2) (W.keeps k2) xn fun h'' T sl F₂ W₂ x₂ ke kT => ?_
    exact hand _ ad e T .none sl xs.length j ms us F₂ W₂ x₂ (Lw_none kT) hi hj (by omega) (by omega) (by rw [List.drop_length]; exact hM) hU

/-- the whole loop -/
theorem sdLoop {d1 d2 d3 d4 d5 f1 f2 f3 f4 f5 g1 g2 g3 h1 h2 h3 : Pos} {a1 a2 a3 a4 a5 b1 b2 b3 p1 p2 p3 p4 p5 p6 p7 p8 p9 : Pos} {k1 k2 : Nat} {a1' a2' a3' a4' a5' b1' b2' b3' p1' p2' p3' p4' p5' p6' p7' p8' p9' : Pos} {k1' k2' : Nat}
    {eb1 eb2 eb3 ep1 ep2 ep3 ep4 ep5 ep6 ep7 ep8 ep9 ec1 ec2 ec3 er1 er2 er3 er4 er5 er6 er7 er8 er9 etp : Pos} {ek1 ek2 ek3 ek4 : Nat} {q1 q2 q3 q4 q5 q6 q7 q8 u1 u2 u3 u4 u5 u6 u7 u8 v1 v2 v3 ip1 ip2 tp wp1 wp2 : Pos} {wk : Nat}
    (C : Cal env envL LL) (V : SldEnv env) (hfr : A.frames = some [env, envL]) (lw : Low (KK w) kp O LL) (R : Room true n A) (hl1 : (a2.endLine == a4.line) = true) (hl2 : (a2'.endLine == a4'.line) = true) (hl3 : (q2.endLine == q7.line) = true) (hl4 : (u2.endLine == u7.line) = true)
    (F : FR (KK w) sE kp O env (sdS xs ys 0 0 [] []) ad s) (W : FW kp env (sdS xs ys 0 0 [] []) ad s) (z1 : xs.length ≤ 900) (z2 : ys.length ≤ 900)
    (hB : ∀ s' ad' sl i' j', FR (KK w) sE (Lw kp LL sl) O env (sdS xs ys i' j' (sd xs ys).1 (sd xs ys).2) ad' s' → FW (Lw kp LL sl) env (sdS xs ys i' j' (sd xs ys).1 (sd xs ys).2) ad' s' → Q .next s') :
    wpAny (model prog w) A (exec (.While (.Constant (.bool true) wk wp1) [.Try [getStmt "e" "expected" "i" d1 d2 d3 d4 d5, getStmt "a" "actual" "j" f1 f2 f3 f4 f5,
      .If (cmpE .Lt g1 g2 g3) [appStmt "missing" "e" a1 a2 a3 a4 a5, incStmt "i" b1 b2 b3 k1, skipStmt "expected" "i" "e" p1 p2 p3 p4 p5 p6 p7 p8 p9 k2]
        [.If (cmpE .Gt h1 h2 h3) [appStmt "unexpected" "a" a1' a2' a3' a4' a5', incStmt "j" b1' b2' b3' k1', skipStmt "actual" "j" "a" p1' p2' p3' p4' p5' p6' p7' p8' p9' k2']
          (eqBody eb1 eb2 eb3 ep1 ep2 ep3 ep4 ep5 ep6 ep7 ep8 ep9 ec1 ec2 ec3 er1 er2 er3 er4 er5 er6 er7 er8 er9 etp ek1 ek2 ek3 ek4) ip1] ip2]
      [.ExceptHandler (some (.Name "IndexError" v1)) none [extStmt "missing" "expected" "i" q1 q2 q3 q4 q5 q6 q7 q8, extStmt "unexpected" "actual" "j" u1 u2 u3 u4 u5 u6 u7 u8, .Break v2] v3] [] [] tp] [] wp2) env) Q E s := by
  refine wpAny_While (codeAny_whileLoop (fun m s' => ∃ i j ms us ad', m = (xs.length - i) + (ys.length - j) ∧ i ≤ xs.length ∧ j ≤ ys.length ∧ ms.length ≤ i ∧ us.length ≤ j ∧ ms ++ (sd (xs.drop i) (ys.drop j)).1 = (sd xs ys).1 ∧ us ++ (sd (xs.drop i) (ys.drop j)).2 = (sd xs ys).2 ∧
    FR (KK w) sE kp O env (sdS xs ys i j ms us) ad' s' ∧ FW kp env (sdS xs ys i j ms us) ad' s') ?_ (xs.length + ys.length) ⟨0, 0, [], [], ad, by simp, Nat.zero_le _, Nat.zero_le _, Nat.le_refl _, Nat.le_refl _, by simp, by simp, F, W⟩)
  rintro m s₁ ⟨i, j, ms, us, ad₁, rfl, hi, hj, m1, m2, hM, hU, F₁, W₁⟩
  have T : Tr prog w (KK w) true n env (sdS xs ys i j ms us) (.Constant (.bool true) wk wp1) true := Tr.val Ev.bool Tru.bool rfl
  refine wpAny_mono (T sE kp O ad₁ s₁ A _ F₁ R) (fun b s₂ q => ?_) fun _ _ x => x
  obtain ⟨rfl, k2⟩ := q
  simp only [if_true]
  refine wpAny_execs_cons (turn (n := n) (M := (sd xs ys).1) (U := (sd xs ys).2) C V hfr lw R hl1 hl2 hl3 hl4 (F₁.keeps k2) (W₁.keeps k2) hi hj z1 z2 m1 m2 hM hU ?_ ?_)
  · intro s' ad' i' j' ms' us' F' W' c1 c2 c3 c4 c5 c6 c7
    exact wpAny_execs_nil ⟨_, c3, i', j', ms', us', ad', rfl, c1, c2, c4, c5, c6, c7, F', W'⟩
  · intro s' ad' sl i' j' F' W'
    exact hB s' ad' sl i' j' F' W'
end
end
-- F29
section
set_option maxRecDepth 100000
set_option maxHeartbeats 1000000
variable {prog : Program} {w : World}
/-- a call of a def, by its body in the frame -/
theorem call_of {K : Frag} {f : Addr} {oc : Value} {od : Option Addr} {osl : Array (Option Value)} {fd : FuncData} {body : List Stmt} {args : List D} {bd : List (Str × D)} {n : Nat}
    (hf : K.lookup f = some ⟨oc, od, .func fd, osl⟩) (hbody : fd.body = .stmts body) (hcl : fd.closure = []) (hg : fd.globals = mainGlobals) (hbi : fd.builtins = builtinsNs) (hkd : fd.scope.kind = .function)
    (hco : fd.scope.isCoroutine = false) (hgen : fd.scope.isGenerator = false) (hcode : codeIn K fd.code fd.qualname = true) (hbind : BindsD K fd args [] bd)
    (hkind : (bd.all fun y => fd.scope.names.lookup y.1 == some .local || fd.scope.names.lookup y.1 == some .cell) = true)
    {s : Shared} {A : Around} {O : Addr → Prop} {vs : List Value} {Q : Value → Shared → Prop} {E : Value → Shared → Prop} (B : Bs K s.heap) (R : Room true (n + 1) A) (hdom : ∀ a, O a → ∃ o, s.heap.get? a = some o) (hvs : Reps O s.heap vs args)
    (h : ∀ s' E', FR K s s.heap.get? O (callEnvC fd s.heap.objs.size f) (sto0 bd) (fun _ => 0) s' → FW s.heap.get? (callEnvC fd s.heap.objs.size f) (sto0 bd) (fun _ => 0) s' → Room true n (A.deeper (callEnvC fd s.heap.objs.size f)) →
      wpAny (model prog w) (A.deeper (callEnvC fd s.heap.objs.size f)) (execs body (callEnvC fd s.heap.objs.size f)) (fun fl s₂ => ∃ v, fl = .ret v ∧ Q v s₂) E' s') :
    wpAny (model prog w) A (call (.ref f) vs []) Q E s := by
  obtain ⟨bv, hbt, hbv⟩ := hbind s O vs [] B hvs .nil
  have hks' : (((bd.map (·.1)).zip bv).all fun y => fd.scope.names.lookup y.1 == some .local || fd.scope.names.lookup y.1 == some .cell) = true := by
    rw [List.all_eq_true] at hkind ⊢
    rintro ⟨x, v⟩ hy
    obtain ⟨b, hb, e⟩ := List.mem_map.mp (List.of_mem_zip hy).1
    have := hkind b hb
    rw [e] at this; exact this
  obtain ⟨p, l, mg, mb, T⟩ := B.top
  refine wpAny_call (codeAny_call_function R.lim (B.kin _ _ hf) rfl hco hgen hbody (codeRec_of B.kin hcode) (hbt _ _ _ _ ?_))
  rw [hcl]
  refine wpAny_newFunctionEnv_cells hkd (kindsX hks' _) fun env he s' X => ?_
  have he' : env = callEnvC fd s.heap.objs.size f := he
  subst he'
  refine ⟨T.nolimit.keeps X.toInCall.keep, codeAny_func ?_⟩
  have F : FR K s s.heap.get? O (callEnvC fd s.heap.objs.size f) (sto0 bd) (fun _ => 0) s' := by
    refine ⟨X.toInCall.same, X.toInCall.keep, ⟨s.heap, B, fun _ _ e => e⟩, hdom, hkd, hg, hbi, ?_, ?_⟩
    · intro x d e
      rcases sto0_rel x bd bv hbv with ⟨h1, _⟩ | ⟨v, d', h1, h2, h3⟩
      · rw [h1] at e; cases e
      · rw [h1] at e; cases e
        refine ⟨v, ?_, ?_⟩
        · have hmem : (x, v) ∈ (bd.map (·.1)).zip bv := List.mem_reverse.mp (mem_of_lookup h2)
          rcases kindsX hks' (s.heap.objs.size + 1) _ hmem with hk | ⟨hk, hc⟩
          · exact .inl ⟨hk, _, X.toInCall.ns, by rw [bindL_get hk, h2]; rfl⟩
          · obtain ⟨c, hc⟩ := Option.isSome_iff_exists.mp hc
            refine .inr ⟨.inl hk, c, hc, ?_⟩
            have := X.cell x c hc
            rw [bindC_get (by show fd.scope.names.lookup x ≠ some .local; rw [hk]; simp), h2] at this
            exact this
        · refine (h3.keeps X.toInCall.keep).mono (fun a q => ?_) fun _ _ _ e _ => e
          rcases q with q | ⟨y, ds, e, _⟩
          · exact q
          · rcases sto0_rel y bd bv hbv with ⟨h1, _⟩ | ⟨v, d', h1, _⟩
            · rw [h1] at e; cases e
            · rw [h1] at e; cases e
    · intro x ds e
      rcases sto0_rel x bd bv hbv with ⟨h1, _⟩ | ⟨v, d', h1, _⟩
      · rw [h1] at e; cases e
      · rw [h1] at e; cases e
  have W : FW s.heap.get? (callEnvC fd s.heap.objs.size f) (sto0 bd) (fun _ => 0) s' := by
    refine ⟨⟨_, X.toInCall.ns⟩, none_size _, ?_, fun x y c h1 h2 => cells_inj X.apart h1 h2, ?_⟩
    · intro x c _ hc
      refine ⟨?_, _, X.cell x c hc⟩
      have := X.above x c (mem_of_lookup hc)
      cases e : s.heap.get? c with
      | none => rfl
      | some o => exact absurd (Heap.lt_size e) (Nat.not_lt.mpr (Nat.le_of_lt this))
    · intro x y ds es e
      rcases sto0_rel x bd bv hbv with ⟨h1, _⟩ | ⟨v, d', h1, _⟩
      · rw [h1] at e; cases e
      · rw [h1] at e; cases e
  refine wpAny_mono (h s' _ F W R.deeper) (fun fl s₂ q => ?_) fun _ _ x => x
  obtain ⟨v, rfl, q⟩ := q
  exact q

theorem sldEnv (w : World) (L : Addr) : SldEnv (fenv w 45 L) := ⟨rfl, rfl, rfl, rfl, rfl⟩

/-- sorted_list_difference, called from a frame at the top -/
theorem call_sld {sE : Shared} {kp : Kpt} {O : Addr → Prop} {envL : Env} {σ : Sto} {ad : Str → Addr} {s : Shared} {A : Around} {E : Value → Shared → Prop} {xs ys : List Row} {v1 v2 : Value} {n : Nat}
    (F : FR (KK w) sE kp O envL σ ad s) (W : FW kp envL σ ad s) (R : Room true (n + 1) A) (hfr : A.frames = some [envL]) (hf2 : envL.frame = some envL.locals) (z1 : xs.length ≤ 900) (z2 : ys.length ≤ 900)
    (r1 : Rep O s.heap v1 (.list (dRows xs))) (r2 : Rep O s.heap v2 (.list (dRows ys))) :
    wpAny (model prog w) A (call (.ref 45) [v1, v2] []) (fun v s' => FR (KK w) sE kp O envL σ ad s' ∧ FW kp envL σ ad s' ∧ Rep O s'.heap v (.tuple [.list (dRows (sd xs ys).1), .list (dRows (sd xs ys).2)])) E s := by
  obtain ⟨m0, hns⟩ := W.ns
  obtain ⟨oLL, es, ep, eLL, dLL, _⟩ := id hns
  obtain ⟨hB, bB, kB⟩ := F.bs
  have hBn : hB.get? envL.locals = none := by
    cases q : hB.get? envL.locals with
    | none => rfl
    | some o => have := kB _ _ q; rw [W.new] at this; cases this
  have lw : Low (KK w) s.heap.get? O envL.locals := ⟨⟨oLL, eLL, (fun vs q => (by rw [dLL] at q; cases q)), (by unfold isSeq; rw [dLL])⟩, ⟨hB, bB, hBn, fun a o e => F.kept a o (kB a o e)⟩, F.notO W.new⟩
  refine call_of (n := n) (K := KK w) (f := 45) (oc := .type "function") (od := none) (osl := #[]) (fd := fdOf (KK w) 45) (bd := [("expected", .list (dRows xs)), ("actual", .list (dRows ys))]) (by kernel_rfl) (body := ?b) ?hb (by kernel_rfl) (by kernel_rfl) (by kernel_rfl) (by kernel_rfl) (by kernel_rfl) (by kernel_rfl) (by kernel_rfl) (.two fun v u => by kernel_rfl) (by kernel_rfl) F.base R F.domS (.cons r1 (.cons r2 .nil)) ?h
  case hb => rfl
  intro s' E' F' W' R'
  have C : Cal (callEnvC (fdOf (KK w) 45) s.heap.objs.size 45) envL envL.locals := ⟨(by rw [F.kd]; exact fun h => nomatch h), rfl, hf2⟩
  have V : SldEnv (callEnvC (fdOf (KK w) 45) s.heap.objs.size 45) := sldEnv w _
  have hfr' : (A.deeper (callEnvC (fdOf (KK w) 45) s.heap.objs.size 45)).frames = some [callEnvC (fdOf (KK w) 45) s.heap.objs.size 45, envL] := by
    show A.frames.map _ = _
    rw [hfr]; rfl
  generalize hA : A.deeper (callEnvC (fdOf (KK w) 45) s.heap.objs.size 45) = A' at *
  generalize hE : callEnvC (fdOf (KK w) 45) s.heap.objs.size 45 = env at *
  have kI : env.kindOf "i" = some .local := V.i
  refine wpAny_execs_cons (wpAny_mono (Ex.assign2 (z := true) (n := n) (d := .int 0) Ev.int (.inl V.i) (.inl V.j) rfl ?as1 ?as2 s s.heap.get? O _ s' _ _ F' W' R') (fun f s₁ q => ?_) fun _ _ x => x)
  case as1 => rfl
  case as2 => subst hE; kernel_rfl
  obtain ⟨rfl, ad₁, F₁, W₁⟩ := q
  have kM : env.kindOf "missing" = some .local := by subst hE; rfl
  have kU : env.kindOf "unexpected" = some .local := by subst hE; rfl
  refine wpAny_execs_cons (wpAny_mono (Ex.newlist (K := KK w) (z := true) (n := n) (.inl kM) s s.heap.get? O _ s₁ _ _ F₁ W₁ R') (fun f s₂ q => ?_) fun _ _ x => x)
  obtain ⟨rfl, ad₂, F₂, W₂⟩ := q
  refine wpAny_execs_cons (wpAny_mono (Ex.newlist (K := KK w) (z := true) (n := n) (.inl kU) s s.heap.get? O _ s₂ _ _ F₂ W₂ R') (fun f s₃ q => ?_) fun _ _ x => x)
  obtain ⟨rfl, ad₃, F₃, W₃⟩ := q
  have F₃ : FR (KK w) s s.heap.get? O env (sdS xs ys 0 0 [] []) ad₃ s₃ := F₃
  have W₃ : FW s.heap.get? env (sdS xs ys 0 0 [] []) ad₃ s₃ := W₃
  refine wpAny_execs_cons (sdLoop (n := n) C V hfr' lw R' rfl rfl rfl rfl F₃ W₃ z1 z2 fun s₄ ad₄ sl i' j' F₄ W₄ => ?_)
  refine wpAny_execs_cons (wpAny_mono (Ex.ret (K := KK w) (z := true) (n := n) (Ev.tuple (Evs.cons rfl (Ev.own rfl (by decide)) (Evs.cons rfl (Ev.own rfl (by decide)) Evs.nil)) (by show 2 ≤ 1000; decide)) s (Lw s.heap.get? envL.locals sl) O ad₄ s₄ _ _ F₄ W₄ R') (fun f s₅ q => ?_) fun _ _ x => x)
  obtain ⟨v, rfl, ⟨h₅, tk, rfl⟩, kept, rep⟩ := q
  refine ⟨v, rfl, ?_⟩
  have mv : Mv [envL.locals] (fun _ => False) s.heap h₅ := by
    intro b o e _
    by_cases hb : b = envL.locals
    · subst hb
      rw [eLL] at e; cases e
      refine ⟨sl, kept _ _ ?_, fun h => absurd (.head _) h⟩
      unfold Lw; rw [if_pos rfl, eLL]; rfl
    · refine ⟨o.slots, kept _ _ ?_, fun _ => rfl⟩
      unfold Lw; rw [if_neg hb]; exact e
  obtain ⟨Fz, Wz⟩ := shift (kp' := kp) (tk := tk) F W mv (fun b hb o e => by
    rw [List.mem_singleton.mp hb, eLL] at e; cases e; unfold isSeq; rw [dLL]) (fun b hb => hb.elim) (fun a o ka => mv.same (F.kept a o ka) (fun h => h) (fun hb => by rw [List.mem_singleton.mp hb, W.new] at ka; cases ka)) F.bs F.dom fun a h => h
  exact ⟨Fz, Wz, rep⟩
end
-- F30
section
set_option maxRecDepth 100000
set_option maxHeartbeats 1000000
variable {prog : Program} {w : World}
section
variable {n : Nat} {env : Env} {σ : Sto}
noncomputable def encD (enc : Row → Row) : D → D
  | .bytes l => .bytes (enc l)
  | d => d
theorem encComp {x nm fn : Str} {px p p1 p2 p3 pos : Pos} {scope : Scope} {ls : List Row} {enc : Row → Row} {a : Addr} (hnm : Ev prog w (KK w) true (n + 1) env σ (.Name nm p) (.list (dRows ls)))
    (hfn : nsIn (KK w) mainGlobals fn = some (some (.ref a))) (hf : (KK w).lookup a = some ⟨.type "function", none, .func (fdOf (KK w) a), #[]⟩) (hsp : ∀ l ∈ ls, Spec prog w (KK w) n (.ref a) [.bytes l] [] (.bytes (enc l))) (hz : ls.length ≤ 1000)
    (hkind : scope.kind = .function) (hcl : closureFor scope env = pure []) (hx : ∀ C, (cenvOf scope [] C env).kindOf x = some .local) (hfk : ∀ C, (cenvOf scope [] C env).kindOf fn = some .globalImplicit)
    (hnames : ∀ y ∈ scope.names, y.2 = .local → scope.names.lookup y.1 = some .local) (d1 : (x == ("__debug__" : Str)) = false) (d2 : (fn == ("__debug__" : Str)) = false) :
    Ev prog w (KK w) true (n + 1) env σ (.ListComp (.Call (.Name fn p1) [.Name x p2] [] p3) [⟨.Name x px, .Name nm p, [], 0⟩] scope pos) (.list (dRows (ls.map enc))) := by
  refine Ev.mono (d := .list (((dRows ls).filter fun _ => true).map (encD enc))) (Ev.comp (σf := []) (ItrE.list hnm) ?_ (by rw [List.length_map]; omega) hcl hnames (fun _ => rfl)) ?_
  · refine ⟨hkind, fun C => .inl (hx C), fun C c h _ => ?_, fun C y pv h => ?_, fun C d _ => Tests.nil, fun C d hd _ => ?_⟩
    · rw [hx C] at h; cases h
    · cases h
    · obtain ⟨l, hl, rfl⟩ := List.mem_map.mp hd
      show Ev _ _ _ _ _ _ _ _ (.bytes (enc l))
      exact Ev.fn a hfn (hfk C) d2 hf (Evs.cons rfl (Ev.val (by rw [List.lookup_cons, beq_self_eq_true]) d1) Evs.nil) (hsp l hl)
  · rw [filt_true]; unfold dRows; simp [Function.comp_def, encD]

/-- y = sorted_list_difference(a, b), in a frame at the top -/
theorem sldStmt {sE : Shared} {kp : Kpt} {O : Addr → Prop} {ad : Str → Addr} {s : Shared} {A : Around} {E : Value → Shared → Prop} {y : Str} {py np cp sp : Pos} {e1 e2 : Expr} {xs ys : List Row} {Q : Flow → Shared → Prop}
    (F : FR (KK w) sE kp O env σ ad s) (W : FW kp env σ ad s) (R : Room true (n + 1) A) (hfr : A.frames = some [env]) (hf2 : env.frame = some env.locals) (z1 : xs.length ≤ 900) (z2 : ys.length ≤ 900)
    (h1 : Ev prog w (KK w) true (n + 1) env σ e1 (.list (dRows xs))) (h2 : Ev prog w (KK w) true (n + 1) env σ e2 (.list (dRows ys))) (s1 : notStar e1 = true) (s2 : notStar e2 = true)
    (hk : env.kindOf "sorted_list_difference" = some .globalImplicit) (hy : Storable env y) (hno : noOwn σ = true) (hsw : swapsWith (.Call (.Name "sorted_list_difference" np) [e1, e2] [] cp) (some (.Name y py)) sp.line env = pure false)
    (hq : ∀ s' ad', FR (KK w) sE kp O env (Sto.set σ y (.v (.tuple [.list (dRows (sd xs ys).1), .list (dRows (sd xs ys).2)]))) ad' s' → FW kp env (Sto.set σ y (.v (.tuple [.list (dRows (sd xs ys).1), .list (dRows (sd xs ys).2)]))) ad' s' → Q .next s') :
    wpAny (model prog w) A (exec (.Assign [.Name y py] (.Call (.Name "sorted_list_difference" np) [e1, e2] [] cp) sp) env) Q E s := by
  have hf : Ev prog w (KK w) true (n + 1) env σ (.Name "sorted_list_difference" np) (.raw (.ref 45)) := Ev.glob (by kernel_rfl) hk (fun _ _ => .raw _) (by decide)
  have ha : Evs prog w (KK w) true (n + 1) env σ [e1, e2] [.list (dRows xs), .list (dRows ys)] := Evs.cons s1 h1 (Evs.cons s2 h2 Evs.nil)
  refine wpAny_Assign_Name (wpAny_Call_Name_kw (wpAny_mono (hf sE kp O ad s A _ F R) (fun v s₁ ⟨k, r1⟩ => ?_) fun _ _ x => x)) hsw
  replace r1 := r1.inv; cases r1
  have F1 := F.keeps k
  have W1 := W.keeps k
  have h1 := ha sE kp O ad s₁ A E cp F1 R
  refine callWith_g h1.1 rfl (wpAny_mono h1.2 (fun vs s₂ ⟨k2, r2⟩ => ?_) fun _ _ x => x)
  have F2 := F1.keeps k2
  have W2 := W1.keeps k2
  replace r2 := r2.inv; cases r2 with | @cons v1 _ ra r2 =>
  replace r2 := r2.inv; cases r2 with | @cons v2 _ rb r2 =>
  replace r2 := r2.inv; cases r2
  refine wpAny_evalAll_nil ⟨kpr (fd := fdOf (KK w) 45) (a := 45) (by kernel_rfl) _ F2.base, ?_⟩
  refine wpAny_mono (call_sld F2 W2 R hfr hf2 z1 z2 ra rb) (fun v s₃ q => ?_) fun _ _ x => x
  obtain ⟨F3, W3, r3⟩ := q
  exact store F3.kd W3 hy fun s₄ S => (fun h => hq s₄ ad h.1 h.2) (set_v F3 W3 S (rep_up r3 (.inr (noOwn_set hno))))
end
end
-- F31
section
set_option maxRecDepth 100000
set_option maxHeartbeats 1000000
variable {prog : Program} {w : World}
noncomputable def figs (l : Row) : List Nat := match b2all l with
  | (out, 2, lc) => out ++ [lc % 4 * 16]
  | (out, 4, lc) => out ++ [lc % 16 * 4]
  | (out, _, _) => out
noncomputable def padN (l : Row) : Nat := match b2all l with
  | (_, 2, _) => 2
  | (_, 4, _) => 1
  | _ => 0
theorem enc_txt (l : Row) : enc64 l = txt64 (figs l) (padN l) := by
  unfold enc64 txt64 figs padN
  congr 1
  generalize b2all l = q
  obtain ⟨out, lb, lc⟩ := q
  by_cases h2 : lb = 2
  · subst h2; simp [b2end]
  · by_cases h4 : lb = 4
    · subst h4; simp [b2end]
    · have e1 : b2end (out, lb, lc) = out.map chr64 := by
        unfold b2end; split <;> simp_all
      have e2 : (match ((out, lb, lc) : List Nat × Nat × Nat) with | (out, 2, lc) => out ++ [lc % 4 * 16] | (out, 4, lc) => out ++ [lc % 16 * 4] | (out, _, _) => out) = out := by
        split <;> simp_all
      have e3 : (match ((out, lb, lc) : List Nat × Nat × Nat) with | (_, 2, _) => 2 | (_, 4, _) => 1 | _ => 0) = 0 := by
        split <;> simp_all
      rw [e1, e2, e3]; simp

theorem short_cases {P : Row → Prop} (h0 : P []) (h1 : ∀ a, P [a]) (h2 : ∀ a b, P [a, b]) (h3 : ∀ a b c, P [a, b, c]) (h4 : ∀ a b c d, P [a, b, c, d]) (l : Row) (hl : l.length ≤ 4) : P l := by
  match l, hl with
  | [], _ => exact h0
  | [a], _ => exact h1 a
  | [a, b], _ => exact h2 a b
  | [a, b, c], _ => exact h3 a b c
  | [a, b, c, d], _ => exact h4 a b c d
  | _ :: _ :: _ :: _ :: _ :: _, h => simp at h
theorem q1 {a : Nat} (h : a < 256) : a / 4 % 64 = a / 4 := by omega
theorem q2 {a b : Nat} (h : b < 256) : (a * 256 + b) / 16 % 64 = a % 4 * 16 + b / 16 := by omega
theorem q3 {b c : Nat} (h : c < 256) : (b * 256 + c) / 64 % 64 = b % 16 * 4 + c / 64 := by omega
theorem q4 {b c : Nat} : (b * 256 + c) % 64 = c % 64 := by omega
theorem q5 {c d : Nat} (h : d < 256) : (c * 256 + d) / 4 % 64 = d / 4 := by omega
theorem q6 {c d : Nat} : (c * 256 + d) % 4 = d % 4 := by omega
theorem q7 {c d : Nat} : (c * 256 + d) % 16 = d % 16 := by omega
theorem w0 {a : Nat} (h : a < 256) : (0 * 256 + a) % 65536 = a := by omega
theorem w1 {a b : Nat} (ha : a < 256) (hb : b < 256) : (a * 256 + b) % 65536 = a * 256 + b := by omega
theorem w2 {a b c : Nat} (hb : b < 256) (hc : c < 256) : ((a * 256 + b) * 256 + c) % 65536 = b * 256 + c := by omega
theorem figs0 : figs [] = [] ∧ padN [] = 0 := ⟨rfl, rfl⟩
theorem figs1 (a : UInt8) : figs [a] = [a.toNat / 4, a.toNat % 4 * 16] ∧ padN [a] = 2 := by
  refine ⟨?_, rfl⟩
  show [(0 * 256 + a.toNat) % 65536 / 4 % 64, (0 * 256 + a.toNat) % 65536 % 4 * 16] = _
  rw [w0 a.toNat_lt, q1 a.toNat_lt]
theorem figs2 (a b : UInt8) : figs [a, b] = [a.toNat / 4, a.toNat % 4 * 16 + b.toNat / 16, b.toNat % 16 * 4] ∧ padN [a, b] = 1 := by
  refine ⟨?_, rfl⟩
  show [(0 * 256 + a.toNat) % 65536 / 4 % 64, (((0 * 256 + a.toNat) % 65536) * 256 + b.toNat) % 65536 / 16 % 64, (((0 * 256 + a.toNat) % 65536) * 256 + b.toNat) % 65536 % 16 * 4] = _
  rw [w0 a.toNat_lt, w1 a.toNat_lt b.toNat_lt, q1 a.toNat_lt, q2 b.toNat_lt, q7]
theorem figs3 (a b c : UInt8) : figs [a, b, c] = [a.toNat / 4, a.toNat % 4 * 16 + b.toNat / 16, b.toNat % 16 * 4 + c.toNat / 64, c.toNat % 64] ∧ padN [a, b, c] = 0 := by
  refine ⟨?_, rfl⟩
  show [(0 * 256 + a.toNat) % 65536 / 4 % 64, (((0 * 256 + a.toNat) % 65536) * 256 + b.toNat) % 65536 / 16 % 64, ((((0 * 256 + a.toNat) % 65536) * 256 + b.toNat) % 65536 * 256 + c.toNat) % 65536 / 64 % 64, ((((0 * 256 + a.toNat) % 65536) * 256 + b.toNat) % 65536 * 256 + c.toNat) % 65536 % 64] = _
  rw [w0 a.toNat_lt, w1 a.toNat_lt b.toNat_lt, w2 b.toNat_lt c.toNat_lt, q1 a.toNat_lt, q2 b.toNat_lt, q3 c.toNat_lt, q4]
theorem figs4 (a b c d : UInt8) : figs [a, b, c, d] = [a.toNat / 4, a.toNat % 4 * 16 + b.toNat / 16, b.toNat % 16 * 4 + c.toNat / 64, c.toNat % 64, d.toNat / 4, d.toNat % 4 * 16] ∧ padN [a, b, c, d] = 2 := by
  refine ⟨?_, rfl⟩
  show [(0 * 256 + a.toNat) % 65536 / 4 % 64, (((0 * 256 + a.toNat) % 65536) * 256 + b.toNat) % 65536 / 16 % 64, ((((0 * 256 + a.toNat) % 65536) * 256 + b.toNat) % 65536 * 256 + c.toNat) % 65536 / 64 % 64, ((((0 * 256 + a.toNat) % 65536) * 256 + b.toNat) % 65536 * 256 + c.toNat) % 65536 % 64,
    (((((0 * 256 + a.toNat) % 65536) * 256 + b.toNat) % 65536 * 256 + c.toNat) % 65536 * 256 + d.toNat) % 65536 / 4 % 64, (((((0 * 256 + a.toNat) % 65536) * 256 + b.toNat) % 65536 * 256 + c.toNat) % 65536 * 256 + d.toNat) % 65536 % 4 * 16] = _
  rw [w0 a.toNat_lt, w1 a.toNat_lt b.toNat_lt, w2 b.toNat_lt c.toNat_lt, w2 c.toNat_lt d.toNat_lt, q1 a.toNat_lt, q2 b.toNat_lt, q3 c.toNat_lt, q4, q5 d.toNat_lt, q6]

theorem t1 {a : Nat} (h : a < 256) : a / 4 < 64 := by omega
theorem t2 {a b : Nat} (h : b < 256) : a % 4 * 16 + b / 16 < 64 := by omega
theorem t3 {b c : Nat} (h : c < 256) : b % 16 * 4 + c / 64 < 64 := by omega
theorem t4 {c : Nat} : c % 64 < 64 := by omega
theorem t5 {c : Nat} : c % 4 * 16 < 64 := by omega
theorem t6 {c : Nat} : c % 16 * 4 < 64 := by omega
theorem all_cons {p : Nat → Prop} {a : Nat} {l : List Nat} (h : p a) (hl : ∀ x ∈ l, p x) : ∀ x ∈ a :: l, p x := fun x hx => by
  rcases List.mem_cons.mp hx with rfl | hx
  · exact h
  · exact hl x hx
theorem figs_lt (l : Row) (hl : l.length ≤ 4) : ∀ f ∈ figs l, f < 64 := by
  revert l hl
  refine short_cases ?_ ?_ ?_ ?_ ?_
  · rw [figs0.1]; nofun
  · intro a
    rw [(figs1 _).1]
    exact all_cons (t1 a.toNat_lt) (all_cons t5 nofun)
  · intro a b
    rw [(figs2 _ _).1]
    exact all_cons (t1 a.toNat_lt) (all_cons (t2 b.toNat_lt) (all_cons t6 nofun))
  · intro a b c
    rw [(figs3 _ _ _).1]
    exact all_cons (t1 a.toNat_lt) (all_cons (t2 b.toNat_lt) (all_cons (t3 c.toNat_lt) (all_cons t4 nofun)))
  · intro a b c d
    rw [(figs4 _ _ _ _).1]
    exact all_cons (t1 a.toNat_lt) (all_cons (t2 b.toNat_lt) (all_cons (t3 c.toNat_lt) (all_cons t4 (all_cons (t1 d.toNat_lt) (all_cons t5 nofun)))))
theorem figs_pad (l : Row) (hl : l.length ≤ 4) : ((figs l).length % 4 = 0 ∧ padN l = 0) ∨ ((figs l).length % 4 = 2 ∧ padN l = 2) ∨ ((figs l).length % 4 = 3 ∧ padN l = 1) := by
  revert l hl
  refine short_cases ?_ ?_ ?_ ?_ ?_
  · exact .inl ⟨rfl, rfl⟩
  · intro a; rw [(figs1 _).1]; exact .inr (.inl ⟨by rw [show ([a.toNat / 4, a.toNat % 4 * 16] : List Nat).length = 2 from rfl], rfl⟩)
  · intro a b; rw [(figs2 _ _).1]; exact .inr (.inr ⟨by simp, rfl⟩)
  · intro a b c; rw [(figs3 _ _ _).1]; exact .inl ⟨by simp, rfl⟩
  · intro a b c d; rw [(figs4 _ _ _ _).1]; exact .inr (.inl ⟨by simp, rfl⟩)
theorem figs_len (l : Row) (hl : l.length ≤ 4) : (figs l).length ≤ 1000 := by
  revert l hl
  refine short_cases ?_ ?_ ?_ ?_ ?_
  · decide
  · intro a; rw [(figs1 _).1]; simp
  · intro a b; rw [(figs2 _ _).1]; simp
  · intro a b c; rw [(figs3 _ _ _).1]; simp
  · intro a b c d; rw [(figs4 _ _ _ _).1]; simp
theorem u8_of {x : Nat} {a : UInt8} (h : x = a.toNat) : (((x : Nat) : Int).toNat).toUInt8 = a := by
  rw [h, Int.toNat_natCast]; simp
theorem r1 {a b : Nat} (h : b < 256) : a / 4 * 4 + (a % 4 * 16 + b / 16) / 16 = a := by omega
theorem r2 {a b c : Nat} (hb : b < 256) (h : c < 256) : (a % 4 * 16 + b / 16) % 16 * 16 + (b % 16 * 4 + c / 64) / 4 = b := by omega
theorem r3 {b c : Nat} (h : c < 256) : (b % 16 * 4 + c / 64) % 4 * 64 + c % 64 = c := by omega
theorem r4 {a : Nat} : a / 4 * 4 + a % 4 * 16 / 16 = a := by omega
theorem r5 {a b : Nat} (h : b < 256) : (a % 4 * 16 + b / 16) % 16 * 16 + b % 16 * 4 / 4 = b := by omega
/-- the way back -/
theorem back64 (l : Row) (hl : l.length ≤ 4) : toBytes ((a2all (figs l)).1.map fun (x : Nat) => (x : Int)) = l := by
  revert l hl
  refine short_cases ?_ ?_ ?_ ?_ ?_
  · rfl
  · intro a
    rw [(figs1 _).1]
    show [_] = [_]
    simp only [List.cons.injEq, and_true]
    exact u8_of r4
  · intro a b
    rw [(figs2 _ _).1]
    show [_, _] = [_, _]
    simp only [List.cons.injEq, and_true]
    exact ⟨u8_of (r1 b.toNat_lt), u8_of (r5 b.toNat_lt)⟩
  · intro a b c
    rw [(figs3 _ _ _).1]
    show [_, _, _] = [_, _, _]
    simp only [List.cons.injEq, and_true]
    exact ⟨u8_of (r1 b.toNat_lt), u8_of (r2 b.toNat_lt c.toNat_lt), u8_of (r3 c.toNat_lt)⟩
  · intro a b c d
    rw [(figs4 _ _ _ _).1]
    show [_, _, _, _] = [_, _, _, _]
    simp only [List.cons.injEq, and_true]
    exact ⟨u8_of (r1 b.toNat_lt), u8_of (r2 b.toNat_lt c.toNat_lt), u8_of (r3 c.toNat_lt), u8_of r4⟩
theorem sp_dec64 (l : Row) (hl : l.length ≤ 4) : Spec prog w (KK w) 9 (.ref 161) [.bytes (enc64 l)] [("validate", .bool true)] (.bytes l) := by
  rw [enc_txt]
  exact Spec.mono (sp_b64decode (figs l) (padN l) (figs_lt l hl) (figs_pad l hl) (figs_len l hl)) (by rw [back64 l hl])

/-- the signs: 64 stands for the sign behind -/
noncomputable def sy (l : Row) : List Nat := figs l ++ List.replicate (padN l) 64
noncomputable def cN (x : Nat) : Nat := if x = 64 then 61 else (chr64 x).toNat
noncomputable def rN (x : Nat) : Int := if x = 64 then 12 else lrank x
theorem cr_mono : ∀ x, x < 65 → ∀ y, y < 65 → (cN x < cN y ↔ rN x < rN y) := by decide +kernel
theorem cN_inj : ∀ x, x < 65 → ∀ y, y < 65 → (cN x = cN y → x = y) := by decide +kernel
theorem rN_inj : ∀ x, x < 65 → ∀ y, y < 65 → (rN x = rN y → x = y) := by decide +kernel
theorem sy_lt (l : Row) (hl : l.length ≤ 4) : ∀ x ∈ sy l, x < 65 := by
  intro x hx
  rcases List.mem_append.mp hx with h | h
  · exact Nat.lt_succ_of_lt (figs_lt l hl x h)
  · rw [(List.mem_replicate.mp h).2]; decide
theorem nums_enc (l : Row) (hl : l.length ≤ 4) : nums (enc64 l) = (sy l).map cN := by
  rw [enc_txt]
  unfold txt64 sy nums toBytes
  rw [List.map_append, List.map_append, List.map_append, List.map_map, List.map_map, List.map_replicate, List.map_replicate, List.map_replicate]
  congr 1
  apply List.map_congr_left
  intro x hx
  have h := figs_lt l hl x hx
  have := chr_nat x
  show ((chr64 x).toNat.toUInt8).toNat = cN x
  unfold cN
  rw [if_neg (by omega)]
  omega
theorem lex_map : ∀ u v : List Nat, (∀ x ∈ u, x < 65) → (∀ x ∈ v, x < 65) → (u.map cN < v.map cN ↔ u.map rN < v.map rN)
  | [], [], _, _ => by simp
  | [], _ :: _, _, _ => by simp
  | _ :: _, [], _, _ => by simp
  | x :: u, y :: v, hu, hv => by
    have h1 := hu x (.head _)
    have h2 := hv y (.head _)
    have ih := lex_map u v (fun z hz => hu z (.tail _ hz)) (fun z hz => hv z (.tail _ hz))
    rw [List.map_cons, List.map_cons, List.map_cons, List.map_cons, List.cons_lt_cons_iff, List.cons_lt_cons_iff, ih, cr_mono x h1 y h2]
    have e : cN x = cN y ↔ rN x = rN y := ⟨fun h => by rw [cN_inj x h1 y h2 h], fun h => by rw [rN_inj x h1 y h2 h]⟩
    rw [e]
theorem inj_map : ∀ u v : List Nat, (∀ x ∈ u, x < 65) → (∀ x ∈ v, x < 65) → u.map cN = v.map cN → u = v
  | [], [], _, _, _ => rfl
  | [], _ :: _, _, _, h => by simp at h
  | _ :: _, [], _, _, h => by simp at h
  | x :: u, y :: v, hu, hv, h => by
    rw [List.map_cons, List.map_cons, List.cons.injEq] at h
    rw [cN_inj x (hu x (.head _)) y (hv y (.head _)) h.1, inj_map u v (fun z hz => hu z (.tail _ hz)) (fun z hz => hv z (.tail _ hz)) h.2]
theorem rN_of {y : Nat} (hy : y < 64) : lrank ((y : Nat) : Int) = rN y := by
  unfold rN
  rw [if_neg (by omega)]
noncomputable def val64 (fs : List Nat) : Nat := fs.foldl (fun x f => x * 64 + f) 0
theorem val_snoc (fs : List Nat) (f : Nat) : val64 (fs ++ [f]) = val64 fs * 64 + f := by
  unfold val64; rw [List.foldl_append]; rfl
theorem digits (n : Nat) : ∀ fs : List Nat, fs.length = n → (∀ f ∈ fs, f < 64) → (List.range n).map (fun k => val64 fs / 64 ^ (n - 1 - k) % 64) = fs := by
  induction n with
  | zero => intro fs h _; rw [List.length_eq_zero_iff.mp h]; rfl
  | succ n ih =>
    intro fs h hf
    rcases List.eq_nil_or_concat fs with rfl | ⟨gs, f, rfl⟩
    · cases h
    · rw [List.concat_eq_append] at h hf ⊢
      have hg : gs.length = n := by simpa using h
      have hf' : f < 64 := hf f (by simp)
      rw [List.range_succ, List.map_append, val_snoc]
      congr 1
      · refine Eq.trans (List.map_congr_left fun k hk => ?_) (ih gs hg fun g h => hf g (by simp [h]))
        have hk' := List.mem_range.mp hk
        rw [show n + 1 - 1 - k = (n - 1 - k) + 1 by omega, Nat.pow_succ, Nat.mul_comm (64 ^ _) 64, ← Nat.div_div_eq_div_mul]
        rw [show (val64 gs * 64 + f) / 64 = val64 gs by omega]
      · simp only [List.map_cons, List.map_nil]
        rw [show n + 1 - 1 - n = 0 by omega, Nat.pow_zero, Nat.div_one, show (val64 gs * 64 + f) % 64 = f by omega]
theorem ranks_of {l : Row} (hl : l.length ≤ 4) (h1 : (figs l).length = rkCnt l) (h2 : val64 (figs l) = rkTop l) (h3 : (4 - rkCnt l % 4) % 4 = padN l) : ranks l = (sy l).map rN := by
  unfold ranks sy
  rw [List.map_append, List.map_replicate, h3]
  congr 1
  have hd := digits (rkCnt l) (figs l) h1 (figs_lt l hl)
  rw [h2] at hd
  conv => rhs; rw [← hd]
  rw [List.map_map]
  exact List.map_congr_left fun k _ => rN_of (Nat.mod_lt _ (by decide))
theorem v4 {a : Nat} : a / 4 * 64 + a % 4 * 16 = a * 16 := by omega
theorem v5 {a b : Nat} : (a / 4 * 64 + (a % 4 * 16 + b / 16)) * 64 + b % 16 * 4 = (a * 256 + b) * 4 := by omega
theorem v6 {a b c : Nat} : ((a / 4 * 64 + (a % 4 * 16 + b / 16)) * 64 + (b % 16 * 4 + c / 64)) * 64 + c % 64 = (a * 256 + b) * 256 + c := by omega
theorem v7 {x d : Nat} : (x * 64 + d / 4) * 64 + d % 4 * 16 = (x * 256 + d) * 16 := by omega
theorem cnt1 (a : UInt8) : rkCnt [a] = 2 := by simp [rkCnt]
theorem cnt2 (a b : UInt8) : rkCnt [a, b] = 3 := by simp [rkCnt]
theorem cnt3 (a b c : UInt8) : rkCnt [a, b, c] = 4 := by simp [rkCnt]
theorem cnt4 (a b c d : UInt8) : rkCnt [a, b, c, d] = 6 := by simp [rkCnt]
theorem top_of {l : Row} {n : Nat} (h : rkCnt l * 6 - l.length * 8 = n) (hv : val64 (figs l) = rkVal l * 2 ^ n) : val64 (figs l) = rkTop l := by
  unfold rkTop; rw [h]; exact hv
theorem ranks_sy (l : Row) (hl : l.length ≤ 4) : ranks l = (sy l).map rN := by
  refine ranks_of hl ?_ ?_ ?_ <;> revert l hl <;> refine short_cases ?_ ?_ ?_ ?_ ?_
  · rfl
  · intro a; rw [(figs1 _).1, cnt1]; rfl
  · intro a b; rw [(figs2 _ _).1, cnt2]; rfl
  · intro a b c; rw [(figs3 _ _ _).1, cnt3]; rfl
  · intro a b c d; rw [(figs4 _ _ _ _).1, cnt4]; rfl
  · rfl
  · intro a
    refine top_of (n := 4) (by rw [cnt1]; rfl) ?_
    rw [(figs1 _).1]
    show (0 * 64 + _) * 64 + _ = (0 * 256 + _) * 16
    rw [Nat.zero_mul, Nat.zero_add, Nat.zero_add]
    exact v4
  · intro a b
    refine top_of (n := 2) (by rw [cnt2]; rfl) ?_
    rw [(figs2 _ _).1]
    show ((0 * 64 + _) * 64 + _) * 64 + _ = ((0 * 256 + _) * 256 + _) * 4
    rw [Nat.zero_mul, Nat.zero_add, Nat.zero_add]
    exact v5
  · intro a b c
    refine top_of (n := 0) (by rw [cnt3]; rfl) ?_
    rw [(figs3 _ _ _).1]
    show (((0 * 64 + _) * 64 + _) * 64 + _) * 64 + _ = (((0 * 256 + _) * 256 + _) * 256 + _) * 1
    rw [Nat.zero_mul, Nat.zero_add, Nat.zero_add, Nat.mul_one]
    exact v6
  · intro a b c d
    refine top_of (n := 4) (by rw [cnt4]; rfl) ?_
    rw [(figs4 _ _ _ _).1]
    show (((((0 * 64 + _) * 64 + _) * 64 + _) * 64 + _) * 64 + _) * 64 + _ = ((((0 * 256 + _) * 256 + _) * 256 + _) * 256 + _) * 16
    rw [Nat.zero_mul, Nat.zero_add, Nat.zero_add, v6]
    exact v7
  · rfl
  · intro a; rw [cnt1]; rfl
  · intro a b; rw [cnt2]; rfl
  · intro a b c; rw [cnt3]; rfl
  · intro a b c d; rw [cnt4]; rfl

theorem enc_order (x y : Row) (hx : x.length ≤ 4) (hy : y.length ≤ 4) : nums (enc64 x) < nums (enc64 y) ↔ ranks x < ranks y := by
  rw [nums_enc x hx, nums_enc y hy, ranks_sy x hx, ranks_sy y hy]
  exact lex_map _ _ (sy_lt x hx) (sy_lt y hy)
theorem takeWhile_sy (l : Row) (hl : l.length ≤ 4) : (sy l).takeWhile (· < 64) = figs l := by
  unfold sy
  rw [List.takeWhile_append_of_pos (by intro x hx; simpa using figs_lt l hl x hx)]
  cases padN l with
  | zero => simp
  | succ n => rw [List.replicate_succ, List.takeWhile_cons]; simp
theorem enc_inj (x y : Row) (hx : x.length ≤ 4) (hy : y.length ≤ 4) (h : enc64 x = enc64 y) : x = y := by
  have h1 : (sy x).map cN = (sy y).map cN := by rw [← nums_enc x hx, ← nums_enc y hy, h]
  have h2 := inj_map _ _ (sy_lt x hx) (sy_lt y hy) h1
  have h3 : figs x = figs y := by rw [← takeWhile_sy x hx, ← takeWhile_sy y hy, h2]
  rw [← back64 x hx, ← back64 y hy, h3]
theorem ranks_inj (x y : Row) (hx : x.length ≤ 4) (hy : y.length ≤ 4) (h : ranks x = ranks y) : x = y := by
  refine enc_inj x y hx hy (nums_inj ?_)
  refine List.le_antisymm (List.not_lt.mp fun q => ?_) (List.not_lt.mp fun q => ?_)
  · rw [enc_order y x hy hx, h] at q; exact List.lt_irrefl _ q
  · rw [enc_order x y hx hy, h] at q; exact List.lt_irrefl _ q

/-- base 16 -/
theorem HU_mono : ∀ x, x < 16 → ∀ y, y < 16 → ((HU x).toNat < (HU y).toNat ↔ x < y) := by decide +kernel
theorem HU_inj : ∀ x, x < 16 → ∀ y, y < 16 → ((HU x).toNat = (HU y).toNat → x = y) := by decide +kernel
theorem hex_order : ∀ x y : Row, nums (hexT x) < nums (hexT y) ↔ nums x < nums y
  | [], [] => by simp [List.lt_irrefl]
  | [], b :: y => by
    rw [hexT_cons]
    show nums (hexT []) < _ :: _ ↔ nums [] < _ :: _
    exact ⟨fun _ => List.nil_lt_cons _ _, fun _ => List.nil_lt_cons _ _⟩
  | a :: x, [] => by
    rw [hexT_cons]
    show _ :: _ < nums (hexT []) ↔ _ :: _ < nums []
    exact ⟨fun h => absurd h (List.not_lt_nil _), fun h => absurd h (List.not_lt_nil _)⟩
  | a :: x, b :: y => by
    have ih := hex_order x y
    have ha := a.toNat_lt
    have hb := b.toNat_lt
    rw [hexT_cons, hexT_cons]
    show (HU (a.toNat / 16)).toNat :: (HU (a.toNat % 16)).toNat :: nums (hexT x) < (HU (b.toNat / 16)).toNat :: (HU (b.toNat % 16)).toNat :: nums (hexT y) ↔ a.toNat :: nums x < b.toNat :: nums y
    rw [List.cons_lt_cons_iff, List.cons_lt_cons_iff, List.cons_lt_cons_iff, ih, HU_mono _ (by omega) _ (by omega), HU_mono _ (by omega) _ (by omega)]
    have e1 : (HU (a.toNat / 16)).toNat = (HU (b.toNat / 16)).toNat ↔ a.toNat / 16 = b.toNat / 16 := ⟨HU_inj _ (by omega) _ (by omega), fun h => by rw [h]⟩
    have e2 : (HU (a.toNat % 16)).toNat = (HU (b.toNat % 16)).toNat ↔ a.toNat % 16 = b.toNat % 16 := ⟨HU_inj _ (by omega) _ (by omega), fun h => by rw [h]⟩
    rw [e1, e2]
    constructor
    · rintro (h | ⟨h, h' | ⟨h', q⟩⟩)
      · exact .inl (by omega)
      · exact .inl (by omega)
      · exact .inr ⟨by omega, q⟩
    · rintro (h | ⟨h, q⟩)
      · by_cases h1 : a.toNat / 16 < b.toNat / 16
        · exact .inl h1
        · exact .inr ⟨by omega, .inl (by omega)⟩
      · exact .inr ⟨by omega, .inr ⟨by omega, q⟩⟩
theorem hex_inj (x y : Row) (h : hexT x = hexT y) : x = y := by
  refine nums_inj ?_
  refine List.le_antisymm (List.not_lt.mp fun q => ?_) (List.not_lt.mp fun q => ?_)
  · rw [← hex_order y x, h] at q; exact List.lt_irrefl _ q
  · rw [← hex_order x y, h] at q; exact List.lt_irrefl _ q
end
-- F32
section
set_option maxRecDepth 100000
set_option maxHeartbeats 1000000
noncomputable def blk (f : Row → Row) (a : Row → Nat) (order : List Row) : List Row := order.flatMap fun r => List.replicate (a r) (f r)
noncomputable def lk2 (a b : Row → Nat) : List Row → List Row
  | [] => []
  | r :: t => (if b r = 0 then List.replicate (if ∀ q ∈ t, b q = 0 then a r else min (a r) 1) r else []) ++ lk2 a b t
theorem blk_mem {f : Row → Row} {a : Row → Nat} {t : List Row} {z : Row} (h : z ∈ blk f a t) : ∃ r ∈ t, z = f r ∧ a r ≠ 0 := by
  obtain ⟨r, hr, hz⟩ := List.mem_flatMap.mp h
  exact ⟨r, hr, (List.mem_replicate.mp hz).2, (List.mem_replicate.mp hz).1⟩
theorem blk_nil {f : Row → Row} {a : Row → Nat} {t : List Row} : blk f a t = [] ↔ ∀ q ∈ t, a q = 0 := by
  unfold blk
  rw [List.flatMap_eq_nil_iff]
  simp
theorem lk_all {f : Row → Row} {a b : Row → Nat} : ∀ {t : List Row}, (∀ q ∈ t, b q = 0) → (lk2 a b t).map f = blk f a t
  | [], _ => rfl
  | r :: t, h => by
    have h1 : ∀ q ∈ t, b q = 0 := fun q hq => h q (.tail _ hq)
    unfold lk2
    rw [if_pos (h r (.head _)), if_pos h1, List.map_append, lk_all h1, List.map_replicate]
    rfl
theorem lk_zero {a b : Row → Nat} : ∀ {t : List Row}, (∀ q ∈ t, b q = 0) → lk2 b a t = []
  | [], _ => rfl
  | r :: t, h => by
    have h1 : ∀ q ∈ t, b q = 0 := fun q hq => h q (.tail _ hq)
    unfold lk2
    rw [lk_zero h1, h r (.head _)]
    simp
theorem drop_rep {x : Row} {l : List Row} (h : ∀ z ∈ l, z ≠ x) : ∀ k : Nat, (List.replicate k x ++ l).dropWhile (· == x) = l
  | 0 => by
    cases l with
    | nil => rfl
    | cons z l =>
      have : (z == x) = false := by simpa using h z (.head _)
      simp [this]
  | k + 1 => by
    rw [List.replicate_succ, List.cons_append, List.dropWhile_cons]
    simp [drop_rep h k]

/-- what is told of two sorted lists -/
theorem sd_blk {f : Row → Row} {a b : Row → Nat} : ∀ {order : List Row}, order.Pairwise (fun x y => nums (f x) < nums (f y)) → sd (blk f a order) (blk f b order) = ((lk2 a b order).map f, (lk2 b a order).map f)
  | [], _ => by show sd [] [] = _; rw [sd_nil]; rfl
  | r :: t, h => by
    obtain ⟨h1, h2⟩ := List.pairwise_cons.mp h
    have ih := sd_blk (a := a) (b := b) h2
    have neX : ∀ z ∈ blk f a t, z ≠ f r := fun z hz e => by
      obtain ⟨q, hq, rfl, _⟩ := blk_mem hz
      have := h1 q hq
      rw [e] at this; exact List.lt_irrefl _ this
    have neY : ∀ z ∈ blk f b t, z ≠ f r := fun z hz e => by
      obtain ⟨q, hq, rfl, _⟩ := blk_mem hz
      have := h1 q hq
      rw [e] at this; exact List.lt_irrefl _ this
    have ea : blk f a (r :: t) = List.replicate (a r) (f r) ++ blk f a t := rfl
    have eb : blk f b (r :: t) = List.replicate (b r) (f r) ++ blk f b t := rfl
    rw [ea, eb]
    unfold lk2
    cases har : a r with
    | zero =>
      cases hbr : b r with
      | zero =>
        simp only [List.replicate_zero, List.nil_append, if_true, Nat.min_def]
        simpa using ih
      | succ m =>
        have e1 : (if (m + 1 = 0) then List.replicate (if ∀ q ∈ t, b q = 0 then 0 else min 0 1) r else []) = [] := by simp
        rw [e1, if_pos rfl, List.replicate_zero, List.nil_append, List.nil_append]
        rw [List.replicate_succ, List.cons_append]
        cases hX : blk f a t with
        | nil =>
          have hz := blk_nil.mp hX
          rw [sd_nil, if_pos hz, lk_zero hz, List.map_append, lk_all hz, List.map_replicate]
          rfl
        | cons x xs =>
          have hx : x ∈ blk f a t := by rw [hX]; exact .head _
          obtain ⟨q, hq, rfl, hqa⟩ := blk_mem hx
          have lt := h1 q hq
          rw [sd_gt (fun h => List.lt_irrefl _ (List.lt_trans h lt)) lt, drop_rep neY, ← hX, ih, if_neg (fun h => hqa (h q hq))]
          simp [List.map_append, show min (m + 1) 1 = 1 by omega]
    | succ k =>
      cases hbr : b r with
      | zero =>
        have e1 : (if (k + 1 = 0) then List.replicate (if ∀ q ∈ t, a q = 0 then 0 else min 0 1) r else []) = [] := by simp
        rw [e1, if_pos rfl, List.replicate_zero, List.nil_append, List.nil_append]
        rw [List.replicate_succ, List.cons_append]
        cases hY : blk f b t with
        | nil =>
          have hz := blk_nil.mp hY
          rw [sd_nil2, if_pos hz, lk_zero hz, List.map_append, lk_all hz, List.map_replicate]
          rfl
        | cons y ys =>
          have hy : y ∈ blk f b t := by rw [hY]; exact .head _
          obtain ⟨q, hq, rfl, hqb⟩ := blk_mem hy
          have lt := h1 q hq
          rw [sd_lt lt, drop_rep neX, ← hY, ih, if_neg (fun h => hqb (h q hq))]
          simp [List.map_append, show min (k + 1) 1 = 1 by omega]
      | succ m =>
        rw [List.replicate_succ, List.replicate_succ, List.cons_append, List.cons_append, sd_eq (List.lt_irrefl _) (List.lt_irrefl _), drop_rep neX, drop_rep neY, ih]
        simp

theorem isIn_count {l : List Row} {x : Row} : isIn l x = true ↔ l.count x ≠ 0 := by
  unfold isIn
  rw [List.any_eq_true]
  constructor
  · rintro ⟨y, hy, e⟩
    rw [beq_iff_eq] at e; subst e
    exact Nat.ne_of_gt (List.count_pos_iff.mpr hy)
  · intro h
    exact ⟨x, List.count_pos_iff.mp (Nat.pos_of_ne_zero h), by simp⟩
theorem lack_suffix {shelf other order : List Row} : ∀ (t pre : List Row), order = pre ++ t → lackTo shelf other order order.length = lackTo shelf other order pre.length ++ lk2 (shelf.count ·) (other.count ·) t
  | [], pre, h => by rw [h]; simp [lk2]
  | r :: t, pre, h => by
    have ih := lack_suffix (shelf := shelf) (other := other) (order := order) t (pre ++ [r]) (by rw [h]; simp)
    rw [ih, List.length_append, List.length_singleton]
    have hr : order[pre.length]? = some r := by rw [h]; simp
    show (lackTo shelf other order pre.length ++ (match order[pre.length]? with | some row => lkStep shelf other order pre.length row | none => [])) ++ _ = _
    rw [hr]
    show (lackTo shelf other order pre.length ++ lkStep shelf other order pre.length r) ++ _ = lackTo shelf other order pre.length ++ ((if other.count r = 0 then _ else _) ++ _)
    rw [List.append_assoc]
    congr 2
    have hd : order.drop (pre.length + 1) = t := by
      rw [h, show pre ++ r :: t = (pre ++ [r]) ++ t by simp]
      rw [show pre.length + 1 = (pre ++ [r]).length by simp]
      exact List.drop_left ..
    have hab : (aboveL order other pre.length).isEmpty = true ↔ ∀ q ∈ t, other.count q = 0 := by
      unfold aboveL
      rw [hd, List.isEmpty_iff, List.filter_eq_nil_iff]
      constructor
      · intro h q hq
        exact Classical.byContradiction fun z => h q hq (isIn_count.mpr z)
      · intro h q hq z
        exact (isIn_count.mp z) (h q hq)
    unfold lkStep
    by_cases hc : other.count r = 0
    · rw [if_pos hc, if_neg (fun z => (isIn_count.mp z) hc)]
      by_cases ht : ∀ q ∈ t, other.count q = 0
      · rw [if_pos ht, if_pos (hab.mpr ht)]
      · rw [if_neg ht, if_neg (fun z => ht (hab.mp z))]
    · rw [if_neg hc, if_pos (isIn_count.mpr hc)]
theorem lacking_eq (shelf other order : List Row) : lacking shelf other order = lk2 (shelf.count ·) (other.count ·) order := by
  have := lack_suffix (shelf := shelf) (other := other) (order := order) order [] rfl
  unfold lacking
  rw [this]; rfl

theorem count_flat (a : Row → Nat) (x : Row) : ∀ {order : List Row}, order.Nodup → (order.flatMap fun r => List.replicate (a r) r).count x = if x ∈ order then a x else 0
  | [], _ => by simp
  | r :: t, h => by
    obtain ⟨h1, h2⟩ := List.nodup_cons.mp h
    rw [List.flatMap_cons, List.count_append, count_flat a x h2, List.count_replicate]
    by_cases e : x = r
    · subst e
      simp [h1]
    · have e' : ¬ r = x := fun q => e q.symm
      simp [e, e']
theorem blk_perm {f : Row → Row} {shelf order : List Row} (hn : order.Nodup) (hs : ∀ r ∈ shelf, r ∈ order) : (blk f (shelf.count ·) order).Perm (shelf.map f) := by
  have e : blk f (shelf.count ·) order = (order.flatMap fun r => List.replicate (shelf.count r) r).map f := by
    unfold blk
    rw [List.map_flatMap]
    simp [List.map_replicate]
  rw [e]
  refine List.Perm.map f ?_
  rw [List.perm_iff_count]
  intro x
  rw [count_flat _ _ hn]
  split
  · rfl
  · rename_i h
    exact (List.count_eq_zero.mpr fun q => h (hs x q)).symm
theorem leB_of_lt {x y : Row} (h : nums x < nums y) : leB x y = true := by
  unfold leB
  simp only [Bool.not_eq_true', decide_eq_false_iff_not]
  exact fun q => List.lt_irrefl _ (List.lt_trans q h)
theorem leB_refl (x : Row) : leB x x = true := by
  unfold leB
  simp [List.lt_irrefl]
theorem blk_sorted {f : Row → Row} {a : Row → Nat} : ∀ {order : List Row}, order.Pairwise (fun x y => nums (f x) < nums (f y)) → (blk f a order).Pairwise fun x y => leB x y = true
  | [], _ => .nil
  | r :: t, h => by
    obtain ⟨h1, h2⟩ := List.pairwise_cons.mp h
    show (List.replicate (a r) (f r) ++ blk f a t).Pairwise _
    rw [List.pairwise_append]
    refine ⟨?_, blk_sorted h2, fun x hx y hy => ?_⟩
    · rw [List.pairwise_replicate]; exact .inr (leB_refl _)
    · obtain ⟨q, hq, rfl, _⟩ := blk_mem hy
      rw [(List.mem_replicate.mp hx).2]
      exact leB_of_lt (h1 q hq)
theorem sort_blk {f : Row → Row} {shelf order : List Row} (ho : order.Pairwise (fun x y => nums (f x) < nums (f y))) (hs : ∀ r ∈ shelf, r ∈ order) : sortB (shelf.map f) = blk f (shelf.count ·) order := by
  have hn : order.Nodup := ho.imp fun {a b} h e => by rw [e] at h; exact List.lt_irrefl _ h
  exact (sortB_eq (blk_perm hn hs) (blk_sorted ho)).symm
/-- the law of the difference -/
theorem told_eq {f : Row → Row} {first second order : List Row} (ho : order.Pairwise (fun x y => nums (f x) < nums (f y))) (h1 : ∀ r ∈ first, r ∈ order) (h2 : ∀ r ∈ second, r ∈ order) :
    sd (sortB (first.map f)) (sortB (second.map f)) = ((lacking first second order).map f, (lacking second first order).map f) := by
  rw [sort_blk ho h1, sort_blk ho h2, sd_blk ho, lacking_eq, lacking_eq]

theorem compared_eq {f : Row → Row} {order : List Row} (ho : order.Pairwise (fun x y => nums (f x) < nums (f y))) : compared (order.map f) = rising order.length := by
  unfold compared rising
  apply List.ext_getElem
  · simp
  · intro i h1 h2
    simp only [List.length_map, List.length_range] at h1 h2
    simp only [List.getElem_map, List.getElem_range]
    unfold cmpRow
    congr 1
    apply List.ext_getElem
    · simp
    · intro j h3 h4
      simp only [List.length_map, List.length_range] at h3 h4
      simp only [List.getElem_map, List.getElem_range]
      congr 1
      unfold cmpI sgn
      have hp := List.pairwise_iff_getElem.mp ho
      rcases Nat.lt_trichotomy i j with h | h | h
      · have q := hp i j h1 h3 h
        have q' : ¬ nums (f order[j]) < nums (f order[i]) := fun z => List.lt_irrefl _ (List.lt_trans q z)
        rw [if_pos h, decide_eq_true q, decide_eq_false q']; rfl
      · subst h
        rw [if_neg (Nat.lt_irrefl _), if_pos rfl, decide_eq_false (List.lt_irrefl _)]; rfl
      · have q := hp j i h3 h1 h
        have q' : ¬ nums (f order[i]) < nums (f order[j]) := fun z => List.lt_irrefl _ (List.lt_trans q z)
        rw [if_neg (by omega), if_neg (by omega), decide_eq_true q, decide_eq_false q']; rfl

/-- the shelves -/
structure ShOk (q : Sh) : Prop where
  one : ∀ r ∈ q.first, r ∈ q.rows
  two : ∀ r ∈ q.second, r ∈ q.rows
  nd : q.rows.Nodup
  short : ∀ r ∈ q.rows, r.length ≤ 4
theorem rowL_le : ∀ f n, (rowL f n).length ≤ f
  | 0, _ => Nat.le_refl _
  | f + 1, n => by
    unfold rowL
    split
    · simp
    · have := rowL_le f ((n - 1) / 256)
      rw [List.length_cons]; omega
theorem rowB_len (n : Nat) : (rowB n).length ≤ 4 := by
  unfold rowB; rw [List.length_map]; exact rowL_le 4 n
theorem ShOk.step {q : Sh} (h : ShOk q) (v : Nat) : ShOk (shStep q v) := by
  have hin : rowB (v / 6) ∈ (shStep q v).rows := by
    unfold shStep
    dsimp only
    split
    · rename_i hh
      obtain ⟨y, hy, e⟩ := List.any_eq_true.mp hh
      rw [beq_iff_eq] at e; subst e; exact hy
    · exact List.mem_append_right _ (.head _)
  have hsub : ∀ r ∈ q.rows, r ∈ (shStep q v).rows := fun r hr => by
    unfold shStep
    dsimp only
    split
    · exact hr
    · exact List.mem_append_left _ hr
  refine ⟨fun r hr => ?_, fun r hr => ?_, ?_, fun r hr => ?_⟩
  · rcases List.mem_append.mp hr with hr | hr
    · exact hsub r (h.one r hr)
    · rw [(List.mem_replicate.mp hr).2]; exact hin
  · rcases List.mem_append.mp hr with hr | hr
    · exact hsub r (h.two r hr)
    · rw [(List.mem_replicate.mp hr).2]; exact hin
  · unfold shStep
    dsimp only
    split
    · exact h.nd
    · rename_i hh
      refine List.nodup_append.mpr ⟨h.nd, by simp, fun a ha b hb => ?_⟩
      rw [List.mem_singleton.mp hb]
      rintro rfl
      exact hh (List.any_eq_true.mpr ⟨_, ha, by simp⟩)
  · unfold shStep at hr
    dsimp only at hr
    split at hr
    · exact h.short r hr
    · rcases List.mem_append.mp hr with hr | hr
      · exact h.short r hr
      · rw [List.mem_singleton.mp hr]; exact rowB_len _
theorem shOk (ns : List Nat) : ShOk (shelves ns) := by
  unfold shelves
  suffices h : ∀ q, ShOk q → ShOk (ns.foldl shStep q) from h _ ⟨nofun, nofun, List.nodup_nil, nofun⟩
  induction ns with
  | nil => exact fun q h => h
  | cons v ns ih => exact fun q h => ih _ (h.step v)

theorem order64 {q : Sh} (h : ShOk q) : (sortR ranks q.rows).Pairwise (fun x y => nums (enc64 x) < nums (enc64 y)) := by
  have hp := List.mergeSort_perm q.rows (leR ranks)
  have hs := List.pairwise_mergeSort (leR_trans ranks) (leR_total ranks) q.rows
  have hn : (sortR ranks q.rows).Nodup := (hp.nodup_iff).mpr h.nd
  have hm : ∀ x ∈ sortR ranks q.rows, x.length ≤ 4 := fun x hx => h.short x (hp.mem_iff.mp hx)
  have hb : (sortR ranks q.rows).Pairwise fun x y => leR ranks x y = true ∧ x ≠ y := List.pairwise_and_iff.mpr ⟨hs, hn⟩
  refine hb.imp_of_mem fun {a b} ha hb' hh => ?_
  rw [enc_order a b (hm a ha) (hm b hb')]
  obtain ⟨h1, h2⟩ := hh
  unfold leR at h1
  simp only [Bool.not_eq_true', decide_eq_false_iff_not] at h1
  exact lt_tot (fun e => h2 (ranks_inj a b (hm a ha) (hm b hb') e.symm)) h1
theorem order16 {q : Sh} (h : ShOk q) : (sortB q.rows).Pairwise (fun x y => nums (hexT x) < nums (hexT y)) := by
  have hp := List.mergeSort_perm q.rows leB
  have hs := List.pairwise_mergeSort leB_trans leB_total q.rows
  have hn : (sortB q.rows).Nodup := (hp.nodup_iff).mpr h.nd
  have hb : (sortB q.rows).Pairwise fun x y => leB x y = true ∧ x ≠ y := List.pairwise_and_iff.mpr ⟨hs, hn⟩
  refine hb.imp fun {a b} hh => ?_
  rw [hex_order]
  obtain ⟨h1, h2⟩ := hh
  unfold leB at h1
  simp only [Bool.not_eq_true', decide_eq_false_iff_not] at h1
  rcases Classical.em (nums a < nums b) with z | z
  · exact z
  · exact absurd (nums_inj (List.le_antisymm (List.not_lt.mp h1) (List.not_lt.mp z))) h2
theorem rows_nd {q : Sh} (h : ShOk q) : (q.rows.map ranks).Nodup := by
  rw [List.Nodup, List.pairwise_map]
  exact h.nd.imp_of_mem fun {a b} ha hb hne e => hne (ranks_inj a b (h.short a ha) (h.short b hb) e)
end
-- F33
section
set_option maxRecDepth 100000
set_option maxHeartbeats 1000000
variable {prog : Program} {w : World}
/-- what the script gives -/
noncomputable def cellN (c : Int) : Nat := (c.fmod 1000000000).toNat
noncomputable def nsL (ns : List Int) : List Nat := [1539, 7] ++ (ns.take 7).map cellN
noncomputable def cellD : D → D
  | .int c => .int (cellN c : Nat)
  | d => d
theorem cellN_lt (c : Int) : cellN c < 1000000000 := by
  unfold cellN
  have := Int.fmod_lt_of_pos c (b := 1000000000) (by decide)
  omega
theorem nsL_lt (ns : List Int) : ∀ v ∈ nsL ns, v < 1000000000 := by
  intro v hv
  rcases List.mem_append.mp hv with h | h
  · rcases List.mem_cons.mp h with rfl | h
    · decide
    · rw [List.mem_singleton.mp h]; decide
  · obtain ⟨c, _, rfl⟩ := List.mem_map.mp h
    exact cellN_lt c
theorem nsL_len (ns : List Int) : (nsL ns).length ≤ 9 := by
  unfold nsL
  rw [List.length_append, List.length_map, List.length_take]
  show 2 + _ ≤ 9
  omega

noncomputable def lawEnv (w : World) (L fa : Addr) (cd : Value) : Env := envOf "law" (fdOf (KK w) 222).scope L fa cd
noncomputable def lawBody (w : World) : List Stmt := match (fdOf (KK w) 222).body with
  | .stmts b => b
  | _ => []
theorem body_of {M : Model} {A : Around} {env : Env} {E : Value → Shared → Prop} {s : Shared} {Q : Flow → Shared → Prop} {body : List Stmt} (hb : (fdOf (KK w) 222).body = .stmts body) (h : wpAny M A (execs body env) Q E s) : wpAny M A (execs (lawBody w) env) Q E s := by
  have e : lawBody w = body := by unfold lawBody; rw [hb]
  rw [e]; exact h

section
variable {n : Nat} {env : Env} {σ σ' : Sto} {sE : Shared} {kp : Kpt} {O : Addr → Prop} {ad : Str → Addr} {s : Shared} {A : Around} {E : Value → Shared → Prop} {Q : Flow → Shared → Prop}
theorem Ex.unpack3 {x y z : Str} {px py pz tp pos : Pos} {c : Nat} {value : Expr} {d e f : D} (h : Ev prog w (KK w) true n env σ value (.tuple [d, e, f])) (hx : Storable env x) (hy : Storable env y) (hz : Storable env z) (hno : noOwn σ = true)
    (hs : swapsWithSole [.Tuple [.Name x px, .Name y py, .Name z pz] c tp] value pos.line env = pure false) (hw : swappedStores [.Tuple [.Name x px, .Name y py, .Name z pz] c tp] value env = pure Option.none) :
    Ex prog w (KK w) true n env σ (.Assign [.Tuple [.Name x px, .Name y py, .Name z pz] c tp] value pos) (.next (Sto.set (Sto.set (Sto.set σ x (.v d)) y (.v e)) z (.v f))) :=
  Ex.unpack (xs := [(x, px), (y, py), (z, pz)]) h rfl (by
    intro p hp
    rcases List.mem_cons.mp hp with rfl | hp
    · exact hx
    · rcases List.mem_cons.mp hp with rfl | hp
      · exact hy
      · rw [List.mem_singleton.mp hp]; exact hz) rfl (.inr hno) hs hw
/-- the two lists read back -/
noncomputable def invR (enc : Row → Row) (ls : List Row) (t : Row) : Row := (ls.find? fun l => enc l == t).getD []
theorem invR_eq {enc : Row → Row} {ls : List Row} (hinj : ∀ l ∈ ls, ∀ l' ∈ ls, enc l = enc l' → l = l') {l : Row} (hl : l ∈ ls) : invR enc ls (enc l) = l := by
  unfold invR
  cases h : ls.find? (fun l' => enc l' == enc l) with
  | none => exact absurd (List.find?_eq_none.mp h l hl) (by simp)
  | some l' =>
    have h1 := List.find?_some h
    rw [beq_iff_eq] at h1
    exact hinj l' (List.mem_of_find?_eq_some h) l hl h1
noncomputable def decB (enc : Row → Row) (ls : List Row) : D → D
  | .bytes t => .bytes (invR enc ls t)
  | d => d
noncomputable def decL (enc : Row → Row) (ls : List Row) : D → D
  | .list ds => .list (ds.map (decB enc ls))
  | d => d
theorem decB_map {enc : Row → Row} {ls : List Row} (hinj : ∀ l ∈ ls, ∀ l' ∈ ls, enc l = enc l' → l = l') {a : List Row} (ha : ∀ l ∈ a, l ∈ ls) : (dRows (a.map enc)).map (decB enc ls) = dRows a := by
  unfold dRows
  rw [List.map_map, List.map_map]
  refine List.map_congr_left fun l hl => ?_
  show D.bytes (invR enc ls (enc l)) = .bytes l
  rw [invR_eq hinj (ha l hl)]
theorem decComp {x y nm : Str} {px py qx p pos1 pos2 : Pos} {e : Expr} {scope1 scope2 : Scope} {enc : Row → Row} {a b : List Row}
    (hnm : Ev prog w (KK w) true (n + 1) env σ (.Name nm p) (.tuple [.list (dRows (a.map enc)), .list (dRows (b.map enc))])) (hinj : ∀ l ∈ a ++ b, ∀ l' ∈ a ++ b, enc l = enc l' → l = l') (hz1 : a.length ≤ 10000) (hz2 : b.length ≤ 10000)
    (helt : ∀ C C' l, l ∈ a ++ b → Ev prog w (KK w) true (n + 1) (cenvOf scope2 [] C' (cenvOf scope1 [] C env)) [(y, .v (.bytes (enc l)))] e (.bytes l))
    (hk1 : scope1.kind = .function) (hk2 : scope2.kind = .function) (hc1 : closureFor scope1 env = pure []) (hc2 : ∀ C, closureFor scope2 (cenvOf scope1 [] C env) = pure [])
    (hx : ∀ C, (cenvOf scope1 [] C env).kindOf x = some .local) (hy : ∀ C C', (cenvOf scope2 [] C' (cenvOf scope1 [] C env)).kindOf y = some .local)
    (hn1 : ∀ y ∈ scope1.names, y.2 = .local → scope1.names.lookup y.1 = some .local) (hn2 : ∀ y ∈ scope2.names, y.2 = .local → scope2.names.lookup y.1 = some .local) (d1 : (x == ("__debug__" : Str)) = false) :
    Ev prog w (KK w) true (n + 1) env σ (.ListComp (.ListComp e [⟨.Name y py, .Name x qx, [], 0⟩] scope2 pos2) [⟨.Name x px, .Name nm p, [], 0⟩] scope1 pos1) (.list [.list (dRows a), .list (dRows b)]) := by
  have ha : ∀ l ∈ a, l ∈ a ++ b := fun l h => List.mem_append_left _ h
  have hb : ∀ l ∈ b, l ∈ a ++ b := fun l h => List.mem_append_right _ h
  refine Ev.mono (d := .list (([D.list (dRows (a.map enc)), D.list (dRows (b.map enc))].filter fun _ => true).map (decL enc (a ++ b)))) (Ev.comp (σf := []) (ItrE.tuple hnm) ?_ (by show 2 ≤ 1000000; decide) hc1 hn1 (fun _ => rfl)) ?_
  · refine ⟨hk1, fun C => .inl (hx C), fun C c h _ => ?_, fun C y pv h => ?_, fun C d _ => Tests.nil, fun C d hd _ => ?_⟩
    · rw [hx C] at h; cases h
    · cases h
    · obtain ⟨c, hc, hcz, rfl⟩ : ∃ c : List Row, (∀ l ∈ c, l ∈ a ++ b) ∧ c.length ≤ 10000 ∧ d = .list (dRows (c.map enc)) := by
        rcases List.mem_cons.mp hd with rfl | hd
        · exact ⟨a, ha, hz1, rfl⟩
        · rw [List.mem_singleton.mp hd]; exact ⟨b, hb, hz2, rfl⟩
      show Ev _ _ _ _ _ _ _ _ (.list ((dRows (c.map enc)).map (decB enc (a ++ b))))
      refine Ev.mono (d := .list (((dRows (c.map enc)).filter fun _ => true).map (decB enc (a ++ b)))) (Ev.comp (σf := []) (ItrE.list (Ev.val (by rw [List.lookup_cons, beq_self_eq_true]) d1)) ?_ (by rw [List.length_map, List.length_map]; omega) (hc2 C) hn2 (fun _ => rfl)) (by rw [filt_true])
      refine ⟨hk2, fun C' => .inl (hy C C'), fun C' c h _ => ?_, fun C' y pv h => ?_, fun C' d _ => Tests.nil, fun C' d hd _ => ?_⟩
      · rw [hy C C'] at h; cases h
      · cases h
      · obtain ⟨t, ht, rfl⟩ := List.mem_map.mp hd
        obtain ⟨l, hl, rfl⟩ := List.mem_map.mp ht
        show Ev _ _ _ _ _ _ _ _ (.bytes (invR enc (a ++ b) (enc l)))
        rw [invR_eq hinj (hc l hl)]
        exact helt C C' l (hc l hl)
  · rw [filt_true]
    show D.list [.list _, .list _] = _
    rw [decB_map hinj ha, decB_map hinj hb]
theorem stepX {st : Stmt} {rest : List Stmt} (F : FR (KK w) sE kp O env σ ad s) (W : FW kp env σ ad s) (R : Room true n A) (h : Ex prog w (KK w) true n env σ st (.next σ'))
    (k : ∀ s' ad', FR (KK w) sE kp O env σ' ad' s' → FW kp env σ' ad' s' → wpAny (model prog w) A (execs rest env) Q E s') : wpAny (model prog w) A (execs (st :: rest) env) Q E s := by
  refine wpAny_execs_cons (wpAny_mono (h sE kp O ad s A _ F W R) (fun f s' q => ?_) fun _ _ x => x)
  obtain ⟨rfl, ad', F', W'⟩ := q
  exact k s' ad' F' W'
theorem stepRet {st : Stmt} {rest : List Stmt} {d : D} (F : FR (KK w) sE kp O env σ ad s) (W : FW kp env σ ad s) (R : Room true n A) (h : Ex prog w (KK w) true n env σ st (.ret d))
    (k : ∀ v s', (∃ h tk, s' = { sE with heap := h, toks := tk }) → (∀ a o, kp a = some o → s'.heap.get? a = some o) → Rep O s'.heap v d → Q (.ret v) s') : wpAny (model prog w) A (execs (st :: rest) env) Q E s := by
  refine wpAny_execs_cons (wpAny_mono (h sE kp O ad s A _ F W R) (fun f s' q => ?_) fun _ _ x => x)
  obtain ⟨v, rfl, a, b, c⟩ := q
  exact k v s' a b c
theorem stepIf {t : Expr} {body rest : List Stmt} {pos : Pos} (F : FR (KK w) sE kp O env σ ad s) (W : FW kp env σ ad s) (R : Room true n A) (h : Tr prog w (KK w) true n env σ t false)
    (k : ∀ s', FR (KK w) sE kp O env σ ad s' → FW kp env σ ad s' → wpAny (model prog w) A (execs rest env) Q E s') : wpAny (model prog w) A (execs (.If t body [] pos :: rest) env) Q E s := by
  refine wpAny_execs_cons (wpAny_If (wpAny_mono (h sE kp O ad s A _ F R) (fun b s' q => ?_) fun _ _ x => x))
  obtain ⟨rfl, k'⟩ := q
  simp only [Bool.false_eq_true, if_false]
  exact wpAny_execs_nil (k s' (F.keeps k') (W.keeps k'))
end

theorem flat_rows (ls : List Row) : Flat 1 (.list (dRows ls)) := .list fun d hd => by
  obtain ⟨l, _, rfl⟩ := List.mem_map.mp hd
  exact .bytes 0 l
theorem flat_two (a b : List Row) : Flat 2 (.list [.list (dRows a), .list (dRows b)]) := .list fun d hd => by
  rcases List.mem_cons.mp hd with rfl | hd
  · exact flat_rows a
  · rw [List.mem_singleton.mp hd]; exact flat_rows b
theorem flat_rising (m : Nat) : Flat 2 (.list (rising m)) := .list fun d hd => by
  obtain ⟨i, _, rfl⟩ := List.mem_map.mp hd
  exact .list fun d hd => by
    obtain ⟨j, _, rfl⟩ := List.mem_map.mp hd
    exact .int 0 _
theorem lk_mem {a b : Row → Nat} : ∀ {t : List Row} {z : Row}, z ∈ lk2 a b t → z ∈ t
  | r :: t, z, h => by
    unfold lk2 at h
    rcases List.mem_append.mp h with h | h
    · split at h
      · rw [(List.mem_replicate.mp h).2]; exact .head _
      · cases h
    · exact .tail _ (lk_mem h)
theorem lacking_mem {a b o : List Row} {z : Row} (h : z ∈ lacking a b o) : z ∈ o := by
  rw [lacking_eq] at h; exact lk_mem h
theorem lacking_len (a b o : List Row) : (lacking a b o).length ≤ o.length * a.length := lackTo_len a b o o.length

theorem law_walk {ns : List Int} {s₁ s : Shared} {fa : Addr} {cd : Value} {ad : Str → Addr} {E : Value → Shared → Prop} {A : Around}
    (F : FR (KK w) s₁ s₁.heap.get? (fun _ => False) (lawEnv w s₁.heap.objs.size fa cd) [("script", .v (.list (ns.map D.int)))] ad s)
    (W : FW s₁.heap.get? (lawEnv w s₁.heap.objs.size fa cd) [("script", .v (.list (ns.map D.int)))] ad s) (R : Room true 20 A) (hfr : A.frames = some [lawEnv w s₁.heap.objs.size fa cd]) (hlen : ns.length ≤ 63) :
    wpAny (model prog w) A (execs (lawBody w) (lawEnv w s₁.heap.objs.size fa cd)) (fun f s' => f = .ret (.bool true) ∧ (∃ h tk, s' = { s₁ with heap := h, toks := tk }) ∧ ∀ b o, s₁.heap.get? b = some o → s'.heap.get? b = some o) E s := by
  refine body_of (body := ?b) ?hb ?h
  case hb => rfl
  generalize hL : s₁.heap.objs.size = L at *
  have ok := shOk (nsL ns)
  have hsz := sh_len (nsL ns) ⟨[], [], []⟩
  have hn9 := nsL_len ns
  obtain ⟨z1, z2, z3⟩ := hsz
  rw [List.length_nil, Nat.zero_add] at z1 z2 z3
  have z1 : (shelves (nsL ns)).first.length ≤ 18 := by unfold shelves; omega
  have z2 : (shelves (nsL ns)).second.length ≤ 18 := by unfold shelves; omega
  have z3 : (shelves (nsL ns)).rows.length ≤ 18 := by unfold shelves; omega
  -- the shelves
  have R19 : Room true (19 + 1) A := R
  with_reducible refine stepX F W R19 (Ex.unpack3 (d := .list (dRows (shelves (nsL ns)).first)) (e := .list (dRows (shelves (nsL ns)).second)) (f := .list (dRows (shelves (nsL ns)).rows)) ?v ?x ?y ?z ?no ?hs ?hw) fun s₂ ad₂ F₂ W₂ => ?_
  case x => exact .inl rfl
  case y => exact .inl rfl
  case z => exact .inl rfl
  case no => rfl
  case hs => kernel_rfl
  case hw => kernel_rfl
  case v =>
    refine Ev.fn 190 (by kernel_rfl) (by rfl) (by decide) (by kernel_rfl) (Evs.cons rfl (Ev.mono (d' := .list (dNats (nsL ns))) (Ev.bin (d2 := .list ((((ns.map D.int).take 7).filter fun _ => true).map cellD)) (Ev.list (Evs.cons rfl (by walk_at "me") (Evs.cons rfl (by walk_at "me") Evs.nil)) (by show 2 ≤ 1000; decide)) ?cmp (Bop.addL ?ln)) ?eq) Evs.nil) (Spec.le (sp_shelves (nsL ns) (by omega) (nsL_lt ns)) (by decide))
    case ln =>
      rw [filt_true, List.length_map, List.length_take]
      show 2 + _ ≤ 1000000
      omega
    case eq =>
      rw [filt_true]
      unfold nsL dNats
      rw [List.map_append, List.map_map, ← List.map_take, List.map_map]
      rfl
    case cmp =>
      with_reducible refine' Ev.comp (σf := []) (ItrE.list (Ev.sliceUpto (k := 7) ?s1 ?s2 ?s3)) ?cf ?hz ?hcl ?hn ?hs
      case s1 => walk_at "me"
      case s2 => exact Ev.mono Ev.int rfl
      case s3 => rw [List.length_map]; omega
      case hcl => rfl
      case hz => rw [List.length_take]; omega
      case hn => decide
      case hs => exact fun _ => rfl
      case cf =>
        refine ⟨rfl, fun C => .inl rfl, fun C c h => absurd (show some NameKind.local = some NameKind.cell from h) (by decide), fun C y pv h => (by cases h), fun C d _ => Tests.nil, fun C d hd _ => ?_⟩
        obtain ⟨c, _, rfl⟩ := List.mem_map.mp (List.mem_of_mem_take hd)
        show Ev _ _ _ _ _ _ _ _ (.int (cellN c : Nat))
        refine Ev.mono (Ev.bin (Ev.bfn (n := 19) (by (((with_reducible refine' Ev.blt ?z204.mbn1 ?z204.mbn2 ?z204.mbn3 ?z204.mbn4 ?z204.mbn5); (case z204.mbn1 => kernel_rfl); (case z204.mbn2 => boot_fact); (case z204.mbn3 => decide); (case z204.mbn4 => rfl); (case z204.mbn5 => decide)))) (by nofun) (Evs.cons rfl (by walk_at "me") Evs.nil) sp_int) (Ev.bin (by walk_at "me") (by walk_at "me") (Bop.pow (by decide) ?b1)) (Bop.fmod (by decide))) ?b2
        case b1 =>
          have h2 : Builtin.Int.intBits 10 = 4 := by decide +kernel
          rw [h2]; decide
        case b2 =>
          have e : (10 : Int) ^ (9 : Int).toNat = 1000000000 := by decide
          rw [e]
          unfold cellN
          rw [Int.toNat_of_nonneg (Int.fmod_nonneg_of_pos _ (by decide))]
  generalize hq : shelves (nsL ns) = q at *
  have o64p := order64 ok
  have o16p := order16 ok
  have hp64 : (sortR ranks q.rows).Perm q.rows := List.mergeSort_perm q.rows (leR ranks)
  have hp16 : (sortB q.rows).Perm q.rows := List.mergeSort_perm q.rows leB
  have len64 : (sortR ranks q.rows).length ≤ 18 := by rw [hp64.length_eq]; exact z3
  have len16 : (sortB q.rows).length ≤ 18 := by rw [hp16.length_eq]; exact z3
  have sh1 : ∀ l ∈ q.first, l.length ≤ 4 := fun l hl => ok.short l (ok.one l hl)
  have sh2 : ∀ l ∈ q.second, l.length ≤ 4 := fun l hl => ok.short l (ok.two l hl)
  have sh64 : ∀ l ∈ sortR ranks q.rows, l.length ≤ 4 := fun l hl => ok.short l (hp64.mem_iff.mp hl)
  have sh16 : ∀ l ∈ sortB q.rows, l.length ≤ 4 := fun l hl => ok.short l (hp16.mem_iff.mp hl)
  have t64 := told_eq o64p (fun r hr => hp64.mem_iff.mpr (ok.one r hr)) (fun r hr => hp64.mem_iff.mpr (ok.two r hr))
  have t16 := told_eq o16p (fun r hr => hp16.mem_iff.mpr (ok.one r hr)) (fun r hr => hp16.mem_iff.mpr (ok.two r hr))
  have c64 := compared_eq o64p
  have c16 := compared_eq o16p
  have nd := rows_nd ok
  generalize hR : sortR ranks q.rows = o64 at *
  generalize hB : sortB q.rows = o16 at *
  -- the order
  with_reducible refine stepX F₂ W₂ R19 (Ex.assign (d := .list (dRows o64)) ?v ?x ?i ?s) fun s₃ ad₃ F₃ W₃ => ?_
  case x => exact .inl rfl
  case i => exact .inr rfl
  case s => rfl
  case v =>
    refine Ev.call (n := 19) (by (((with_reducible refine' Ev.blt ?z205.mbn1 ?z205.mbn2 ?z205.mbn3 ?z205.mbn4 ?z205.mbn5); (case z205.mbn1 => kernel_rfl); (case z205.mbn2 => boot_fact); (case z205.mbn3 => decide); (case z205.mbn4 => rfl); (case z205.mbn5 => decide)))) (Evs.cons rfl (by walk_at "me") Evs.nil) (Evk.cons (by walk_at "mg") Evk.nil) (kpr_blt (by nofun)) (Spec.le (Spec.mono (sp_sortedKey (m := 9) (g := 202) q.rows ranks (by omega) nd fun l hl => sp_ranks l (ok.short l hl)) (by rw [hR])) (by decide))
  -- base 64
  with_reducible refine wpAny_execs_cons (sldStmt (n := 19) (xs := sortB (q.first.map enc64)) (ys := sortB (q.second.map enc64)) F₃ W₃ R19 hfr ?b1 ?b2 ?b3 ?b4 ?b5 ?b6 ?b7 ?b8 ?b9 ?b10 ?b11 fun s₄ ad₄ F₄ W₄ => ?_)
  case b1 => rfl
  case b2 => unfold sortB; rw [(List.mergeSort_perm _ leB).length_eq, List.length_map]; omega
  case b3 => unfold sortB; rw [(List.mergeSort_perm _ leB).length_eq, List.length_map]; omega
  case b4 => exact Ev.bfn (n := 19) (by (((with_reducible refine' Ev.blt ?z206.mbn1 ?z206.mbn2 ?z206.mbn3 ?z206.mbn4 ?z206.mbn5); (case z206.mbn1 => kernel_rfl); (case z206.mbn2 => boot_fact); (case z206.mbn3 => decide); (case z206.mbn4 => rfl); (case z206.mbn5 => decide)))) (by nofun) (Evs.cons rfl (encComp (n := 19) (by walk_at "me") (by kernel_rfl) (by kernel_rfl) (fun l hl => Spec.le (sp_b64encode l (by have := sh1 l hl; omega)) (by decide)) (by omega) rfl rfl (fun _ => rfl) (fun _ => rfl) (by decide) (by decide) (by decide)) Evs.nil) (sp_sortedB _ (by rw [List.length_map]; omega))
  case b5 => exact Ev.bfn (n := 19) (by (((with_reducible refine' Ev.blt ?z207.mbn1 ?z207.mbn2 ?z207.mbn3 ?z207.mbn4 ?z207.mbn5); (case z207.mbn1 => kernel_rfl); (case z207.mbn2 => boot_fact); (case z207.mbn3 => decide); (case z207.mbn4 => rfl); (case z207.mbn5 => decide)))) (by nofun) (Evs.cons rfl (encComp (n := 19) (by walk_at "me") (by kernel_rfl) (by kernel_rfl) (fun l hl => Spec.le (sp_b64encode l (by have := sh2 l hl; omega)) (by decide)) (by omega) rfl rfl (fun _ => rfl) (fun _ => rfl) (by decide) (by decide) (by decide)) Evs.nil) (sp_sortedB _ (by rw [List.length_map]; omega))
  case b6 => rfl
  case b7 => rfl
  case b8 => rfl
  case b9 => exact .inl rfl
  case b10 => rfl
  case b11 => rfl
  rw [t64] at F₄ W₄
  have m1 : ∀ l ∈ lacking q.first q.second o64 ++ lacking q.second q.first o64, l.length ≤ 4 := fun l hl => by
    rcases List.mem_append.mp hl with h | h
    · exact sh64 l (lacking_mem h)
    · exact sh64 l (lacking_mem h)
  have y1 : (lacking q.first q.second o64).length ≤ 10000 := Nat.le_trans (lacking_len _ _ _) (Nat.le_trans (Nat.mul_le_mul len64 z1) (by decide))
  have y2 : (lacking q.second q.first o64).length ≤ 10000 := Nat.le_trans (lacking_len _ _ _) (Nat.le_trans (Nat.mul_le_mul len64 z2) (by decide))
  with_reducible refine stepX F₄ W₄ R19 (Ex.assign (d := .list [.list (dRows (lacking q.first q.second o64)), .list (dRows (lacking q.second q.first o64))]) ?v ?x ?i ?s) fun s₅ ad₅ F₅ W₅ => ?_
  case x => exact .inl rfl
  case i => exact .inr rfl
  case s => rfl
  case v =>
    refine Ev.list (Evs.cons rfl (Ev.fn 207 (by kernel_rfl) (by rfl) (by decide) (by kernel_rfl) (Evs.cons rfl (by walk_at "me") (Evs.cons rfl (by walk_at "me") (Evs.cons rfl (by walk_at "me") Evs.nil))) (Spec.le (sp_lacking _ _ _ (by omega) (by omega)) (by decide))) (Evs.cons rfl (Ev.fn 207 (by kernel_rfl) (by rfl) (by decide) (by kernel_rfl) (Evs.cons rfl (by walk_at "me") (Evs.cons rfl (by walk_at "me") (Evs.cons rfl (by walk_at "me") Evs.nil))) (Spec.le (sp_lacking _ _ _ (by omega) (by omega)) (by decide))) Evs.nil)) (by show 2 ≤ 1000; decide)
  with_reducible refine stepIf F₅ W₅ R19 (Tr.cmp (d1 := .list [.list (dRows (lacking q.first q.second o64)), .list (dRows (lacking q.second q.first o64))]) (d2 := .list [.list (dRows (lacking q.first q.second o64)), .list (dRows (lacking q.second q.first o64))]) ?v1 ?v2 (Cop.sameNe (flat_two _ _) ?k1) ?k2) fun s₆ F₆ W₆ => ?_
  case k1 => decide
  case k2 => rfl
  case v2 => walk_at "me"
  case v1 =>
    refine decComp (n := 19) (enc := enc64) (by walk_at "me") (fun l hl l' hl' e => enc_inj l l' (m1 l hl) (m1 l' hl') e) y1 y2 (fun C C' l hl => ?_) rfl rfl rfl (fun _ => rfl) (fun _ => rfl) (fun _ _ => rfl) (by decide) (by decide) (by decide)
    exact Ev.call (n := 19) (Ev.glob (v := .ref 161) (by kernel_rfl) rfl (fun _ _ => .raw _) (by decide)) (Evs.cons rfl (by walk_at "me") Evs.nil) (Evk.cons (by walk_at "me") Evk.nil) (kpr (fd := fdOf (KK w) 161) (by kernel_rfl)) (Spec.le (sp_dec64 l (m1 l hl)) (by decide))
  with_reducible refine stepIf F₆ W₆ R19 (Tr.cmp (d1 := .list (rising o64.length)) (d2 := .list (rising o64.length)) ?v1 ?v2 (Cop.sameNe (flat_rising _) ?k1) ?k2) fun s₇ F₇ W₇ => ?_
  case k1 => decide
  case k2 => rfl
  case v1 =>
    rw [← c64]
    exact Ev.fn 212 (by kernel_rfl) (by rfl) (by decide) (by kernel_rfl) (Evs.cons rfl (encComp (n := 19) (by walk_at "me") (by kernel_rfl) (by kernel_rfl) (fun l hl => Spec.le (sp_b64encode l (by have := sh64 l hl; omega)) (by decide)) (by omega) rfl rfl (fun _ => rfl) (fun _ => rfl) (by decide) (by decide) (by decide)) Evs.nil) (Spec.le (sp_compared _ (by rw [List.length_map]; omega)) (by decide))
  case v2 =>
    exact Ev.fn 217 (by kernel_rfl) (by rfl) (by decide) (by kernel_rfl) (Evs.cons rfl (Ev.mono (d' := .int (o64.length : Nat)) (Ev.bfn (n := 19) (by (((with_reducible refine' Ev.blt ?z208.mbn1 ?z208.mbn2 ?z208.mbn3 ?z208.mbn4 ?z208.mbn5); (case z208.mbn1 => kernel_rfl); (case z208.mbn2 => boot_fact); (case z208.mbn3 => decide); (case z208.mbn4 => rfl); (case z208.mbn5 => decide)))) (by nofun) (Evs.cons rfl (by walk_at "me") Evs.nil) (sp_lenList (by rw [List.length_map]; omega))) (by rw [List.length_map])) Evs.nil) (Spec.le (sp_rising _ (by omega)) (by decide))
  -- base 16
  with_reducible refine stepX F₇ W₇ R19 (Ex.assign (d := .list (dRows o16)) ?v ?x ?i ?s) fun s₈ ad₈ F₈ W₈ => ?_
  case x => exact .inl rfl
  case i => exact .inr rfl
  case s => rfl
  case v => exact Ev.bfn (n := 19) (by (((with_reducible refine' Ev.blt ?z209.mbn1 ?z209.mbn2 ?z209.mbn3 ?z209.mbn4 ?z209.mbn5); (case z209.mbn1 => kernel_rfl); (case z209.mbn2 => boot_fact); (case z209.mbn3 => decide); (case z209.mbn4 => rfl); (case z209.mbn5 => decide)))) (by nofun) (Evs.cons rfl (by walk_at "me") Evs.nil) (Spec.mono (sp_sortedB q.rows (by omega)) (by rw [hB]))
  with_reducible refine wpAny_execs_cons (sldStmt (n := 19) (xs := sortB (q.first.map hexT)) (ys := sortB (q.second.map hexT)) F₈ W₈ R19 hfr ?b1 ?b2 ?b3 ?b4 ?b5 ?b6 ?b7 ?b8 ?b9 ?b10 ?b11 fun s₉ ad₉ F₉ W₉ => ?_)
  case b1 => rfl
  case b2 => unfold sortB; rw [(List.mergeSort_perm _ leB).length_eq, List.length_map]; omega
  case b3 => unfold sortB; rw [(List.mergeSort_perm _ leB).length_eq, List.length_map]; omega
  case b4 => exact Ev.bfn (n := 19) (by (((with_reducible refine' Ev.blt ?z210.mbn1 ?z210.mbn2 ?z210.mbn3 ?z210.mbn4 ?z210.mbn5); (case z210.mbn1 => kernel_rfl); (case z210.mbn2 => boot_fact); (case z210.mbn3 => decide); (case z210.mbn4 => rfl); (case z210.mbn5 => decide)))) (by nofun) (Evs.cons rfl (encComp (n := 19) (by walk_at "me") (by kernel_rfl) (by kernel_rfl) (fun l hl => Spec.le (sp_b16encode l (by have := sh1 l hl; omega)) (by decide)) (by omega) rfl rfl (fun _ => rfl) (fun _ => rfl) (by decide) (by decide) (by decide)) Evs.nil) (sp_sortedB _ (by rw [List.length_map]; omega))
  case b5 => exact Ev.bfn (n := 19) (by (((with_reducible refine' Ev.blt ?z211.mbn1 ?z211.mbn2 ?z211.mbn3 ?z211.mbn4 ?z211.mbn5); (case z211.mbn1 => kernel_rfl); (case z211.mbn2 => boot_fact); (case z211.mbn3 => decide); (case z211.mbn4 => rfl); (case z211.mbn5 => decide)))) (by nofun) (Evs.cons rfl (encComp (n := 19) (by walk_at "me") (by kernel_rfl) (by kernel_rfl) (fun l hl => Spec.le (sp_b16encode l (by have := sh2 l hl; omega)) (by decide)) (by omega) rfl rfl (fun _ => rfl) (fun _ => rfl) (by decide) (by decide) (by decide)) Evs.nil) (sp_sortedB _ (by rw [List.length_map]; omega))
  case b6 => rfl
  case b7 => rfl
  case b8 => rfl
  case b9 => exact .inl rfl
  case b10 => rfl
  case b11 => rfl
  rw [t16] at F₉ W₉
  have m2 : ∀ l ∈ lacking q.first q.second o16 ++ lacking q.second q.first o16, l.length ≤ 4 := fun l hl => by
    rcases List.mem_append.mp hl with h | h
    · exact sh16 l (lacking_mem h)
    · exact sh16 l (lacking_mem h)
  have y3 : (lacking q.first q.second o16).length ≤ 10000 := Nat.le_trans (lacking_len _ _ _) (Nat.le_trans (Nat.mul_le_mul len16 z1) (by decide))
  have y4 : (lacking q.second q.first o16).length ≤ 10000 := Nat.le_trans (lacking_len _ _ _) (Nat.le_trans (Nat.mul_le_mul len16 z2) (by decide))
  with_reducible refine stepX F₉ W₉ R19 (Ex.assign (d := .list [.list (dRows (lacking q.first q.second o16)), .list (dRows (lacking q.second q.first o16))]) ?v ?x ?i ?s) fun sa ada Fa Wa => ?_
  case x => exact .inl rfl
  case i => exact .inr rfl
  case s => rfl
  case v =>
    refine Ev.list (Evs.cons rfl (Ev.fn 207 (by kernel_rfl) (by rfl) (by decide) (by kernel_rfl) (Evs.cons rfl (by walk_at "me") (Evs.cons rfl (by walk_at "me") (Evs.cons rfl (by walk_at "me") Evs.nil))) (Spec.le (sp_lacking _ _ _ (by omega) (by omega)) (by decide))) (Evs.cons rfl (Ev.fn 207 (by kernel_rfl) (by rfl) (by decide) (by kernel_rfl) (Evs.cons rfl (by walk_at "me") (Evs.cons rfl (by walk_at "me") (Evs.cons rfl (by walk_at "me") Evs.nil))) (Spec.le (sp_lacking _ _ _ (by omega) (by omega)) (by decide))) Evs.nil)) (by show 2 ≤ 1000; decide)
  with_reducible refine stepIf Fa Wa R19 (Tr.cmp (d1 := .list [.list (dRows (lacking q.first q.second o16)), .list (dRows (lacking q.second q.first o16))]) (d2 := .list [.list (dRows (lacking q.first q.second o16)), .list (dRows (lacking q.second q.first o16))]) ?v1 ?v2 (Cop.sameNe (flat_two _ _) ?k1) ?k2) fun sb Fb Wb => ?_
  case k1 => decide
  case k2 => rfl
  case v2 => walk_at "me"
  case v1 =>
    refine decComp (n := 19) (enc := hexT) (by walk_at "me") (fun l hl l' hl' e => hex_inj l l' e) y3 y4 (fun C C' l hl => ?_) rfl rfl rfl (fun _ => rfl) (fun _ => rfl) (fun _ _ => rfl) (by decide) (by decide) (by decide)
    exact Ev.fn 176 (by kernel_rfl) (by rfl) (by decide) (by kernel_rfl) (Evs.cons rfl (by walk_at "me") Evs.nil) (Spec.le (sp_b16decode l (by have := m2 l hl; omega)) (by decide))
  with_reducible refine stepRet Fb Wb R19 (Ex.ret (d := .bool true) (Ev.cmp (d1 := .list (rising o16.length)) (d2 := .list (rising o16.length)) ?v1 ?v2 (Cop.sameL (flat_rising _) ?k1) ?k2)) fun v sc sh kept rep => ?_
  case k1 => decide
  case k2 => rfl
  case v1 =>
    rw [← c16]
    exact Ev.fn 212 (by kernel_rfl) (by rfl) (by decide) (by kernel_rfl) (Evs.cons rfl (encComp (n := 19) (by walk_at "me") (by kernel_rfl) (by kernel_rfl) (fun l hl => Spec.le (sp_b16encode l (by have := sh16 l hl; omega)) (by decide)) (by omega) rfl rfl (fun _ => rfl) (fun _ => rfl) (by decide) (by decide) (by decide)) Evs.nil) (Spec.le (sp_compared _ (by rw [List.length_map]; omega)) (by decide))
  case v2 =>
    exact Ev.fn 217 (by kernel_rfl) (by rfl) (by decide) (by kernel_rfl) (Evs.cons rfl (Ev.mono (d' := .int (o16.length : Nat)) (Ev.bfn (n := 19) (by (((with_reducible refine' Ev.blt ?z212.mbn1 ?z212.mbn2 ?z212.mbn3 ?z212.mbn4 ?z212.mbn5); (case z212.mbn1 => kernel_rfl); (case z212.mbn2 => boot_fact); (case z212.mbn3 => decide); (case z212.mbn4 => rfl); (case z212.mbn5 => decide)))) (by nofun) (Evs.cons rfl (by walk_at "me") Evs.nil) (sp_lenList (by rw [List.length_map]; omega))) (by rw [List.length_map])) Evs.nil) (Spec.le (sp_rising _ (by omega)) (by decide))
  replace rep := rep.inv; cases rep
  exact ⟨rfl, sh, kept⟩
end
-- F34
section
set_option maxRecDepth 100000
set_option maxHeartbeats 1000000
variable {prog : Program} {w : World}
theorem well_list {P : Params} {h : Heap} {a : Addr} {xs : List PyData} (x : Well P h (.ref a) (ofPy (.list xs))) : ∃ vs : List Value, h.get? a = some (lobj vs 0) := by
  have e : ∃ ys, ofPy (.list xs) = .list ys := ⟨_, by first | rfl | simp [ofPy]⟩
  obtain ⟨ys, e⟩ := e
  rw [e] at x
  cases x with
  | list ho _ => exact ⟨_, ho⟩

theorem law_join {p : Program} {loose : List Str} {mean : ExcName → Option Value} {mg mb m : Str → Option Value} {s₁ s : Shared} {fa a : Addr} {cd : Value} {vs : List Value} {ns : List Int} {E : Value → Shared → Prop} {P : Params}
    (KX : (KK w).In s₁.heap) (T : Top p loose mean mg mb s₁.heap) (w1 : Well P s₁.heap (.ref a) (ofPy (.list (ns.map PyData.int)))) (hL : s₁.heap.IsList a vs.toArray) (hI : IntsAre vs ns) (hs : ∃ h tk, s = { s₁ with heap := h, toks := tk })
    (F0 : Fr s₁.heap s₁.heap.objs.size s.heap m) (hm : m "script" = some (.ref a)) (hlen : ns.length ≤ 63) :
    wpAny (model prog w) (callerA.deeper (lawEnv w s₁.heap.objs.size fa cd)) (execs (lawBody w) (lawEnv w s₁.heap.objs.size fa cd)) (fun f s' => f = .ret (.bool true) ∧ (∃ h tk, s' = { s₁ with heap := h, toks := tk }) ∧ ∀ b o, s₁.heap.get? b = some o → s'.heap.get? b = some o) E s := by
  obtain ⟨us, hu⟩ := well_list w1
  obtain ⟨o, ho, hc, k, hd⟩ := hL
  rw [hu] at ho; cases ho
  have e : us = vs := by
    have : Data.seq us.toArray 0 = Data.seq vs.toArray k := hd
    injection this with h1 _
    simpa using h1
  subst e
  obtain ⟨hh, tk, rfl⟩ := hs
  have rep : ∀ h : Heap, (∀ b o, s₁.heap.get? b = some o → h.get? b = some o) → Rep (fun _ => False) h (.ref a) (.list (ns.map D.int)) := fun h k => .list (n := 0) (fun q => q) (k _ _ hu) (reps_ints hI)
  refine law_walk (ad := fun _ => 0) (ns := ns) ⟨⟨hh, tk, rfl⟩, F0.keep, ⟨s₁.heap, ⟨KX, _, _, _, _, topRead_of T⟩, fun _ _ e => e⟩, fun _ q => q.elim, rfl, rfl, rfl, fun x d e => ?_, fun x d e => ?_⟩ ⟨⟨m, F0.ns⟩, none_size _, fun x c _ e => ?_, fun x y c e => ?_, fun x y ds es e => ?_⟩ ⟨by show callerA.depth + 1 + 20 ≤ 900; decide, by show callerA.units + 3 + 100 * 20 ≤ 9000; decide, fun _ => rfl⟩ rfl hlen
  · obtain ⟨rfl, e⟩ := look1 e
    cases e
    refine ⟨.ref a, .inl ⟨rfl, m, F0.ns, hm⟩, (rep _ F0.keep).mono (fun b q => ?_) fun _ _ _ e _ => e⟩
    rcases q with q | ⟨y, ds, e, _⟩
    · exact q
    · obtain ⟨_, e⟩ := look1 e; cases e
  · obtain ⟨_, e⟩ := look1 e; cases e
  · cases e
  · cases e
  · obtain ⟨_, e⟩ := look1 e; cases e
end
end Mine
set_option maxRecDepth 100000 in
set_option maxHeartbeats 8000000 in
theorem PySem.Challenge.cw_qh0118_01_holds : PySem.Challenge.rw_qh0118_01.Holds := by
  exact Mine.hd (by
    k_go0
    rename Fr _ _ _ _ => F0
    rename Frag.In _ _ => KX
    rename Top _ _ _ _ _ _ => T0
    rename Heap.IsList _ _ _ => hL
    rename IntsAre _ _ => hI
    rename Well _ _ _ _ => w1
    rename Shared.gens _ = _ => hg
    rename ¬ (_ : Int) < _ => hlen
    refine wpAny_mono (Mine.law_join KX T0 w1 hL hI ⟨_, _, rfl⟩ F0 ?_ ?_) ?_ (fun _ _ x => x)
    · rfl
    · omega
    · rintro f s ⟨rfl, ⟨h, tk, rfl⟩, keep⟩
      refine ⟨.inl ⟨.bool true, .bool true, [], rfl, ?_, .bool true, ?_, unshared_nil⟩, keep, rfl, hg⟩
      · exact raisesW_false (by wrow_none_raised)
      · wrow_post)
