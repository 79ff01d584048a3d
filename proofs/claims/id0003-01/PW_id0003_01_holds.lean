import PyProof.Rows.All
import Wide.All
import OpenK.AllK
import Wide.FinOn
import KE.KSortedM
import PyProof.AttrMissHeap
import KE.KDictOf
import PyProof.DictItems
import PyProof.DictValues
import PyProof.DictWalks
import PyProof.IsiPairs
import KE.KNest
import PyProof.SumWalkG
import PySem.Challenge.RW_id0003_01
set_option Elab.async false
set_option maxRecDepth 100000
set_option linter.unusedVariables false
namespace Mine
open PySem PySem.Calls PySem.Spec PyProof.Rows PySem.W

/-- every object of h stands as it is in h' -/
abbrev Sub (h h' : Heap) : Prop := ∀ b o, h.get? b = some o → h'.get? b = some o
abbrev Live (h : Heap) (a : Addr) : Prop := ∃ o, h.get? a = some o
/-- h with the addresses M hidden -/
abbrev Hd (M : List Addr) (h : Heap) : Heap := hideAll h M

theorem Sub.refl (h : Heap) : Sub h h := fun _ _ e => e
theorem Sub.trans {a b c : Heap} (x : Sub a b) (y : Sub b c) : Sub a c := fun _ _ e => y _ _ (x _ _ e)
theorem sub_push (h : Heap) (o : Obj) : Sub h (h.push o) := fun _ _ e => Heap.get?_push_of_some _ e
theorem hd_sub (M : List Addr) (h : Heap) : Sub (Hd M h) h := fun _ _ e => of_hideAll M e
theorem hd_get {M : List Addr} {h : Heap} {b : Addr} {o : Obj} (e : h.get? b = some o) (n : b ∉ M) : (Hd M h).get? b = some o := hideAll_get M e n
theorem hd_not {M : List Addr} {h : Heap} {b : Addr} {o : Obj} (e : (Hd M h).get? b = some o) : b ∉ M := fun m => by rw [hideAll_none M m] at e; cases e
theorem hd_mono {M : List Addr} {h h' : Heap} (k : ∀ b o, b ∉ M → h.get? b = some o → h'.get? b = some o) : Sub (Hd M h) (Hd M h') := fun b o e => hd_get (k b o (hd_not e) (of_hideAll M e)) (hd_not e)
theorem hd_sub_sub {M : List Addr} {h h' : Heap} (k : Sub h h') : Sub (Hd M h) (Hd M h') := hd_mono fun b o _ e => k b o e
/-- more hidden: the new ones are no objects of the old heap -/
theorem hd_more {M N : List Addr} {h h' : Heap} (k : Sub (Hd M h) h') (n : ∀ b ∈ N, b ∈ M ∨ ∀ o, (Hd M h).get? b ≠ some o) : Sub (Hd M h) (Hd N h') := fun b o e =>
  hd_get (k b o e) fun m => (n b m).elim (fun q => hd_not e q) fun q => q o e
theorem hd_less {M N : List Addr} {h : Heap} (n : ∀ b ∈ M, b ∈ N) : Sub (Hd N h) (Hd M h) := fun b o e => hd_get (of_hideAll N e) fun m => hd_not e (n b m)
theorem live_lt {h : Heap} {a : Addr} (x : Live h a) : a < h.objs.size := let ⟨_, e⟩ := x; Heap.lt_size e
theorem Live.sub {h h' : Heap} {a : Addr} (x : Live h a) (k : Sub h h') : Live h' a := let ⟨o, e⟩ := x; ⟨o, k a o e⟩
inductive All2 {α β : Type} (R : α → β → Prop) : List α → List β → Prop
  | nil : All2 R [] []
  | cons {a : α} {b : β} {as : List α} {bs : List β} : R a b → All2 R as bs → All2 R (a :: as) (b :: bs)
namespace All2
variable {α β : Type} {R S : α → β → Prop} {as as' : List α} {bs bs' : List β}
theorem imp (h : ∀ a b, R a b → S a b) (x : All2 R as bs) : All2 S as bs := by
  induction x with
  | nil => exact .nil
  | cons r _ ih => exact .cons (h _ _ r) ih
theorem length (x : All2 R as bs) : as.length = bs.length := by
  induction x with
  | nil => rfl
  | cons _ _ ih => simp [ih]
theorem append (x : All2 R as bs) (y : All2 R as' bs') : All2 R (as ++ as') (bs ++ bs') := by
  induction x with
  | nil => exact y
  | cons r _ ih => exact .cons r ih
theorem get (x : All2 R as bs) : ∀ {i : Nat} {b : β}, bs[i]? = some b → ∃ a, as[i]? = some a ∧ R a b := by
  induction x with
  | nil => intro i b h; simp at h
  | cons r _ ih =>
    intro i b h
    cases i with
    | zero => simp at h; subst h; exact ⟨_, by simp, r⟩
    | succ i => simp at h; obtain ⟨a, h1, h2⟩ := ih h; exact ⟨a, by simpa using h1, h2⟩
theorem getL (x : All2 R as bs) : ∀ {i : Nat} {a : α}, as[i]? = some a → ∃ b, bs[i]? = some b ∧ R a b := by
  induction x with
  | nil => intro i b h; simp at h
  | cons r _ ih =>
    intro i b h
    cases i with
    | zero => simp at h; subst h; exact ⟨_, by simp, r⟩
    | succ i => simp at h; obtain ⟨a, h1, h2⟩ := ih h; exact ⟨a, by simpa using h1, h2⟩
theorem set (x : All2 R as bs) {a : α} {b : β} (r : R a b) : ∀ (i : Nat), All2 R (as.set i a) (bs.set i b) := by
  induction x with
  | nil => intro i; exact .nil
  | cons r' x' ih =>
    intro i
    cases i with
    | zero => exact .cons r x'
    | succ i => exact .cons r' (ih i)
theorem map {γ δ : Type} {T : γ → δ → Prop} {f : α → γ} {g : β → δ} (h : ∀ a b, R a b → T (f a) (g b)) (x : All2 R as bs) : All2 T (as.map f) (bs.map g) := by
  induction x with
  | nil => exact .nil
  | cons r _ ih => exact .cons (h _ _ r) ih
theorem map_right {γ : Type} {T : α → γ → Prop} {g : β → γ} (h : ∀ a b, R a b → T a (g b)) (x : All2 R as bs) : All2 T as (bs.map g) := by
  induction x with
  | nil => exact .nil
  | cons r _ ih => exact .cons (h _ _ r) ih
end All2

/-- the global side of a run: the program, the world, a heap that every state keeps, the names of the module and the built-in names -/
structure Gl where
  prog : Program
  w : World
  B : Heap
  mg : Str → Option Value
  mb : Str → Option Value
structure Gl.Ok (Γ : Gl) : Prop where
  g : Γ.B.Ns mainGlobals Γ.mg
  b : Γ.B.Ns builtinsNs Γ.mb
  lim : Γ.B.NoLimit
  sys : ∀ a, a = sysModules → Live Γ.B a

abbrev KeyT := List (Str ⊕ Int)
abbrev Row := List (KeyT × Int)
inductive D where
  | py (d : PyData)
  | idict (kvs : List (Int × Int))
  | tdict (r : Row)
  | rows (rs : List Row)
  | fn (a : Addr) (os : List (Addr × Obj))

abbrev I (i : Int) : D := .py (.int i)
abbrev Bo (b : Bool) : D := .py (.bool b)

end Mine
namespace Mine
open PySem PySem.Calls PySem.Spec PyProof.Rows PySem.W

def KeyIs : Str ⊕ Int → Value → Bool
  | .inl x, v => Value.isStrOf x v
  | .inr i, v => Value.isInt i v
theorem KeyIs.str {x : Str} {v : Value} (h : KeyIs (.inl x) v = true) : ∃ t, v = .str x t := Value.isStrOf_shape h
theorem KeyIs.int {i : Int} {v : Value} (h : KeyIs (.inr i) v = true) : ∃ t, v = .int i t := Value.isInt_shape h

/-- a key that is a text or an int -/
def mixKind (prog : Program) (w : World) : KeyKind prog w (Str ⊕ Int) where
  is := KeyIs
  hash := fun k => match k with
    | .inl x => hashStr w x
    | .inr i => hashInt i
  inj := fun v a b ha hb => by
    cases a with
    | inl x =>
      obtain ⟨t, rfl⟩ := KeyIs.str ha
      cases b with
      | inl y => obtain ⟨u, e⟩ := KeyIs.str hb; injection e with e; rw [e]
      | inr y => obtain ⟨u, e⟩ := KeyIs.int hb; cases e
    | inr x =>
      obtain ⟨t, rfl⟩ := KeyIs.int ha
      cases b with
      | inl y => obtain ⟨u, e⟩ := KeyIs.str hb; cases e
      | inr y => obtain ⟨u, e⟩ := KeyIs.int hb; injection e with e; rw [e]
  byValue := fun k v h => by
    cases k with
    | inl x => obtain ⟨t, rfl⟩ := KeyIs.str h; rfl
    | inr x => obtain ⟨t, rfl⟩ := KeyIs.int h; rfl
  pyHash := fun {A E s k v Q} hv h => by
    cases k with
    | inl x => obtain ⟨t, rfl⟩ := KeyIs.str hv; exact wpAny_pyHash_str h
    | inr x => obtain ⟨t, rfl⟩ := KeyIs.int hv; exact wpAny_pyHash_int h
  eqBool := fun {A E s a b u v Q} hu hv h => by
    cases a with
    | inl x =>
      obtain ⟨t, rfl⟩ := KeyIs.str hu
      cases b with
      | inl y => obtain ⟨t', rfl⟩ := KeyIs.str hv; exact wpAny_eqBool_str (by simpa [Sum.inl.injEq] using h)
      | inr y => obtain ⟨t', rfl⟩ := KeyIs.int hv; exact SeqAt.EqAt.str_int x t y t' prog w E Q (by simpa using h)
    | inr x =>
      obtain ⟨t, rfl⟩ := KeyIs.int hu
      cases b with
      | inl y => obtain ⟨t', rfl⟩ := KeyIs.str hv; exact SeqAt.EqAt.int_str x t y t' prog w E Q (by simpa using h)
      | inr y => obtain ⟨t', rfl⟩ := KeyIs.int hv; exact wpAny_eqBool_int (by
          have e : (x == y) = decide ((Sum.inr x : Str ⊕ Int) = Sum.inr y) := by
            by_cases q : x = y
            · subst q; simp
            · rw [beq_eq_false_iff_ne.mpr q]; exact (decide_eq_false fun z => q (Sum.inr.inj z)).symm
          rw [e]; exact h)
  «strs» := fun k x t v h => by
    cases k with
    | inl y =>
      obtain ⟨u, e⟩ := KeyIs.str h
      injection e with e
      subst e
      cases v <;> rfl
    | inr y => obtain ⟨u, e⟩ := KeyIs.int h; cases e

abbrev tKind (Γ : Gl) : HeapKind Γ.prog Γ.w KeyT := tupleKind (mixKind Γ.prog Γ.w)

abbrev IntV (v : Value) (i : Int) : Prop := ∃ t, v = .int i t
/-- at a: a dict keyed by tuples, its values ints -/
def RowAt (Γ : Gl) (h : Heap) (a : Addr) (r : Row) : Prop :=
  a ≠ sysModules ∧ ∃ xs, h.DictOfH (tKind Γ) a xs ∧ All2 (fun x kv => x.1 = kv.1 ∧ IntV x.2.2 kv.2) xs r
def IDictAt (Γ : Gl) (h : Heap) (a : Addr) (r : List (Int × Int)) : Prop :=
  a ≠ sysModules ∧ ∃ xs, h.DictOf (intKind Γ.prog Γ.w) a xs ∧ All2 (fun x kv => x.1 = kv.1 ∧ IntV x.2 kv.2) xs r

def Is (Γ : Gl) (h : Heap) (v : Value) : D → Prop
  | .py d => ∃ as, Reads h v d as
  | .idict r => ∃ a, v = .ref a ∧ IDictAt Γ h a r
  | .tdict r => ∃ a, v = .ref a ∧ RowAt Γ h a r
  | .rows rs => ∃ a vs, v = .ref a ∧ h.IsList a vs ∧ All2 (fun v r => ∃ a, v = .ref a ∧ RowAt Γ h a r) vs.toList rs
  | .fn a os => v = .ref a ∧ ∀ p ∈ os, h.get? p.1 = some p.2

theorem RowAt.keeps {Γ : Gl} {h h' : Heap} {a : Addr} {r : Row} (k : Sub h h') (x : RowAt Γ h a r) : RowAt Γ h' a r := by
  obtain ⟨hs, xs, ⟨o, es, ep, ho, hx, hd, he, hk, hn⟩, hv⟩ := x
  refine ⟨hs, xs, ⟨o, es, ep, k _ _ ho, hx, hd, he, fun y hy => ?_, hn⟩, hv⟩
  obtain ⟨o', its, n, h1, h2, h3, h4⟩ := hk y hy
  exact ⟨o', its, n, k _ _ h1, h2, h3, h4⟩
theorem IDictAt.keeps {Γ : Gl} {h h' : Heap} {a : Addr} {r : List (Int × Int)} (k : Sub h h') (x : IDictAt Γ h a r) : IDictAt Γ h' a r := by
  obtain ⟨hs, xs, ⟨o, es, ep, ho, r⟩, hv⟩ := x
  exact ⟨hs, xs, ⟨o, es, ep, k _ _ ho, r⟩, hv⟩
theorem isList_sub {h h' : Heap} {a : Addr} {vs : Array Value} (k : Sub h h') (x : h.IsList a vs) : h'.IsList a vs := let ⟨o, e, r⟩ := x; ⟨o, k _ _ e, r⟩
theorem Is.keeps {Γ : Gl} {h h' : Heap} {v : Value} {d : D} (k : Sub h h') (x : Is Γ h v d) : Is Γ h' v d := by
  cases d with
  | py d => obtain ⟨as, r⟩ := x; exact ⟨as, Reads.keeps k r⟩
  | idict r => obtain ⟨a, e, q⟩ := x; exact ⟨a, e, q.keeps k⟩
  | tdict r => obtain ⟨a, e, q⟩ := x; exact ⟨a, e, q.keeps k⟩
  | rows rs => obtain ⟨a, vs, e, hl, q⟩ := x; exact ⟨a, vs, e, isList_sub k hl, q.imp fun _ _ ⟨b, e, r⟩ => ⟨b, e, r.keeps k⟩⟩
  | fn a os => obtain ⟨e, q⟩ := x; exact ⟨e, fun p hp => k _ _ (q p hp)⟩

theorem is_int {Γ : Gl} {h : Heap} {v : Value} {i : Int} : Is Γ h v (I i) ↔ IntV v i := by
  constructor
  · rintro ⟨as, r⟩; cases r; exact ⟨_, rfl⟩
  · rintro ⟨t, rfl⟩; exact ⟨_, .int i t⟩
theorem is_bool {Γ : Gl} {h : Heap} {v : Value} {b : Bool} : Is Γ h v (Bo b) ↔ v = .bool b := by
  constructor
  · rintro ⟨as, r⟩; cases r; rfl
  · rintro rfl; exact ⟨_, .bool b⟩
theorem is_str {Γ : Gl} {h : Heap} {v : Value} {x : Str} : Is Γ h v (.py (.str x)) ↔ ∃ t, v = .str x t := by
  constructor
  · rintro ⟨as, r⟩; cases r; exact ⟨_, rfl⟩
  · rintro ⟨t, rfl⟩; exact ⟨_, .str x t⟩
theorem readsAll_of {Γ : Gl} {h : Heap} {vs : List Value} {ds : List PyData} (x : All2 (fun v d => Is Γ h v (.py d)) vs ds) : ∃ as, ReadsAll h vs ds as := by
  induction x with
  | nil => exact ⟨_, .nil⟩
  | cons r _ ih => obtain ⟨as, r⟩ := r; obtain ⟨bs, q⟩ := ih; exact ⟨_, .cons r q⟩
theorem of_readsAll {Γ : Gl} {h : Heap} : ∀ {ds : List PyData} {vs : List Value} {as : List Addr}, ReadsAll h vs ds as → All2 (fun v d => Is Γ h v (.py d)) vs ds
  | _, _, _, .nil => .nil
  | _, _, _, .cons r q => .cons ⟨_, r⟩ (of_readsAll q)
theorem is_list {Γ : Gl} {h : Heap} {v : Value} {ds : List PyData} : Is Γ h v (.py (.list ds)) ↔ ∃ a vs, v = .ref a ∧ h.IsList a vs ∧ All2 (fun v d => Is Γ h v (.py d)) vs.toList ds := by
  constructor
  · rintro ⟨as, r⟩
    cases r with
    | list h1 h2 h3 h4 => exact ⟨_, _, rfl, ⟨_, h1, h2, _, h3⟩, of_readsAll h4⟩
  · rintro ⟨a, vs, rfl, ⟨o, h1, h2, n, h3⟩, q⟩
    obtain ⟨as, q⟩ := readsAll_of q
    exact ⟨_, .list h1 h2 h3 q⟩
theorem is_tuple {Γ : Gl} {h : Heap} {v : Value} {ds : List PyData} : Is Γ h v (.py (.tuple ds)) ↔ ∃ a vs, v = .ref a ∧ h.IsTuple a vs ∧ All2 (fun v d => Is Γ h v (.py d)) vs.toList ds := by
  constructor
  · rintro ⟨as, r⟩
    cases r with
    | tuple h1 h2 h3 h4 => exact ⟨_, _, rfl, ⟨_, h1, h2, _, h3⟩, of_readsAll h4⟩
  · rintro ⟨a, vs, rfl, ⟨o, h1, h2, n, h3⟩, q⟩
    obtain ⟨as, q⟩ := readsAll_of q
    exact ⟨_, .tuple h1 h2 h3 q⟩

/-- the names' table of a frame, as far as a walk looks at it -/
structure EnvIs (nm : List (Str × NameKind)) (env : Env) : Prop where
  kind : env.scope.kind = .function
  names : env.scope.names = nm
  globals : env.globals = mainGlobals
  builtins : env.builtins = builtinsNs
theorem EnvIs.kindOf {nm : List (Str × NameKind)} {env : Env} (x : EnvIs nm env) (n : Str) : env.kindOf n = nm.lookup n := by
  unfold Env.kindOf; rw [x.names]

/-- the name x of the frame holds v -/
def Reach (h : Heap) (env : Env) (x : Str) (v : Value) : Prop :=
  (env.kindOf x = some .local ∧ ∃ m, h.Ns env.locals m ∧ m x = some v) ∨
  ((env.kindOf x = some .cell ∨ env.kindOf x = some .free) ∧ ∃ c, env.cells.lookup x = some c ∧ h.IsCell c (some v))
theorem Reach.keeps {h h' : Heap} {env : Env} {x : Str} {v : Value} (k : Sub h h') (r : Reach h env x v) : Reach h' env x v := by
  rcases r with ⟨a, m, b, c⟩ | ⟨a, c, b, d⟩
  · exact .inl ⟨a, m, b.keeps k, c⟩
  · exact .inr ⟨a, c, b, d.keeps k⟩

abbrev Ctx0 := List (Str × D)
def Names (Γ : Gl) (M : List Addr) (h : Heap) (env : Env) (ρ : Ctx0) : Prop := ∀ x d, ρ.lookup x = some d → ∃ v, Reach h env x v ∧ Is Γ (Hd M h) v d
theorem Names.keeps {Γ : Gl} {M : List Addr} {h h' : Heap} {env : Env} {ρ : Ctx0} (k : Sub h h') (n : Names Γ M h env ρ) : Names Γ M h' env ρ := fun x d e =>
  let ⟨v, r, i⟩ := n x d e; ⟨v, r.keeps k, i.keeps (hd_sub_sub k)⟩

structure Rm (A : Around) (k : Nat) : Prop where
  handled : A.handled = none
  depth : A.depth + k < 900
  units : A.units + 10 * k < 9000
theorem Rm.le {A : Around} {k k' : Nat} (x : Rm A k) (h : k' ≤ k) : Rm A k' := ⟨x.handled, by have := x.depth; omega, by have := x.units; omega⟩
theorem Rm.deeper {A : Around} {k : Nat} (x : Rm A (k + 1)) (env : Env) : Rm (A.deeper env) k :=
  ⟨x.handled, by have := x.depth; show A.depth + 1 + k < 900; omega, by have := x.units; show A.units + 3 + 10 * k < 9000; omega⟩
theorem Rm.room {A : Around} {k : Nat} (x : Rm A k) : A.depth < recursionLimit := by have := x.depth; show A.depth < 1000; omega
theorem Rm.u {A : Around} {k : Nat} (x : Rm A k) (n : Nat) (h : n ≤ 900 := by decide) : A.units + n < cLine := by have := x.units; show A.units + n < 9900; omega

/-- how an evaluation begins -/
structure Pre (Γ : Gl) (k : Nat) (nm : List (Str × NameKind)) (ρ : Ctx0) (A : Around) (env : Env) (M : List Addr) (s : Shared) : Prop where
  rm : Rm A k
  en : EnvIs nm env
  base : Sub Γ.B s.heap
  live : ∀ a ∈ M, Live s.heap a
  names : Names Γ M s.heap env ρ
  cells : ∀ x c, env.cells.lookup x = some c → Live s.heap c
theorem Pre.keeps {Γ : Gl} {k : Nat} {nm : List (Str × NameKind)} {ρ : Ctx0} {A : Around} {env : Env} {M : List Addr} {s : Shared} (p : Pre Γ k nm ρ A env M s) {h' : Heap} {tk : Nat} (x : Sub s.heap h') : Pre Γ k nm ρ A env M { s with heap := h', toks := tk } :=
  ⟨p.rm, p.en, p.base.trans x, fun a m => (p.live a m).sub x, p.names.keeps x, fun y c e => (p.cells y c e).sub x⟩

abbrev E0 : Value → Shared → Prop := fun _ _ => False
/-- e yields d, and changes nothing that stands -/
def Ev (Γ : Gl) (k : Nat) (nm : List (Str × NameKind)) (ρ : Ctx0) (e : PySem.Expr) (d : D) : Prop :=
  ∀ A env M s, Pre Γ k nm ρ A env M s → ∀ Q : Value → Shared → Prop,
    (∀ v h' tk, Sub s.heap h' → Is Γ (Hd M h') v d → Q v { s with heap := h', toks := tk }) → wpAny (model Γ.prog Γ.w) A (eval e env) Q E0 s
/-- the test e comes out as b -/
def Et (Γ : Gl) (k : Nat) (nm : List (Str × NameKind)) (ρ : Ctx0) (e : PySem.Expr) (b : Bool) : Prop :=
  ∀ A env M s, Pre Γ k nm ρ A env M s → ∀ Q : Bool → Shared → Prop,
    (∀ h' tk, Sub s.heap h' → Q b { s with heap := h', toks := tk }) → wpAny (model Γ.prog Γ.w) A (isTrue e env (eval e env)) Q E0 s

theorem ev_eq {Γ : Gl} {k : Nat} {nm : List (Str × NameKind)} {ρ : Ctx0} {e : PySem.Expr} {d d' : D} (h : Ev Γ k nm ρ e d) (q : d = d') : Ev Γ k nm ρ e d' := q ▸ h
theorem et_eq {Γ : Gl} {k : Nat} {nm : List (Str × NameKind)} {ρ : Ctx0} {e : PySem.Expr} {d d' : Bool} (h : Et Γ k nm ρ e d) (q : d = d') : Et Γ k nm ρ e d' := q ▸ h

end Mine
namespace Mine
open PySem PySem.Calls PySem.Spec PyProof.Rows PySem.W

section
variable {Γ : Gl} {k : Nat} {nm : List (Str × NameKind)} {ρ : Ctx0}

theorem ev_const {c : Const} {kk : Nat} {pos : Pos} {d : D} (h : ∀ (env : Env) (A : Around) (s : Shared) (Q : Value → Shared → Prop), (∀ v tk, (∀ g, Is Γ g v d) → Q v { s with toks := tk }) → wpAny (model Γ.prog Γ.w) A (constValue env c) Q E0 s) : Ev Γ k nm ρ (.Constant c kk pos) d := by
  intro A env M s p Q hQ
  exact h env A s Q fun v tk hv => hQ v s.heap tk (Sub.refl _) (hv _)
theorem ev_int {i : Int} {kk : Nat} {pos : Pos} : Ev Γ k nm ρ (.Constant (.int i) kk pos) (I i) :=
  ev_const fun _ _ s _ h => fun _ _ _ => h (.int i s.toks) (s.toks + 1) fun _ => is_int.mpr ⟨_, rfl⟩
theorem ev_bool {b : Bool} {kk : Nat} {pos : Pos} : Ev Γ k nm ρ (.Constant (.bool b) kk pos) (Bo b) :=
  ev_const fun _ _ s _ h => wpAny_pure (h (.bool b) s.toks fun _ => is_bool.mpr rfl)
theorem ev_str {x : Str} {kk : Nat} {pos : Pos} : Ev Γ k nm ρ (.Constant (.str x) kk pos) (.py (.str x)) :=
  ev_const fun _ _ s _ h => fun _ _ _ => h (.str x s.toks) (s.toks + 1) fun _ => is_str.mpr ⟨_, rfl⟩

theorem load_reach {M : Model} {A : Around} {E : Value → Shared → Prop} {s : Shared} {nm : List (Str × NameKind)} {env : Env} (en : EnvIs nm env) {x : Str} {v : Value} {Q : Value → Shared → Prop} (r : Reach s.heap env x v)
    (hn : (x == ("__classdict__" : Str)) = false) (h : Q v s) : wpAny M A (loadName env x) Q E s := by
  rcases r with ⟨hk, m, hm, hv⟩ | ⟨hk, c, hc, hv⟩
  · exact wpAny_loadName_local en.kind hk hm hv h
  · rcases hk with hk | hk
    · exact wpAny_loadName_cell en.kind hk hc hv h
    · exact wpAny_loadName_free en.kind hk hc hv h hn

theorem ev_name {x : Str} {pos : Pos} {d : D} (h : ρ.lookup x = some d) (hn : (x == ("__classdict__" : Str)) = false := by decide +kernel) (hd : (x == ("__debug__" : Str)) = false := by decide +kernel) : Ev Γ k nm ρ (.Name x pos) d := by
  intro A env M s p Q hQ
  obtain ⟨v, r, i⟩ := p.names x d h
  exact wpAny_Name (load_reach p.en r hn (hQ v s.heap s.toks (Sub.refl _) i)) hd

/-- a global name -/
def Glo (Γ : Gl) (x : Str) (v : Value) : Prop := Γ.mg x = some v ∨ (Γ.mg x = none ∧ Γ.mb x = some v)
theorem load_glo {A : Around} {E : Value → Shared → Prop} {s : Shared} {env : Env} {M : Model} (ok : Γ.Ok) (en : EnvIs nm env) (hb : Sub Γ.B s.heap) {x : Str} {pos : Pos} {v : Value} {Q : Value → Shared → Prop} (g : Glo Γ x v)
    (hk : nm.lookup x = some .globalImplicit) (hd : (x == ("__debug__" : Str)) = false) (h : Q v s) : wpAny M A (eval (.Name x pos) env) Q E s := by
  refine Name_function_global en.kind ((en.kindOf x).trans hk) ?_ hd
  rcases g with g | ⟨g1, g2⟩
  · exact loadGlobal_global (en.globals ▸ ok.g.keeps hb) g h
  · exact loadGlobal_builtin (en.globals ▸ ok.g.keeps hb) g1 (en.builtins ▸ ok.b.keeps hb) g2 h

theorem et_of_ev {e : PySem.Expr} {b : Bool} (h : Ev Γ k nm ρ e (Bo b))
    (he : ∀ env whole, isTrue e env whole = (do let v ← whole; standAt e.pos; holding [v] (truthy v)) := by intro _ _; rfl) : Et Γ k nm ρ e b := by
  intro A env M s p Q hQ
  refine isTrue_plain (h A env M s p _ fun v h' tk k' iv => ?_) (he env _)
  obtain rfl := is_bool.mp iv
  exact wpAny_truthy_bool (hQ h' tk k')
theorem et_int {e : PySem.Expr} {i : Int} (h : Ev Γ k nm ρ e (I i))
    (he : ∀ env whole, isTrue e env whole = (do let v ← whole; standAt e.pos; holding [v] (truthy v)) := by intro _ _; rfl) : Et Γ k nm ρ e (i != 0) := by
  intro A env M s p Q hQ
  refine isTrue_plain (h A env M s p _ fun v h' tk k' iv => ?_) (he env _)
  obtain ⟨t, rfl⟩ := is_int.mp iv
  exact truthy_int (hQ h' tk k')
theorem et_not {e : PySem.Expr} {pos : Pos} {b : Bool} (h : Et Γ k nm ρ e b) : Et Γ k nm ρ (.UnaryOp .Not e pos) (!b) := by
  intro A env M s p Q hQ
  exact isTrue_not (h A env M s p _ fun h' tk k' => hQ h' tk k')

/-- tests of a chain of ands, ors -/
def Ea (Γ : Gl) (k : Nat) (nm : List (Str × NameKind)) (ρ : Ctx0) (op : BoolOp) (es : List PySem.Expr) (b : Bool) : Prop :=
  ∀ A env M s, Pre Γ k nm ρ A env M s → ∀ Q : Bool → Shared → Prop,
    (∀ h' tk, Sub s.heap h' → Q b { s with heap := h', toks := tk }) → wpAny (model Γ.prog Γ.w) A (allTrue op es env) Q E0 s
theorem ea_and_nil : Ea Γ k nm ρ .And [] true := fun A env M s p Q hQ => wpAny_allTrue_And_nil (hQ s.heap s.toks (Sub.refl _))
theorem ea_or_nil : Ea Γ k nm ρ .Or [] false := fun A env M s p Q hQ => wpAny_allTrue_Or_nil (hQ s.heap s.toks (Sub.refl _))
theorem ea_and {e : PySem.Expr} {es : List PySem.Expr} {b c : Bool} (h : Et Γ k nm ρ e b) (h2 : b = true → Ea Γ k nm ρ .And es c) : Ea Γ k nm ρ .And (e :: es) (b && c) := by
  intro A env M s p Q hQ
  refine wpAny_allTrue_And_cons (h A env M s p _ fun h' tk k' => ?_)
  cases b with
  | false => exact hQ h' tk k'
  | true => exact h2 rfl A env M _ (p.keeps k') _ fun h'' tk' k'' => hQ h'' tk' (k'.trans k'')
theorem ea_or {e : PySem.Expr} {es : List PySem.Expr} {b c : Bool} (h : Et Γ k nm ρ e b) (h2 : b = false → Ea Γ k nm ρ .Or es c) : Ea Γ k nm ρ .Or (e :: es) (b || c) := by
  intro A env M s p Q hQ
  refine wpAny_allTrue_Or_cons (h A env M s p _ fun h' tk k' => ?_)
  cases b with
  | true => exact hQ h' tk k'
  | false => exact h2 rfl A env M _ (p.keeps k') _ fun h'' tk' k'' => hQ h'' tk' (k'.trans k'')
theorem et_boolop {op : BoolOp} {es : List PySem.Expr} {pos : Pos} {b : Bool} (h : Ea Γ k nm ρ op es b) : Et Γ k nm ρ (.BoolOp op es pos) b :=
  fun A env M s p Q hQ => wpAny_isTrue_BoolOp (h A env M s p Q hQ)

/-- a comparison of two data -/
def Cm (Γ : Gl) (k : Nat) (op : CmpOp) (d e : D) (b : Bool) : Prop :=
  ∀ A s v w, Rm A k → Is Γ s.heap v d → Is Γ s.heap w e → ∀ Q : Value → Shared → Prop, (∀ tk, Q (.bool b) { s with toks := tk }) → wpAny (model Γ.prog Γ.w) A (compareOp op v w) Q E0 s
theorem ev_cmp {op : CmpOp} {a b : PySem.Expr} {pos : Pos} {d e : D} {c : Bool} (h1 : Ev Γ k nm ρ a d) (h2 : Ev Γ k nm ρ b e) (hc : Cm Γ k op d e c) (hm : behindInMarks op b = false := by with_unfolding_all rfl) :
    Ev Γ k nm ρ (.Compare a [op] [b] pos) (Bo c) := by
  intro A env M s p Q hQ
  refine wpAny_Compare1 (h1 A env M s p _ fun v h' tk k' iv => h2 A env M _ (p.keeps k') _ fun w h'' tk' k'' iw => ?_) hm
  exact hc A _ v w p.rm (iv.keeps ((hd_sub M h').trans k'')) (iw.keeps (hd_sub M h'')) _ fun tk'' => hQ _ h'' tk'' (k'.trans k'') (is_bool.mpr rfl)
theorem et_cmp {op : CmpOp} {a b : PySem.Expr} {pos : Pos} {d e : D} {c : Bool} (h1 : Ev Γ k nm ρ a d) (h2 : Ev Γ k nm ρ b e) (hc : Cm Γ k op d e c) (hm : behindInMarks op b = false := by with_unfolding_all rfl) :
    Et Γ k nm ρ (.Compare a [op] [b] pos) c := by
  intro A env M s p Q hQ
  refine wpAny_isTrue_Compare1 (h1 A env M s p _ fun v h' tk k' iv => h2 A env M _ (p.keeps k') _ fun w h'' tk' k'' iw => ?_) hm
  exact hc A _ v w p.rm (iv.keeps ((hd_sub M h').trans k'')) (iw.keeps (hd_sub M h'')) _ fun tk'' => wpAny_truthy_bool (hQ h'' tk'' (k'.trans k''))

theorem cm_int {op : CmpOp} {i j : Int} {b : Bool} (h : ∀ A s t u Q, Q (.bool b) s → wpAny (model Γ.prog Γ.w) A (compareOp op (.int i t) (.int j u)) Q E0 s) : Cm Γ k op (I i) (I j) b := by
  intro A s v w _ iv iw Q hQ
  obtain ⟨t, rfl⟩ := is_int.mp iv
  obtain ⟨u, rfl⟩ := is_int.mp iw
  exact h A s t u Q (hQ s.toks)
theorem cm_lt {i j : Int} : Cm Γ k .Lt (I i) (I j) (decide (i < j)) := cm_int fun _ _ _ _ _ h => PySem.P.lt_int h
theorem cm_gt {i j : Int} : Cm Γ k .Gt (I i) (I j) (decide (i > j)) := cm_int fun _ _ _ _ _ h => PySem.P.gt_int h
theorem cm_eq_int {i j : Int} : Cm Γ k .Eq (I i) (I j) (i == j) := cm_int fun _ _ _ _ _ h => PySem.P.eq_int h
theorem cm_ne_int {i j : Int} : Cm Γ k .NotEq (I i) (I j) (i != j) := cm_int fun _ _ _ _ _ h => PySem.P.ne_int h
/-- == of data that can be laid -/
theorem cm_eq {d e : PyData} (h1 : d.canLay0 = true) (h2 : e.canLay0 = true) (hd : d.depth ≤ 60) : Cm Γ k .Eq (.py d) (.py e) (PyData.eqv d e) := by
  rintro A s v w rm ⟨as, r⟩ ⟨bs, q⟩ Q hQ
  refine SeqAt.compareEq_reads r q h1 h2 ?_ (hQ s.toks)
  have := rm.u 60
  have h3 : min d.depth e.depth ≤ d.depth := Nat.min_le_left _ _
  omega
theorem cm_ne {d e : PyData} (h1 : d.canLay0 = true) (h2 : e.canLay0 = true) (hd : d.depth ≤ 60) : Cm Γ k .NotEq (.py d) (.py e) (!PyData.eqv d e) := by
  rintro A s v w rm ⟨as, r⟩ ⟨bs, q⟩ Q hQ
  refine SeqAt.compareNe_reads r q h1 h2 ?_ (hQ s.toks)
  have := rm.u 60
  have h3 : min d.depth e.depth ≤ d.depth := Nat.min_le_left _ _
  omega
theorem in_room {A : Around} {k : Nat} (rm : Rm A k) {xs : List PyData} {d : PyData} (hd : d.depth ≤ 60) : A.units + 1 + min (PyData.depthAll xs) d.depth < cLine := by
  have := rm.u 70
  have h3 : min (PyData.depthAll xs) d.depth ≤ d.depth := Nat.min_le_right _ _
  omega
theorem cm_in_list {d : PyData} {xs : List PyData} (h1 : PyData.canLayAll0 xs = true) (h2 : d.canLay0 = true) (hd : d.depth ≤ 60) : Cm Γ k .In (.py d) (.py (.list xs)) (xs.any fun y => PyData.eqv y d) := by
  rintro A s v w rm ⟨as, r⟩ ⟨bs, q⟩ Q hQ
  exact SeqAt.in_list_reads q r h1 h2 (in_room rm hd) (hQ s.toks)
theorem cm_notIn_list {d : PyData} {xs : List PyData} (h1 : PyData.canLayAll0 xs = true) (h2 : d.canLay0 = true) (hd : d.depth ≤ 60) : Cm Γ k .NotIn (.py d) (.py (.list xs)) (!xs.any fun y => PyData.eqv y d) := by
  rintro A s v w rm ⟨as, r⟩ ⟨bs, q⟩ Q hQ
  exact SeqAt.notIn_list_reads q r h1 h2 (in_room rm hd) (hQ s.toks)
theorem cm_in_tuple {d : PyData} {xs : List PyData} (h1 : PyData.canLayAll0 xs = true) (h2 : d.canLay0 = true) (hd : d.depth ≤ 60) : Cm Γ k .In (.py d) (.py (.tuple xs)) (xs.any fun y => PyData.eqv y d) := by
  rintro A s v w rm ⟨as, r⟩ ⟨bs, q⟩ Q hQ
  exact SeqAt.in_tuple_reads q r h1 h2 (in_room rm hd) (hQ s.toks)
theorem cm_notIn_tuple {d : PyData} {xs : List PyData} (h1 : PyData.canLayAll0 xs = true) (h2 : d.canLay0 = true) (hd : d.depth ≤ 60) : Cm Γ k .NotIn (.py d) (.py (.tuple xs)) (!xs.any fun y => PyData.eqv y d) := by
  rintro A s v w rm ⟨as, r⟩ ⟨bs, q⟩ Q hQ
  exact SeqAt.notIn_tuple_reads q r h1 h2 (in_room rm hd) (hQ s.toks)

/-- an operator of two data -/
def Bi (Γ : Gl) (k : Nat) (op : Operator) (d e r : D) : Prop :=
  ∀ A M s v w, Rm A k → Sub Γ.B s.heap → (∀ a ∈ M, Live s.heap a) → Is Γ (Hd M s.heap) v d → Is Γ (Hd M s.heap) w e → ∀ Q : Value → Shared → Prop,
    (∀ u h' tk, Sub s.heap h' → Is Γ (Hd M h') u r → Q u { s with heap := h', toks := tk }) → wpAny (model Γ.prog Γ.w) A (binaryOp op v w) Q E0 s
theorem ev_bin {op : Operator} {a b : PySem.Expr} {pos : Pos} {d e r : D} (h1 : Ev Γ k nm ρ a d) (h2 : Ev Γ k nm ρ b e) (hc : Bi Γ k op d e r) : Ev Γ k nm ρ (.BinOp a op b pos) r := by
  intro A env M s p Q hQ
  refine wpAny_BinOp (h1 A env M s p _ fun v h' tk k' iv => h2 A env M _ (p.keeps k') _ fun w h'' tk' k'' iw => ?_)
  have p2 := (p.keeps (tk := tk) k').keeps (tk := tk') k''
  exact hc A M _ v w p.rm p2.base p2.live (iv.keeps (hd_sub_sub k'')) iw Q fun u h3 tk3 k3 iu => hQ u h3 tk3 ((k'.trans k'').trans k3) iu
theorem bi_int {op : Operator} {i j r : Int} (h : ∀ A s t u, Rm A k → ∀ Q : Value → Shared → Prop, (∀ t' tk, Q (.int r t') { s with toks := tk }) → wpAny (model Γ.prog Γ.w) A (binaryOp op (.int i t) (.int j u)) Q E0 s) : Bi Γ k op (I i) (I j) (I r) := by
  intro A M s v w rm _ _ iv iw Q hQ
  obtain ⟨t, rfl⟩ := is_int.mp iv
  obtain ⟨u, rfl⟩ := is_int.mp iw
  exact h A s t u rm Q fun t' tk => hQ _ s.heap tk (Sub.refl _) (is_int.mpr ⟨_, rfl⟩)
theorem bi_add {i j : Int} : Bi Γ k .Add (I i) (I j) (I (i + j)) := bi_int fun _ _ _ _ _ _ h => PySem.P.add_int (h _ _)
theorem bi_sub {i j : Int} : Bi Γ k .Sub (I i) (I j) (I (i - j)) := bi_int fun _ _ _ _ _ _ h => PySem.P.sub_int (h _ _)
theorem bi_mul {i j : Int} (hm : IntMulOk i j) : Bi Γ k .Mult (I i) (I j) (I (i * j)) := bi_int fun _ _ _ _ _ _ h => PySem.P.mul_int (h _ _) hm
theorem bi_mod {i j : Int} (hj : j ≠ 0) : Bi Γ k .Mod (I i) (I j) (I (i.fmod j)) := bi_int fun _ _ _ _ _ _ h => PyProof.Rows.mod_int hj (h _ _)
theorem bi_div {i j : Int} (hj : j ≠ 0) (hi : Builtin.divisionGoesByPylong i j = false) : Bi Γ k .FloorDiv (I i) (I j) (I (i.fdiv j)) := bi_int fun _ _ _ _ _ _ h => PyProof.Rows.floordiv_int hj (h _ _) (.inl hi)
theorem bi_pow {i j : Int} (hj : 0 ≤ j) (hj2 : j ≤ 1000000) (hi : i.natAbs < 2 ^ 64) : Bi Γ k .Pow (I i) (I j) (I (i ^ j.toNat)) := bi_int fun _ _ _ _ _ _ h => PyProof.Rows.pow_int_small hj hj2 hi (h _ _)
theorem bi_shr {i j : Int} (hj : 0 ≤ j) : Bi Γ k .RShift (I i) (I j) (I (i.fdiv (2 ^ j.toNat))) := bi_int fun _ _ _ _ _ _ h => PyProof.Rows.rshift_int hj (h _ _)
theorem bi_shl {i j : Int} (hj : 0 ≤ j) (hj2 : j ≤ 1000000) (hi : i.natAbs < 2 ^ 64) : Bi Γ k .LShift (I i) (I j) (I (i * 2 ^ j.toNat)) := bi_int fun _ _ _ _ _ _ h => PyProof.Rows.lshift_int_small hj hj2 hi (h _ _)
theorem bi_xor {i j : Int} : Bi Γ k .BitXor (I i) (I j) (I (Builtin.bitXor i j)) := bi_int fun _ _ _ _ _ _ h => PyProof.Rows.xor_int (h _ _)

/-- several expressions, one behind the other -/
def Evs (Γ : Gl) (k : Nat) (nm : List (Str × NameKind)) (ρ : Ctx0) (es : List PySem.Expr) (ds : List D) : Prop :=
  ∀ A env M s pos, Pre Γ k nm ρ A env M s → ∀ Q : List Value → Shared → Prop,
    (∀ vs h' tk, Sub s.heap h' → All2 (Is Γ (Hd M h')) vs ds → Q vs { s with heap := h', toks := tk }) → wpAny (model Γ.prog Γ.w) A (spliced (backTo pos (starEach es env))) Q E0 s
theorem evs_nil : Evs Γ k nm ρ [] [] := fun A env M s pos p Q hQ => args_nil (hQ [] s.heap s.toks (Sub.refl _) .nil)
theorem evs_cons {e : PySem.Expr} {es : List PySem.Expr} {d : D} {ds : List D} (h : Ev Γ k nm ρ e d) (h2 : Evs Γ k nm ρ es ds) (he : ∀ env, starEach (e :: es) env = (false, eval e env) :: starEach es env := by intro _; rfl) : Evs Γ k nm ρ (e :: es) (d :: ds) := by
  intro A env M s pos p Q hQ
  refine args_cons (h A env M s p _ fun v h' tk k' iv => h2 A env M _ pos (p.keeps k') _ fun vs h'' tk' k'' ivs => ?_) (he env)
  exact hQ _ h'' tk' (k'.trans k'') (.cons (iv.keeps (hd_sub_sub k'')) ivs)

theorem all2_py {h : Heap} : ∀ {vs : List Value} {ds : List PyData}, All2 (Is Γ h) vs (ds.map D.py) → All2 (fun v d => Is Γ h v (.py d)) vs ds
  | _, [], .nil => .nil
  | _, _ :: _, .cons r q => .cons r (all2_py q)
theorem All2.py {h : Heap} {vs : List Value} {ds : List PyData} (x : All2 (fun v d => Is Γ h v (.py d)) vs ds) : All2 (Is Γ h) vs (ds.map D.py) := x.map_right fun _ _ r => r

theorem push_new {M : List Addr} {h : Heap} {o : Obj} (live : ∀ a ∈ M, Live h a) (hf : o.isFreed = false) : (Hd M (h.push o)).get? h.objs.size = some o :=
  hd_get (Heap.get?_push_size _ hf) fun m => Nat.lt_irrefl _ (live_lt (live _ m))

theorem ev_tuple {es : List PySem.Expr} {kk : Nat} {pos : Pos} {ds : List D} {ps : List PyData} (h : Evs Γ k nm ρ es ds) (e : ds = ps.map D.py) (hs : ps.length ≤ sizeLine := by exact Nat.le_of_ble_eq_true rfl) : Ev Γ k nm ρ (.Tuple es kk pos) (.py (.tuple ps)) := by
  subst e
  intro A env M s p Q hQ
  refine Tuple_ (h A env M s pos p _ fun vs h' tk k' ivs => ?_)
  refine wpAny_newObj_type (hQ _ (h'.push _) tk (k'.trans (sub_push _ _)) ?_) (by show vs.toArray.size ≤ sizeLine; rw [List.size_toArray, ivs.length, List.length_map]; exact hs)
  refine is_tuple.mpr ⟨_, vs.toArray, rfl, ⟨_, push_new (p.keeps (tk := tk) k').live rfl, rfl, _, rfl⟩, ?_⟩
  exact (all2_py ivs).imp fun _ _ r => r.keeps (hd_sub_sub (sub_push _ _))
theorem ev_list {es : List PySem.Expr} {pos : Pos} {ds : List D} {ps : List PyData} (h : Evs Γ k nm ρ es ds) (e : ds = ps.map D.py) (hs : ps.length ≤ sizeLine := by exact Nat.le_of_ble_eq_true rfl) : Ev Γ k nm ρ (.List es pos) (.py (.list ps)) := by
  subst e
  intro A env M s p Q hQ
  refine List_ (h A env M s pos p _ fun vs h' tk k' ivs => ?_)
  refine wpAny_newObj_type (hQ _ (h'.push _) tk (k'.trans (sub_push _ _)) ?_) (by show vs.toArray.size ≤ sizeLine; rw [List.size_toArray, ivs.length, List.length_map]; exact hs)
  refine is_list.mpr ⟨_, vs.toArray, rfl, ⟨_, push_new (p.keeps (tk := tk) k').live rfl, rfl, _, rfl⟩, ?_⟩
  exact (all2_py ivs).imp fun _ _ r => r.keeps (hd_sub_sub (sub_push _ _))

theorem ev_ifexp {t a b : PySem.Expr} {pos : Pos} {c : Bool} {d : D} (ht : Et Γ k nm ρ t c) (h1 : c = true → Ev Γ k nm ρ a d) (h2 : c = false → Ev Γ k nm ρ b d) : Ev Γ k nm ρ (.IfExp t a b pos) d := by
  intro A env M s p Q hQ
  refine wpAny_IfExp (ht A env M s p _ fun h' tk k' => ?_)
  cases c with
  | true => exact h1 rfl A env M _ (p.keeps k') _ fun v h'' tk' k'' i => hQ v h'' tk' (k'.trans k'') i
  | false => exact h2 rfl A env M _ (p.keeps k') _ fun v h'' tk' k'' i => hQ v h'' tk' (k'.trans k'') i

/-- a call of a value -/
def Fn (Γ : Gl) (k : Nat) (f : Value) (ds : List D) (r : D) : Prop :=
  ∀ A M s vs, Rm A k → Sub Γ.B s.heap → (∀ a ∈ M, Live s.heap a) → All2 (Is Γ (Hd M s.heap)) vs ds → ∀ Q : Value → Shared → Prop,
    (∀ u h' tk, Sub s.heap h' → Is Γ (Hd M h') u r → Q u { s with heap := h', toks := tk }) → wpAny (model Γ.prog Γ.w) A (call f vs) Q E0 s
theorem ev_call {x : Str} {ppos pos : Pos} {f : Value} {e : PySem.Expr} {es : List PySem.Expr} {ds : List D} {r : D} (ok : Γ.Ok) (g : Glo Γ x f) (hs : Evs Γ k nm ρ (e :: es) ds) (hf : Fn Γ k f ds r)
    (hk : nm.lookup x = some .globalImplicit := by rfl) (hd : (x == ("__debug__" : Str)) = false := by decide +kernel)
    (he : ∀ env, starEach (e :: es) env = (false, eval e env) :: starEach es env := by intro _; rfl) (hpl : ∀ env, (backTo pos (starEach es env)).any (·.1) = false := by intro _; rfl)
    (hf' : (∃ id, f = .builtin id) ∨ (∃ T, f = .type T) ∨ ∃ a o fd, f = .ref a ∧ Γ.B.get? a = some o ∧ o.data = .func fd) :
    Ev Γ k nm ρ (.Call (.Name x ppos) (e :: es) [] pos) r := by
  intro A env M s p Q hQ
  refine Call_ (load_glo ok p.en p.base g hk hd ?_) (by rfl)
  have key := hs A env M s pos p
  rcases hf' with ⟨id, rfl⟩ | ⟨T, rfl⟩ | ⟨a, o, fd, rfl, ho, hdt⟩
  · refine callWith_builtin1 (key _ fun vs h' tk k' ivs => ?_) (he env) (hpl env)
    have p2 := p.keeps (tk := tk) k'
    exact hf A M _ vs p.rm p2.base p2.live ivs _ fun u h3 tk3 k3 iu => hQ u h3 tk3 (k'.trans k3) iu
  · refine Pv.callWith_type1 (key _ fun vs h' tk k' ivs => ?_) (he env) (hpl env)
    have p2 := p.keeps (tk := tk) k'
    exact hf A M _ vs p.rm p2.base p2.live ivs _ fun u h3 tk3 k3 iu => hQ u h3 tk3 (k'.trans k3) iu
  · refine callWith_def hdt (key _ fun vs h' tk k' ivs => ?_) (he env)
    have p2 := p.keeps (tk := tk) k'
    exact ⟨p2.base _ _ ho, hf A M _ vs p.rm p2.base p2.live ivs _ fun u h3 tk3 k3 iu => hQ u h3 tk3 (k'.trans k3) iu⟩
end
end Mine
namespace Mine
open PySem PySem.Calls PySem.Spec PyProof.Rows PySem.W

abbrev KpX (X : List Addr) (h h' : Heap) : Prop := ∀ b o, b ∉ X → h.get? b = some o → h'.get? b = some o
theorem KpX.trans {X : List Addr} {a b c : Heap} (x : KpX X a b) (y : KpX X b c) : KpX X a c := fun d o n e => y d o n (x d o n e)
theorem Sub.kpx {X : List Addr} {a b : Heap} (x : Sub a b) : KpX X a b := fun d o _ e => x d o e
theorem KpX.hd {X M : List Addr} {a b : Heap} (x : KpX X a b) (s : ∀ c ∈ X, c ∈ M) : Sub (Hd M a) (Hd M b) := hd_mono fun c o n e => x c o (fun m => n (s c m)) e
theorem KpX.live {X : List Addr} {a b : Heap} (x : KpX X a b) (l : ∀ c ∈ X, Live b c) {d : Addr} (q : Live a d) : Live b d := by
  by_cases m : d ∈ X
  · exact l d m
  · obtain ⟨o, e⟩ := q; exact ⟨o, x d o m e⟩
theorem sameBut_kpx {X : List Addr} {a : Addr} {h h' : Heap} (s : Heap.SameBut a h h') (m : a ∈ X) : KpX X h h' := fun b o n e => (s.2 b (fun q => n (q ▸ m))).trans e

/-- a frame's own store: its locals, the cells of the names xs; all at addresses of X -/
structure Frm (nm : List (Str × NameKind)) (xs : List Str) (env : Env) (X : List Addr) (h : Heap) : Prop where
  ns : ∃ m, h.Ns env.locals m
  loc : env.locals ∈ X
  own : ∀ x ∈ xs, nm.lookup x = some .local ∨ (nm.lookup x = some .cell ∧ ∃ c, env.cells.lookup x = some c ∧ c ∈ X ∧ (∃ v, h.IsCell c v) ∧ ∀ y, env.cells.lookup y = some c → y = x)
theorem cell_not_ns {h : Heap} {a : Addr} {m : Str → Option Value} {v : Option Value} (x : h.Ns a m) (y : h.IsCell a v) : False := by
  obtain ⟨o, es, ep, ho, hd, _⟩ := x
  obtain ⟨o', ho', hd'⟩ := y
  rw [ho] at ho'; cases ho'; rw [hd] at hd'; cases hd'
theorem Frm.sub {nm : List (Str × NameKind)} {xs : List Str} {env : Env} {X : List Addr} {h h' : Heap} (f : Frm nm xs env X h) (k : Sub h h') : Frm nm xs env X h' where
  ns := let ⟨m, x⟩ := f.ns; ⟨m, x.keeps k⟩
  loc := f.loc
  own := fun x hx => (f.own x hx).imp id fun ⟨a, c, b, d, ⟨v, e⟩, g⟩ => ⟨a, c, b, d, ⟨v, e.keeps k⟩, g⟩

section
variable {Γ : Gl} {k : Nat} {nm : List (Str × NameKind)} {ρ : Ctx0}

/-- a store of one own name, whatever the value -/
theorem store_raw {A : Around} {env : Env} {M X : List Addr} {xs : List Str} {s : Shared} {x : Str} {v : Value} (p : Pre Γ k nm ρ A env M s) (f : Frm nm xs env X s.heap) (hx : x ∈ xs) {Q : Unit → Shared → Prop}
    (fin : ∀ h' tk, KpX X s.heap h' → (∀ a, Live s.heap a → Live h' a) → (∀ y w, y ≠ x → Reach s.heap env y w → Reach h' env y w) → Reach h' env x v → Frm nm xs env X h' → Q () { s with heap := h', toks := tk }) :
    wpAny (model Γ.prog Γ.w) A (storeName env x v) Q E0 s := by
  obtain ⟨m, hm⟩ := f.ns
  rcases f.own x hx with hl | ⟨hl, c, hc, hcX, ⟨v₀, hv₀⟩, hap⟩
  · refine wpAny_storeName_local ((p.en.kindOf x).trans hl) hm (fun h' hn hs => ?_) (by rw [p.en.kind]; rfl)
    have kp : KpX X s.heap h' := sameBut_kpx hs f.loc
    refine fin h' _ kp (fun a ⟨o, e⟩ => ?_) (fun y w hy r => ?_) (.inl ⟨(p.en.kindOf x).trans hl, _, hn, by simp⟩) ⟨⟨_, hn⟩, f.loc, fun y hy => (f.own y hy).imp id fun ⟨a, c, b, d, ⟨v, e⟩, g⟩ => ⟨a, c, b, d, ⟨v, ?_⟩, g⟩⟩
    · by_cases q : a = env.locals
      · subst q; obtain ⟨o', _, _, e', _⟩ := hn; exact ⟨o', e'⟩
      · exact ⟨o, (hs.2 a q).trans e⟩
    · rcases r with ⟨a, m', b, c⟩ | ⟨a, c, b, e⟩
      · refine .inl ⟨a, _, hn, ?_⟩
        simp only [if_neg hy]
        rw [← c]
        obtain ⟨o, es, ep, ho, hd, _, h1⟩ := hm
        obtain ⟨o', es', ep', ho', hd', _, h2⟩ := b
        rw [ho] at ho'; cases ho'; rw [hd] at hd'; cases hd'
        rw [← h1, ← h2]
      · exact .inr ⟨a, c, b, e.sameBut hs fun q => cell_not_ns hm (q ▸ e)⟩
    · exact e.sameBut hs fun q => cell_not_ns hm (q ▸ e)
  · refine wpAny_storeName_cell p.en.kind ((p.en.kindOf x).trans hl) hc hv₀ fun h' hn hs => ?_
    have kp : KpX X s.heap h' := sameBut_kpx hs hcX
    have hne : env.locals ≠ c := fun q => cell_not_ns hm (q ▸ hv₀)
    refine fin h' s.toks kp (fun a ⟨o, e⟩ => ?_) (fun y w hy r => ?_) (.inr ⟨.inl ((p.en.kindOf x).trans hl), c, hc, hn⟩) ⟨⟨m, hm.sameBut hs hne⟩, f.loc, fun y hy => (f.own y hy).imp id fun ⟨a, c', b, d, ⟨v', e⟩, g⟩ => ⟨a, c', b, d, ?_, g⟩⟩
    · by_cases q : a = c
      · subst q; obtain ⟨o', e', _⟩ := hn; exact ⟨o', e'⟩
      · exact ⟨o, (hs.2 a q).trans e⟩
    · rcases r with ⟨a, m', b, e⟩ | ⟨a, c', b, e⟩
      · exact .inl ⟨a, m', b.sameBut hs hne, e⟩
      · exact .inr ⟨a, c', b, e.sameBut hs fun q => hy (hap y (q ▸ b))⟩
    · by_cases q : c' = c
      · subst q; exact ⟨_, hn⟩
      · exact ⟨_, e.sameBut hs q⟩

/-- a store of one own name -/
theorem store_own {A : Around} {env : Env} {M X : List Addr} {xs : List Str} {s : Shared} {x : Str} {v : Value} {d : D} (p : Pre Γ k nm ρ A env M s) (f : Frm nm xs env X s.heap) (xm : ∀ a ∈ X, a ∈ M) (hx : x ∈ xs)
    (bx : ∀ a ∈ X, ¬ Live Γ.B a) (iv : Is Γ (Hd M s.heap) v d) {Q : Unit → Shared → Prop}
    (hQ : ∀ h' tk, KpX X s.heap h' → (∀ a ∈ X, Live s.heap a → Live h' a) → Pre Γ k nm ((x, d) :: ρ) A env M { s with heap := h', toks := tk } → Frm nm xs env X h' → (∀ y w, y ≠ x → Reach s.heap env y w → Reach h' env y w) → Q () { s with heap := h', toks := tk }) :
    wpAny (model Γ.prog Γ.w) A (storeName env x v) Q E0 s := by
  refine store_raw p f hx fun h' tk kp lv ry rx fr => ?_
  refine hQ h' tk kp (fun a _ q => lv a q) ⟨p.rm, p.en, fun b o e => kp b o (fun q => bx b q ⟨o, e⟩) (p.base b o e), fun a q => lv a (p.live a q), ?_, fun y c e => lv c (p.cells y c e)⟩ fr ry
  intro y e hy
  rw [List.lookup_cons] at hy
  cases hb : y == x with
  | true =>
    rw [hb] at hy; cases hy
    rw [eq_of_beq hb]
    exact ⟨v, rx, iv.keeps (kp.hd xm)⟩
  | false =>
    rw [hb] at hy
    obtain ⟨w, r, i⟩ := p.names y e hy
    exact ⟨w, ry y w (fun q => by rw [q, beq_self_eq_true] at hb; cases hb) r, i.keeps (kp.hd xm)⟩

/-- a target takes a datum: the names it binds -/
def As (Γ : Gl) (k : Nat) (nm : List (Str × NameKind)) (xs : List Str) (t : PySem.Expr) (d : D) (bs : Ctx0) : Prop :=
  ∀ ρ A env M X s v, Pre Γ k nm ρ A env M s → Frm nm xs env X s.heap → (∀ a ∈ X, a ∈ M) → (∀ a ∈ X, ¬ Live Γ.B a) → Is Γ (Hd M s.heap) v d → ∀ Q : Unit → Shared → Prop,
    (∀ h' tk, KpX X s.heap h' → (∀ a ∈ X, Live s.heap a → Live h' a) → Pre Γ k nm (bs ++ ρ) A env M { s with heap := h', toks := tk } → Frm nm xs env X h' → (∀ y w, bs.lookup y = none → Reach s.heap env y w → Reach h' env y w) → Q () { s with heap := h', toks := tk }) →
    wpAny (model Γ.prog Γ.w) A (assign t env v) Q E0 s
theorem as_name {xs : List Str} {x : Str} {pos : Pos} {d : D} (hx : x ∈ xs) : As Γ k nm xs (.Name x pos) d [(x, d)] := by
  intro ρ A env M X s v p f xm bx iv Q hQ
  exact wpAny_assign_Name (store_own p f xm hx bx iv fun h' tk a b c d e => hQ h' tk a b c d fun y w hy r => e y w (fun q => by subst q; simp at hy) r)
theorem as_pair {xs : List Str} {x y : Str} {px py pos : Pos} {kk : Nat} {d e : PyData} (hx : x ∈ xs) (hy : y ∈ xs) :
    As Γ k nm xs (.Tuple [.Name x px, .Name y py] kk pos) (.py (.tuple [d, e])) [(y, .py e), (x, .py d)] := by
  intro ρ A env M X s v p f xm bx iv Q hQ
  obtain ⟨a, vs, rfl, ht, q⟩ := is_tuple.mp iv
  obtain ⟨l⟩ := vs
  cases q with
  | cons i1 q =>
    cases q with
    | cons i2 q =>
      cases q
      have ht' := (show s.heap.IsTuple a _ from let ⟨o, e, r⟩ := ht; ⟨o, hd_sub M _ _ _ e, r⟩)
      refine wpAny_assign_Tuple p.rm.handled ht' (by rfl) (by rfl) fun h' he => ?_
      have k' : Sub s.heap h' := fun b o e => he b o (Nat.ne_of_lt (Heap.lt_size e)) e
      show wpAny _ _ (holding [_] (assign (.Name x px) env _) >>= fun _ => assignInOrder [assign (.Name y py) env] [_]) Q E0 _
      refine wpAny_bind (wpAny_holding (wpAny_assign_Name (store_own (p.keeps (tk := s.toks) k') (f.sub k') xm hx bx (i1.keeps (hd_sub_sub k')) fun h2 tk2 k2 l2 p2 f2 r2 => ?_)))
      show wpAny _ _ (holding [] (assign (.Name y py) env _) >>= fun _ => assignInOrder [] []) Q E0 _
      refine wpAny_bind (wpAny_holding (wpAny_assign_Name (store_own p2 f2 xm hy bx ((i2.keeps (hd_sub_sub k')).keeps (k2.hd xm)) fun h3 tk3 k3 l3 p3 f3 r3 => wpAny_pure ?_)))
      exact hQ h3 tk3 ((k'.kpx.trans k2).trans k3) (fun b m q => l3 b m (l2 b m (q.sub k'))) p3 f3 fun z w hz r => by
        have e1 : z ≠ y := fun q => by subst q; simp at hz
        have e2 : z ≠ x := fun q => by
          subst q
          rw [List.lookup_cons] at hz
          cases hb : z == y with
          | true => rw [hb] at hz; cases hz
          | false => rw [hb] at hz; simp at hz
        exact r3 z w e1 (r2 z w e2 (r.keeps k'))

/-- an iterator over data -/
structure Src (Γ : Gl) (A : Around) (target : PySem.Expr) (I : Addr) (base : Heap) (fp wr : List Addr) (ds : List D) (St : Nat → Heap → Prop) : Prop where
  sub : ∀ b ∈ wr, b ∈ fp
  frame : ∀ i h h', St i h → (∀ b ∈ fp, ∀ o, h.get? b = some o → h'.get? b = some o) → St i h'
  alive : ∀ i h, St i h → ∀ b ∈ wr, Live h b
  step : ∀ i s M d (Q : Value → Shared → Prop), ds[i]? = some d → St i s.heap → (∀ a ∈ M, Live s.heap a) → (∀ b ∈ wr, b ∈ M) → Sub base (Hd M s.heap) →
    (∀ v h' tk, Is Γ (Hd M h') v d → St (i + 1) h' → KpX wr s.heap h' → Q v { s with heap := h', toks := tk }) →
    wpAny (model Γ.prog Γ.w) A (pyNext (.ref I)) (fun r s₁ => ∃ v, r = some v ∧ wpAny (model Γ.prog Γ.w) A (letOwnedTupleGo target (.ref I) v) (fun _ s₂ => Q v s₂) E0 s₁) E0 s
  done : ∀ s (Q : Option Value → Shared → Prop), St ds.length s.heap → (∀ h' tk, KpX wr s.heap h' → Q none { s with heap := h', toks := tk }) → wpAny (model Γ.prog Γ.w) A (pyNext (.ref I)) Q E0 s
  self : ∀ i s (Q : Value → Shared → Prop), St i s.heap → Q (.ref I) s → wpAny (model Γ.prog Γ.w) A (pyIter (.ref I)) Q E0 s

/-- from the library's walks: items that are values, fixed ahead -/
theorem Src.of_walks {A : Around} {target : PySem.Expr} {I : Addr} {base : Heap} {fp wr : List Addr} {ds : List D} {P : Nat → Value → Prop} {St : Nat → Heap → Prop}
    (W : Walks Γ.prog Γ.w A I fp wr ds.length P St) (hP : ∀ i v d, P i v → ds[i]? = some d → Is Γ base v d) (hal : ∀ i h, St i h → ∀ b ∈ wr, Live h b)
    (hgo : ∀ i v d s (Q : Unit → Shared → Prop), P i v → ds[i]? = some d → St (i + 1) s.heap → Q () s → wpAny (model Γ.prog Γ.w) A (letOwnedTupleGo target (.ref I) v) Q E0 s) : Src Γ A target I base fp wr ds St where
  sub := W.sub
  frame := W.frame
  alive := hal
  step := by
    intro i s M d Q hd st lm wm sb hQ
    have hi : i < ds.length := (List.getElem?_eq_some_iff.mp hd).1
    refine W.item i s _ _ hi st fun v h' tk hv st' kp => ⟨v, rfl, hgo i v d _ _ hv hd st' ?_⟩
    exact hQ v h' tk ((hP i v d hv hd).keeps (sb.trans (KpX.hd kp wm))) st' kp
  done := fun s Q st hQ => W.done s Q E0 st hQ
  self := fun i s Q st hQ => W.self i s Q E0 st hQ

/-- an iterable expression: what it gives, one by one -/
def Itr (Γ : Gl) (k : Nat) (nm : List (Str × NameKind)) (ρ : Ctx0) (target e : PySem.Expr) (ds : List D) : Prop :=
  ∀ A env M s, Pre Γ k nm ρ A env M s → ∀ Q : Value → Shared → Prop,
    (∀ I fp wr St h tk, Src Γ A target I (Hd (wr ++ M) h) fp wr ds St → St 0 h → Sub s.heap h → (∀ b ∈ wr, ¬ Live s.heap b) → (∀ b ∈ fp, b ∈ wr ∨ Live (Hd M h) b) → Q (.ref I) { s with heap := h, toks := tk }) →
    wpAny (model Γ.prog Γ.w) A (eval e env) (fun x s₁ => wpAny (model Γ.prog Γ.w) A (pyIter x) Q E0 s₁) E0 s

theorem not_live_size {h : Heap} : ¬ Live h h.objs.size := fun q => Nat.lt_irrefl _ (live_lt q)
theorem hd_fresh {M N : List Addr} {h h' : Heap} (k : Sub h h') (n : ∀ b ∈ N, ¬ Live h b) : Sub (Hd M h) (Hd (N ++ M) h') := hd_more ((hd_sub M h).trans k) fun b hb => (List.mem_append.mp hb).elim (fun q => .inr fun o e => n b q ⟨o, of_hideAll M e⟩) .inl
theorem goName {A : Around} {x : Str} {pos : Pos} {I : Addr} {v : Value} {s : Shared} {Q : Unit → Shared → Prop} (h : Q () s) : wpAny (model Γ.prog Γ.w) A (letOwnedTupleGo (.Name x pos) (.ref I) v) Q E0 s := wpAny_pure h

theorem src_list {A : Around} (hh : A.handled = none) {target : PySem.Expr} {I ax : Addr} {base : Heap} {vs : Array Value} {ds : List D} (hne : ax ≠ I) (q : All2 (Is Γ base) vs.toList ds)
    (ht : (∃ x pos, target = .Name x pos) ∨ ((∃ es kk pos, target = .Tuple es kk pos) ∧ ∀ v ∈ vs.toList, ∃ a, v = .ref a)) :
    Src Γ A target I base [I, ax] [I] ds (fun i h => h.IsListIter I ax i ∧ h.IsList ax vs) := by
  have hl : vs.size = ds.length := by rw [← q.length, Array.length_toList]
  refine Src.of_walks (P := fun i v => vs[i]? = some v) (hl ▸ Walks.list hh I ax hne vs) (fun i v d hv hd => ?_) (fun i h st b hb => ?_) fun i v d s Q hv hd st hQ => ?_
  · obtain ⟨w, e, r⟩ := q.get hd
    rw [Array.getElem?_toList, hv] at e; cases e; exact r
  · simp at hb; subst hb; obtain ⟨o, e, _⟩ := st.1; exact ⟨o, e⟩
  · rcases ht with ⟨x, pos, rfl⟩ | ⟨⟨es, kk, pos, rfl⟩, hr⟩
    · exact goName hQ
    · obtain ⟨a, rfl⟩ := hr v (by rw [← Array.getElem?_toList] at hv; exact List.mem_of_getElem? hv)
      exact wpAny_letOwnedTupleGo_listiter st.1 hQ
theorem src_tuple {A : Around} (hh : A.handled = none) {x : Str} {pos : Pos} {I ax : Addr} {base : Heap} {vs : Array Value} {ds : List D} (hne : ax ≠ I) (q : All2 (Is Γ base) vs.toList ds) :
    Src Γ A (.Name x pos) I base [I, ax] [I] ds (fun i h => h.IsTupleIter I ax i ∧ h.IsTuple ax vs) := by
  have hl : vs.size = ds.length := by rw [← q.length, Array.length_toList]
  refine Src.of_walks (P := fun i v => vs[i]? = some v) (hl ▸ Walks.tuple hh I ax hne vs) (fun i v d hv hd => ?_) (fun i h st b hb => ?_) fun i v d s Q hv hd st hQ => goName hQ
  · obtain ⟨w, e, r⟩ := q.get hd
    rw [Array.getElem?_toList, hv] at e; cases e; exact r
  · simp at hb; subst hb; obtain ⟨o, e, _⟩ := st.1; exact ⟨o, e⟩

/-- what a value that reads as a list holds: its items -/
def Items (Γ : Gl) (d : D) (ds : List D) : Prop := ∀ h v, Is Γ h v d → ∃ a vs, v = .ref a ∧ h.IsList a vs ∧ All2 (Is Γ h) vs.toList ds
theorem items_py {ds : List PyData} : Items Γ (.py (.list ds)) (ds.map D.py) := fun h v i => let ⟨a, vs, e, l, q⟩ := is_list.mp i; ⟨a, vs, e, l, q.py⟩
theorem items_rows {rs : List Row} : Items Γ (.rows rs) (rs.map D.tdict) := fun h v i => let ⟨a, vs, e, l, q⟩ := i; ⟨a, vs, e, l, q.map_right fun _ _ r => r⟩

theorem itr_list {target e : PySem.Expr} {d : D} {ds : List D} (h : Ev Γ k nm ρ e d) (hi : Items Γ d ds)
    (ht : (∃ x pos, target = .Name x pos) ∨ ((∃ es kk pos, target = .Tuple es kk pos) ∧ ∀ d ∈ ds, ∃ ps, d = .py (.tuple ps))) : Itr Γ k nm ρ target e ds := by
  intro A env M s p Q hQ
  refine h A env M s p _ fun v h' tk k' iv => ?_
  obtain ⟨a, vs, rfl, hl, q⟩ := hi _ _ iv
  have hl' : h'.IsList a vs := isList_sub (hd_sub M h') hl
  refine wpAny_pyIter_list hl' ?_
  have lt : a < h'.objs.size := by obtain ⟨o, e, _⟩ := hl'; exact Heap.lt_size e
  refine hQ h'.objs.size [h'.objs.size, a] [h'.objs.size] _ _ tk (src_list (vs := vs) p.rm.handled (Nat.ne_of_lt lt) (q.imp fun _ _ r => r.keeps (hd_fresh (sub_push _ _) fun b hb => by simp at hb; subst hb; exact not_live_size)) (ht.imp id fun ⟨t1, t2⟩ => ⟨t1, fun v hv => ?_⟩))
    ⟨⟨_, Heap.get?_push_size _ rfl, rfl, rfl⟩, hl'.push _⟩ (k'.trans (sub_push _ _)) (fun b hb q => ?_) (fun b hb => ?_)
  · simp at hb; subst hb
    exact not_live_size (q.sub k')
  · simp at hb
    rcases hb with rfl | rfl
    · exact .inl (by simp)
    · obtain ⟨o, e, _⟩ := hl
      exact .inr ⟨o, hd_sub_sub (sub_push _ _) _ _ e⟩
  · obtain ⟨j, hj⟩ := List.mem_iff_getElem?.mp hv
    obtain ⟨d, hd, r⟩ := q.getL hj
    obtain ⟨ps, rfl⟩ := t2 d (List.mem_of_getElem? hd)
    obtain ⟨b, ws, rfl, _⟩ := is_tuple.mp r
    exact ⟨b, rfl⟩
theorem itr_tuple {x : Str} {pos : Pos} {e : PySem.Expr} {ds : List PyData} (h : Ev Γ k nm ρ e (.py (.tuple ds))) : Itr Γ k nm ρ (.Name x pos) e (ds.map D.py) := by
  intro A env M s p Q hQ
  refine h A env M s p _ fun v h' tk k' iv => ?_
  obtain ⟨a, vs, rfl, hl, q⟩ := is_tuple.mp iv
  have hl' : h'.IsTuple a vs := let ⟨o, e, r⟩ := hl; ⟨o, hd_sub M h' _ _ e, r⟩
  refine wpAny_pyIter_tuple hl' ?_
  have lt : a < h'.objs.size := by obtain ⟨o, e, _⟩ := hl'; exact Heap.lt_size e
  refine hQ h'.objs.size [h'.objs.size, a] [h'.objs.size] _ _ tk (src_tuple (vs := vs) p.rm.handled (Nat.ne_of_lt lt) (q.py.imp fun _ _ r => r.keeps (hd_fresh (sub_push _ _) fun b hb => by simp at hb; subst hb; exact not_live_size)))
    ⟨⟨_, Heap.get?_push_size _ rfl, rfl, rfl⟩, hl'.push _⟩ (k'.trans (sub_push _ _)) (fun b hb q => ?_) (fun b hb => ?_)
  · simp at hb; subst hb
    exact not_live_size (q.sub k')
  · simp at hb
    rcases hb with rfl | rfl
    · exact .inl (by simp)
    · obtain ⟨o, e, _⟩ := hl
      exact .inr ⟨o, hd_sub_sub (sub_push _ _) _ _ e⟩
end
end Mine
namespace Mine
open PySem PySem.Calls PySem.Spec PyProof.Rows PySem.W

section
variable {Γ : Gl} {k : Nat} {nm : List (Str × NameKind)} {ρ : Ctx0}

/-- the ints from a, n of them -/
def upFrom (a : Int) (n : Nat) : List Int := (List.range n).map fun (i : Nat) => a + (i : Int)
theorem upFrom_length (a : Int) (n : Nat) : (upFrom a n).length = n := by simp [upFrom]
theorem upFrom_get {a : Int} {n i : Nat} {x : Int} (h : (upFrom a n)[i]? = some x) : i < n ∧ x = a + i := by
  unfold upFrom at h
  rw [List.getElem?_map] at h
  cases e : (List.range n)[i]? with
  | none => rw [e] at h; cases h
  | some j =>
    rw [e] at h
    have hi : i < n := by have := (List.getElem?_eq_some_iff.mp e).1; simpa using this
    rw [List.getElem?_range hi] at e
    cases e; cases h; exact ⟨hi, rfl⟩

theorem src_range {A : Around} (hh : A.handled = none) {x : Str} {pos : Pos} {I : Addr} {base : Heap} (a : Int) (n : Nat) :
    Src Γ A (.Name x pos) I base [I] [I] ((upFrom a n).map Mine.I) (fun i h => IsRangeIter h I (a + (i : Nat) * 1) ((n : Int) - (i : Nat)) 1) := by
  have hl : n = ((upFrom a n).map Mine.I).length := by rw [List.length_map, upFrom_length]
  have W := Walks.range (prog := Γ.prog) (w := Γ.w) hh I a 1 n
  refine Src.of_walks (P := fun i v => ∃ t, v = .int (a + i * 1) t) (hl ▸ W) (fun i v d hv hd => ?_) (fun i h st b hb => ?_) fun i v d s Q hv hd st hQ => goName hQ
  · rw [List.getElem?_map] at hd
    cases e : (upFrom a n)[i]? with
    | none => rw [e] at hd; cases hd
    | some j =>
      rw [e] at hd; cases hd
      obtain ⟨_, rfl⟩ := upFrom_get e
      obtain ⟨t, rfl⟩ := hv
      exact is_int.mpr ⟨t, by rw [Int.mul_one]⟩
  · simp at hb; subst hb; exact ⟨_, st⟩

def smallInt (i : Int) : Prop := -(2 ^ 40) ≤ i ∧ i ≤ 2 ^ 40
theorem range_small {a b : Int} (ha : smallInt a) (hb : smallInt b) : Builtin.Range.small a b 1 = true ∧ (Builtin.Range.rangeSize a b 1).toNat = (b - a).toNat ∧ 0 ≤ Builtin.Range.rangeSize a b 1 := by
  obtain ⟨a1, a2⟩ := ha
  obtain ⟨b1, b2⟩ := hb
  have e : Builtin.Range.rangeSize a b 1 = if a < b then b - a else 0 := by
    unfold Builtin.Range.rangeSize
    simp only [show (1 : Int) > 0 from by decide, if_true, Int.ediv_one]
    split <;> omega
  have e2 : 0 ≤ Builtin.Range.rangeSize a b 1 ∧ Builtin.Range.rangeSize a b 1 ≤ 2 ^ 42 := by rw [e]; split <;> omega
  refine ⟨?_, by rw [e]; split <;> omega, e2.1⟩
  have fit : ∀ i : Int, -(2 ^ 50) ≤ i → i ≤ 2 ^ 50 → Builtin.Range.rangeFitsLong i = true := by
    intro i h1 h2
    unfold Builtin.Range.rangeFitsLong
    have : -(2 ^ 63 : Int) ≤ i ∧ i < 2 ^ 63 := by omega
    simp only [Bool.and_eq_true, decide_eq_true_eq]
    exact this
  unfold Builtin.Range.small
  rw [fit a (by omega) (by omega), fit b (by omega) (by omega), fit 1 (by omega) (by omega), fit _ (by omega) (by omega)]
  simp only [show (1 : Int) > 0 from by decide, if_true, Bool.true_and, Bool.or_eq_true]
  exact .inr (fit _ (by omega) (by omega))

/-- what stands behind the call of range -/
theorem range_tail {A : Around} {M : List Addr} {s : Shared} {x : Str} {pos : Pos} {a b : Int} {t u v : Tok} {tk0 : Nat} (p : Rm A k) (lm : ∀ c ∈ M, Live s.heap c) (ha : smallInt a) (hb : smallInt b) {h0 : Heap} (k0 : Sub h0 s.heap) {Q : Value → Shared → Prop}
    (hQ : ∀ I fp wr St h tk, Src Γ A (.Name x pos) I (Hd (wr ++ M) h) fp wr ((upFrom a (b - a).toNat).map Mine.I) St → St 0 h → Sub h0 h → (∀ b ∈ wr, ¬ Live h0 b) → (∀ b ∈ fp, b ∈ wr ∨ Live (Hd M h) b) → Q (.ref I) { s with heap := h, toks := tk }) :
    wpAny (model Γ.prog Γ.w) A (pyIter (.ref s.heap.objs.size)) Q E0 { s with heap := s.heap.push { cls := .type "range", data := .fields #[.int a t, .int b u, .int 1 v] }, toks := tk0 } := by
  obtain ⟨r1, r2, r3⟩ := range_small ha hb
  refine wpAny_pyIter_range (a := a) (b := b) (c := 1) (t := t) (u := u) (v := v) (Heap.get?_push_size _ rfl) r1 ?_
  have k1 : Sub h0 (s.heap.push { cls := .type "range", data := .fields #[.int a t, .int b u, .int 1 v] }) := k0.trans (sub_push _ _)
  refine hQ _ _ _ _ _ tk0 (src_range p.handled a (b - a).toNat) ?_ (k1.trans (sub_push _ _)) (fun c hc q => ?_) fun c hc => .inl hc
  · have e : ((b - a).toNat : Int) = Builtin.Range.rangeSize a b 1 := by rw [← r2]; omega
    rw [e]
    have := Heap.get?_push_size (s.heap.push { cls := .type "range", data := .fields #[.int a t, .int b u, .int 1 v] }) (o := { cls := .type "range_iterator", data := .fields #[rawInt a, rawInt (Builtin.Range.rangeSize a b 1), rawInt 1] }) rfl
    simpa using this
  · simp at hc; subst hc
    exact not_live_size (h := s.heap.push { cls := .type "range", data := .fields #[.int a t, .int b u, .int 1 v] }) (by simpa using q.sub k1)

theorem itr_range {x : Str} {pos ppos cpos : Pos} {e : PySem.Expr} {n : Int} (ok : Γ.Ok) (g : Glo Γ "range" (.type "range")) (h : Ev Γ k nm ρ e (Mine.I n)) (hn : smallInt n)
    (hk : nm.lookup ("range" : Str) = some .globalImplicit := by rfl) (he : ∀ env, starEach [e] env = [(false, eval e env)] := by intro _; rfl) :
    Itr Γ k nm ρ (.Name x pos) (.Call (.Name "range" ppos) [e] [] cpos) ((upFrom 0 n.toNat).map Mine.I) := by
  intro A env M s p Q hQ
  refine Call_ (load_glo ok p.en p.base g hk (by decide +kernel) ?_) (by rfl)
  refine Pv.callWith_type1 (args_cons (h A env M s p _ fun v h' tk k' iv => args_nil ?_) (he env)) (he env) (by rfl)
  obtain ⟨t, rfl⟩ := is_int.mp iv
  refine call_range_1 ?_
  have e0 : n.toNat = (n - 0).toNat := by rw [Int.sub_zero]
  rw [e0] at hQ
  exact range_tail (s := { s with heap := h', toks := tk }) (u := t) p.rm (p.keeps (tk := tk) k').live ⟨by decide, by decide⟩ hn k' fun I fp wr St h2 tk2 a b c d e => hQ I fp wr St h2 tk2 a b c d e
theorem itr_range2 {x : Str} {pos ppos cpos : Pos} {e1 e2 : PySem.Expr} {a b : Int} (ok : Γ.Ok) (g : Glo Γ "range" (.type "range")) (h1 : Ev Γ k nm ρ e1 (Mine.I a)) (h2 : Ev Γ k nm ρ e2 (Mine.I b)) (ha : smallInt a) (hb : smallInt b)
    (hk : nm.lookup ("range" : Str) = some .globalImplicit := by rfl) (he1 : ∀ env, starEach [e1, e2] env = (false, eval e1 env) :: starEach [e2] env := by intro _; rfl) (he : ∀ env, starEach [e2] env = [(false, eval e2 env)] := by intro _; rfl)
    (hpl : ∀ env, (backTo cpos (starEach [e2] env)).any (·.1) = false := by intro _; rfl) :
    Itr Γ k nm ρ (.Name x pos) (.Call (.Name "range" ppos) [e1, e2] [] cpos) ((upFrom a (b - a).toNat).map Mine.I) := by
  intro A env M s p Q hQ
  refine Call_ (load_glo ok p.en p.base g hk (by decide +kernel) ?_) (by rfl)
  refine Pv.callWith_type1 (args_cons (h1 A env M s p _ fun v h' tk k' iv => args_cons (h2 A env M _ (p.keeps k') _ fun w h2' tk2 k2 iw => args_nil ?_) (he env)) (he1 env)) (he1 env) (hpl env)
  obtain ⟨t, rfl⟩ := is_int.mp iv
  obtain ⟨u, rfl⟩ := is_int.mp iw
  refine call_range_2 ?_
  exact range_tail (s := { s with heap := h2', toks := tk2 }) p.rm ((p.keeps (tk := tk) k').keeps (tk := tk2) k2).live ha hb (k'.trans k2) fun I fp wr St h2 tk2 a b c d e => hQ I fp wr St h2 tk2 a b c d e

/-- the items with their places -/
def enumD (ds : List PyData) : List PyData := (List.range ds.length).zip ds |>.map fun p => .tuple [.int p.1, p.2]
theorem enumD_get {ds : List PyData} {i : Nat} {d : PyData} (h : (enumD ds)[i]? = some d) : ∃ e, ds[i]? = some e ∧ d = .tuple [.int i, e] := by
  unfold enumD at h
  rw [List.getElem?_map] at h
  cases q : ((List.range ds.length).zip ds)[i]? with
  | none => rw [q] at h; cases h
  | some z =>
    rw [q] at h; cases h
    rw [List.getElem?_zip_eq_some] at q
    obtain ⟨q1, q2⟩ := q
    have hi : i < ds.length := (List.getElem?_eq_some_iff.mp q2).1
    rw [List.getElem?_range hi] at q1
    cases q1
    exact ⟨_, q2, by simp_all⟩
theorem enumD_length (ds : List PyData) : (enumD ds).length = ds.length := by simp [enumD]

theorem src_enum {A : Around} (hh : A.handled = none) {es : List PySem.Expr} {kk : Nat} {pos : Pos} {e it ax : Addr} {base : Heap} {vs : Array Value} {ds : List PyData} (hei : e ≠ it) (hle : ax ≠ e) (hli : ax ≠ it)
    (q : All2 (fun v d => Is Γ base v (.py d)) vs.toList ds) :
    Src Γ A (.Tuple es kk pos) e base [e, it, ax] [e, it] ((enumD ds).map D.py) (fun i h => (∃ old, IsEnum h e it i old) ∧ h.IsListIter it ax i ∧ h.IsList ax vs) := by
  have W := WalksT.enumerate (prog := Γ.prog) (w := Γ.w) hh e it ax hei hle hli vs
  have hl : vs.size = ((enumD ds).map D.py).length := by rw [List.length_map, enumD_length, ← q.length, Array.length_toList]
  refine ⟨W.sub, W.frame, fun i h st b hb => ?_, fun i s M d Q hd st lm wm sb hQ => ?_, fun s Q st hQ => W.done s Q E0 (hl ▸ st) hQ, fun i s Q st hQ => W.self i s Q E0 st hQ⟩
  · simp at hb
    rcases hb with rfl | rfl
    · obtain ⟨⟨old, x⟩, _⟩ := st; exact ⟨_, x⟩
    · obtain ⟨_, ⟨o, x, _⟩, _⟩ := st; exact ⟨o, x⟩
  · have hi : i < vs.size := hl ▸ (List.getElem?_eq_some_iff.mp hd).1
    refine W.item i s _ _ hi st fun T vals h' tk hP hT hTup hm hk => ⟨_, rfl, W.go es kk pos i T _ _ _ hm fun h'' st' hk' => ?_⟩
    have kp : KpX [e, it] s.heap h'' := fun b o n x => hk' b o n (hk b o n x)
    refine hQ _ h'' tk ?_ st' kp
    rw [List.getElem?_map] at hd
    cases e0 : (enumD ds)[i]? with
    | none => rw [e0] at hd; cases hd
    | some d0 =>
      rw [e0] at hd; cases hd
      obtain ⟨d1, e1, rfl⟩ := enumD_get e0
      obtain ⟨t, x, hx, rfl⟩ := hP
      obtain ⟨w, hw, iw⟩ := q.get e1
      rw [Array.getElem?_toList, hx] at hw; cases hw
      have nM : T ∉ M := fun m => Nat.lt_irrefl _ (Nat.lt_of_lt_of_le (live_lt (lm T m)) hT)
      have hT' : T ∉ [e, it] := W.apart i T h' hm
      obtain ⟨o, ho, hc, n, hd⟩ := hTup
      refine is_tuple.mpr ⟨T, _, rfl, ⟨o, hd_get (hk' T o hT' ho) nM, hc, n, hd⟩, .cons (is_int.mpr ⟨t, rfl⟩) (.cons (iw.keeps (sb.trans (kp.hd wm))) .nil)⟩

theorem itr_enum {es : List PySem.Expr} {kk : Nat} {pos ppos cpos : Pos} {e : PySem.Expr} {ds : List PyData} (ok : Γ.Ok) (g : Glo Γ "enumerate" (.type "enumerate")) (h : Ev Γ k nm ρ e (.py (.list ds)))
    (hk : nm.lookup ("enumerate" : Str) = some .globalImplicit := by rfl) (he : ∀ env, starEach [e] env = [(false, eval e env)] := by intro _; rfl) :
    Itr Γ k nm ρ (.Tuple es kk pos) (.Call (.Name "enumerate" ppos) [e] [] cpos) ((enumD ds).map D.py) := by
  intro A env M s p Q hQ
  refine Call_ (load_glo ok p.en p.base g hk (by decide +kernel) ?_) (by rfl)
  refine Pv.callWith_type1 (args_cons (h A env M s p _ fun v h' tk k' iv => args_nil ?_) (he env)) (he env) (by rfl)
  obtain ⟨a, vs, rfl, hl, q⟩ := is_list.mp iv
  have hl' : h'.IsList a vs := isList_sub (hd_sub M h') hl
  refine call_enumerate_list hl' fun h2 i1 i2 hsz k2 => ?_
  dsimp only at i1 i2 hsz k2 ⊢
  have lt : a < h'.objs.size := by obtain ⟨o, x, _⟩ := hl'; exact Heap.lt_size x
  have S := src_enum (Γ := Γ) p.rm.handled (es := es) (kk := kk) (pos := pos) (e := h'.objs.size + 1) (it := h'.objs.size) (ax := a) (base := Hd ([h'.objs.size + 1, h'.objs.size] ++ M) h2) (vs := vs) (ds := ds) (Nat.succ_ne_self _) (Nat.ne_of_lt (Nat.lt_succ_of_lt lt)) (Nat.ne_of_lt lt) (q.imp fun _ _ r => r.keeps (hd_fresh k2 fun b hb q => by
    have := live_lt q
    simp at hb
    rcases hb with rfl | rfl
    · exact absurd this (Nat.not_lt.mpr (Nat.le_succ _))
    · exact Nat.lt_irrefl _ this))
  have st : (∃ old, IsEnum h2 (h'.objs.size + 1) h'.objs.size (0 : Nat) old) ∧ h2.IsListIter h'.objs.size a 0 ∧ h2.IsList a vs := ⟨⟨_, i1⟩, i2, isList_sub k2 hl'⟩
  refine wpAny_mono (S.self 0 _ _ st (hQ _ _ _ _ h2 tk S st (k'.trans k2) (fun b hb q => ?_) fun b hb => ?_)) (fun _ _ x => x) fun _ _ x => x
  · have := live_lt (q.sub k')
    simp at hb
    rcases hb with rfl | rfl
    · exact absurd this (Nat.not_lt.mpr (Nat.le_succ _))
    · exact Nat.lt_irrefl _ this
  · simp at hb
    rcases hb with rfl | rfl | rfl
    · exact .inl (by simp)
    · exact .inl (by simp)
    · obtain ⟨o, x, _⟩ := hl
      exact .inr ⟨o, hd_sub_sub k2 _ _ x⟩
end
end Mine
namespace Mine
open PySem PySem.Calls PySem.Spec PyProof.Rows PySem.W

abbrev testsT (ifs : List PySem.Expr) (env : Env) : Sem Bool :=
  forIn ifs true fun c r => if r = true then do let ok ← isTrue c env (eval c env); pure (ForInStep.yield ok) else pure (ForInStep.yield r)

section
variable {M : Model} {A : Around} {E : Value → Shared → Prop} {s : Shared} {elt target iter : PySem.Expr} {ifs : List PySem.Expr} {gens : List Comprehension} {scope : Scope} {pos : Pos} {depth : Nat} {it acc : Value} {env : Env}
theorem wp_turn_last {Q : PySem.Fin → Shared → Prop} (hg : gens[depth]? = some ⟨target, iter, ifs, 0⟩) (hn : gens[depth + 1]? = none)
    (h : wpAny M A (pyNext it) (fun r s₁ => match r with
      | none => Q (.done .next) s₁
      | some v => wpAny M A (letOwnedTupleGo target it v) (fun _ s₂ => wpAny M A (assign target env v) (fun _ s₃ => wpAny M A (testsT ifs env) (fun ok s₄ =>
          if ok = true then wpAny M A (eval elt env) (fun x s₅ => wpAny M A (call (.builtin "list.append") [acc, x]) (fun _ s₆ => Q (.again (.compLoop (.ListComp elt gens scope pos) depth it acc env)) s₆) E s₅) E s₄
          else Q (.again (.compLoop (.ListComp elt gens scope pos) depth it acc env)) s₄) E s₃) E s₂) E s₁) E s) :
    wpAny M A (compTurn (.ListComp elt gens scope pos) depth it acc env) Q E s := by
  unfold compTurn
  simp only [hg, hn, bne_self_eq_false, Bool.false_eq_true, if_false]
  refine wpAny_bind (wpAny_standAt (wpAny_bind (wpAny_mono h (fun r s₁ h₁ => ?_) fun _ _ x => x)))
  cases r with
  | none => exact wpAny_pure h₁
  | some v =>
    refine wpAny_bind (wpAny_mono h₁ (fun _ s₂ h₂ => wpAny_bind (wpAny_mono h₂ (fun _ s₃ h₃ => wpAny_bind (wpAny_mono h₃ (fun ok s₄ h₄ => ?_) fun _ _ x => x)) fun _ _ x => x)) fun _ _ x => x)
    cases ok with
    | false => exact wpAny_pure h₄
    | true =>
      exact wpAny_bind (wpAny_bind (wpAny_mono h₄ (fun x s₅ h₅ => wpAny_bind (wpAny_mono h₅ (fun _ s₆ h₆ => wpAny_pure (wpAny_pure h₆)) fun _ _ x => x)) fun _ _ x => x))
theorem wp_turn_next {Q : PySem.Fin → Shared → Prop} {target' iter' : PySem.Expr} {ifs' : List PySem.Expr} (hg : gens[depth]? = some ⟨target, iter, ifs, 0⟩) (hn : gens[depth + 1]? = some ⟨target', iter', ifs', 0⟩)
    (hs : ∀ x, foldedSetIterable iter' env x = pure x)
    (h : wpAny M A (pyNext it) (fun r s₁ => match r with
      | none => Q (.done .next) s₁
      | some v => wpAny M A (letOwnedTupleGo target it v) (fun _ s₂ => wpAny M A (assign target env v) (fun _ s₃ => wpAny M A (testsT ifs env) (fun ok s₄ =>
          if ok = true then wpAny M A (eval iter' env) (fun x s₅ => wpAny M A (pyIter x) (fun it' s₆ => wpAny M A (runOwn (.compStart (.ListComp elt gens scope pos) (depth + 1) it' acc env) env)
            (fun _ s₇ => Q (.again (.compLoop (.ListComp elt gens scope pos) depth it acc env)) s₇) E s₆) E s₅) E s₄
          else Q (.again (.compLoop (.ListComp elt gens scope pos) depth it acc env)) s₄) E s₃) E s₂) E s₁) E s) :
    wpAny M A (compTurn (.ListComp elt gens scope pos) depth it acc env) Q E s := by
  unfold compTurn
  simp only [hg, hn, bne_self_eq_false, Bool.false_eq_true, if_false]
  refine wpAny_bind (wpAny_standAt (wpAny_bind (wpAny_mono h (fun r s₁ h₁ => ?_) fun _ _ x => x)))
  cases r with
  | none => exact wpAny_pure h₁
  | some v =>
    refine wpAny_bind (wpAny_mono h₁ (fun _ s₂ h₂ => wpAny_bind (wpAny_mono h₂ (fun _ s₃ h₃ => wpAny_bind (wpAny_mono h₃ (fun ok s₄ h₄ => ?_) fun _ _ x => x)) fun _ _ x => x)) fun _ _ x => x)
    cases ok with
    | false => exact wpAny_pure h₄
    | true =>
      simp only [if_true] at h₄ ⊢
      refine wpAny_bind (wpAny_mono h₄ (fun x s₅ h₅ => wpAny_bind (wpAny_standAt (wpAny_bind (wpAny_of_eq (hs x) ?_)))) fun _ _ x => x)
      exact wpAny_bind (wpAny_holding (wpAny_mono h₅ (fun it' s₆ h₆ => wpAny_bind (wpAny_mono h₆ (fun _ s₇ h₇ => wpAny_pure h₇) fun _ _ x => x)) fun _ _ x => x))
end

section
variable {prog : Program} {w : World} {A : Around} {s : Shared} {R : Result → Shared → Prop} {elt : PySem.Expr} {gens : List Comprehension} {scope : Scope} {pos : Pos} {depth : Nat} {it acc : Value} {env : Env}
theorem comp_start {g : Comprehension} (hg : gens[depth]? = some g) (ha : g.is_async = 0)
    (h0 : codeAny (model prog w) A (.compLoop (.ListComp elt gens scope pos) depth it acc env) R s)
    (h : wpAny (model prog w) A (pyIter it) (fun it' s' => codeAny (model prog w) A (.compLoop (.ListComp elt gens scope pos) depth it' acc env) R s') E0 s) :
    codeAny (model prog w) A (.compStart (.ListComp elt gens scope pos) depth it acc env) R s := by
  refine codeAny_of_tree ?_
  show wpAny _ _ ((compStart (.ListComp elt gens scope pos) depth it acc env).onRaise (fun x => do noteFrame x env; standAt theWindowsPlace)) _ _ s
  refine wpAny_onRaise ?_
  unfold compStart
  simp only [clausesOf, hg, Option.elim, ha, bne_self_eq_false, Bool.false_eq_true, if_false]
  refine wpAny_bind (wpAny_askSetting (wpAny_ite ?_))
  split
  · exact wpAny_bind (wpAny_pure (wpAny_pure (And.intro rfl h0)))
  · exact wpAny_bind (wpAny_rule (wpAny_bind (wpAny_standAt (wpAny_bind (wpAny_mono h (fun it' s' h' => wpAny_pure (And.intro rfl h')) fun _ _ x => x.elim)))))
end
end Mine
namespace Mine
open PySem PySem.Calls PySem.Spec PyProof.Rows PySem.W

section
variable {Γ : Gl} {k : Nat} {nm : List (Str × NameKind)} {ρ : Ctx0}

/-- the tests of a clause -/
def Ets (Γ : Gl) (k : Nat) (nm : List (Str × NameKind)) (ρ : Ctx0) (ifs : List PySem.Expr) (b : Bool) : Prop :=
  ∀ A env M s, Pre Γ k nm ρ A env M s → ∀ Q : Bool → Shared → Prop, (∀ h' tk, Sub s.heap h' → Q b { s with heap := h', toks := tk }) → wpAny (model Γ.prog Γ.w) A (testsT ifs env) Q E0 s
theorem ets_nil : Ets Γ k nm ρ [] true := fun A env M s p Q hQ => wpAny_pure (hQ s.heap s.toks (Sub.refl _))
theorem ets_one {c : PySem.Expr} {b : Bool} (h : Et Γ k nm ρ c b) : Ets Γ k nm ρ [c] b := by
  intro A env M s p Q hQ
  unfold testsT
  simp only [List.forIn_cons, List.forIn_nil, if_true]
  exact wpAny_bind (wpAny_bind (h A env M s p _ fun h' tk k' => wpAny_pure (wpAny_pure (hQ h' tk k'))))

/-- a comprehension under way: its frame (at X), its list (at D0) and what lies in it -/
structure CI (Γ : Gl) (k : Nat) (nm : List (Str × NameKind)) (xs : List Str) (A : Around) (env : Env) (X : List Addr) (D0 : Addr) (M : List Addr) (ρ : Ctx0) (s : Shared) (ys : Array Value) (out : List D) : Prop where
  pre : Pre Γ k nm ρ A env M s
  frm : Frm nm xs env X s.heap
  xm : ∀ a ∈ X, a ∈ M
  bx : ∀ a ∈ X, ¬ Live Γ.B a
  dm : D0 ∈ M
  bd : ¬ Live Γ.B D0
  dx : D0 ∉ X
  dc : ∀ x c, env.cells.lookup x = some c → c ≠ D0
  acc : PlainL s.heap D0 ys
  items : All2 (Is Γ (Hd M s.heap)) ys.toList out

theorem CI.sub {xs : List Str} {A : Around} {env : Env} {X : List Addr} {D0 : Addr} {M : List Addr} {s : Shared} {ys : Array Value} {out : List D} (c : CI Γ k nm xs A env X D0 M ρ s ys out) {h' : Heap} {tk : Nat} (x : Sub s.heap h') :
    CI Γ k nm xs A env X D0 M ρ { s with heap := h', toks := tk } ys out :=
  ⟨c.pre.keeps x, c.frm.sub x, c.xm, c.bx, c.dm, c.bd, c.dx, c.dc, c.acc.keeps x, c.items.imp fun _ _ r => r.keeps (hd_sub_sub x)⟩
theorem CI.loc {xs : List Str} {A : Around} {env : Env} {X : List Addr} {D0 : Addr} {M : List Addr} {s : Shared} {ys : Array Value} {out : List D} (c : CI Γ k nm xs A env X D0 M ρ s ys out) : env.locals ≠ D0 := fun q => c.dx (q ▸ c.frm.loc)

/-- a change at addresses that are no part of what a frame sees -/
theorem frm_off {xs : List Str} {env : Env} {X Y : List Addr} {h h' : Heap} (f : Frm nm xs env X h) (k : KpX Y h h') (n : env.locals ∉ Y) (c : ∀ x c, env.cells.lookup x = some c → c ∉ Y) : Frm nm xs env X h' where
  ns := let ⟨m, ⟨o, es, ep, e, r⟩⟩ := f.ns; ⟨m, ⟨o, es, ep, k _ _ n e, r⟩⟩
  loc := f.loc
  own := fun x hx => (f.own x hx).imp id fun ⟨a, c', b, d, ⟨v', ⟨o, e, r⟩⟩, g⟩ => ⟨a, c', b, d, ⟨v', ⟨o, k _ _ (c _ _ b) e, r⟩⟩, g⟩
theorem names_off {env : Env} {M Y : List Addr} {h h' : Heap} (f : Names Γ M h env ρ) (k : KpX Y h h') (n : env.locals ∉ Y) (c : ∀ x c, env.cells.lookup x = some c → c ∉ Y) (m : ∀ a ∈ Y, a ∈ M) : Names Γ M h' env ρ := fun x e hx => by
  obtain ⟨w, r, i⟩ := f x e hx
  refine ⟨w, ?_, i.keeps (k.hd m)⟩
  rcases r with ⟨a, m, ⟨o, es, ep, e, r⟩, e2⟩ | ⟨a, c', b, ⟨o, e, r⟩⟩
  · exact .inl ⟨a, m, ⟨o, es, ep, k _ _ n e, r⟩, e2⟩
  · exact .inr ⟨a, c', b, ⟨o, k _ _ (c _ _ b) e, r⟩⟩

/-- an item more -/
theorem CI.push {xs : List Str} {A : Around} {env : Env} {X : List Addr} {D0 : Addr} {M : List Addr} {s : Shared} {ys : Array Value} {out : List D} (c : CI Γ k nm xs A env X D0 M ρ s ys out) {v : Value} {d : D} (iv : Is Γ (Hd M s.heap) v d)
    (hsz : out.length < sizeLine) {Q : Value → Shared → Prop} (hQ : ∀ h', KpX [D0] s.heap h' → CI Γ k nm xs A env X D0 M ρ { s with heap := h' } (ys.push v) (out ++ [d]) → Q .none { s with heap := h' }) :
    wpAny (model Γ.prog Γ.w) A (call (.builtin "list.append") [.ref D0, v]) Q E0 s := by
  have hl : ys.size = out.length := by rw [← c.items.length, Array.length_toList]
  refine list_append_plainL c.acc (fun h' hl' hs => ?_) (by omega)
  have kp : KpX [D0] s.heap h' := sameBut_kpx hs (by simp)
  have lv : ∀ a, Live s.heap a → Live h' a := fun a q => kp.live (fun b hb => by simp at hb; subst hb; obtain ⟨o', _, e', _⟩ := hl'; exact ⟨o', e'⟩) q
  have m1 : ∀ a ∈ [D0], a ∈ M := fun a h => by simp at h; subst h; exact c.dm
  have n1 : env.locals ∉ [D0] := fun h => by simp at h; exact c.loc h
  have n2 : ∀ x c', env.cells.lookup x = some c' → c' ∉ [D0] := fun x c' h q => by simp at q; exact c.dc x c' h q
  refine hQ h' kp ⟨⟨c.pre.rm, c.pre.en, fun b o e => kp b o (fun q => by simp at q; subst q; exact c.bd ⟨o, e⟩) (c.pre.base b o e), fun a q => lv a (c.pre.live a q), names_off c.pre.names kp n1 n2 m1, fun x c' e => lv c' (c.pre.cells x c' e)⟩, frm_off c.frm kp n1 n2, c.xm, c.bx, c.dm, c.bd, c.dx, c.dc, hl', ?_⟩
  rw [Array.toList_push]
  exact (c.items.imp fun _ _ r => r.keeps (kp.hd m1)).append (.cons (iv.keeps (kp.hd m1)) .nil)

abbrev InnerOk (Γ : Gl) (A : Around) (elt : PySem.Expr) (gens : List Comprehension) (scope : Scope) (pos : Pos) (depth : Nat) (D0 : Addr) (env : Env) (Q : Shared → Prop) (s : Shared) : Prop :=
  match gens[depth]? with
  | none => wpAny (model Γ.prog Γ.w) A (eval elt env) (fun x s₅ => wpAny (model Γ.prog Γ.w) A (call (.builtin "list.append") [.ref D0, x]) (fun _ s₆ => Q s₆) E0 s₅) E0 s
  | some g => wpAny (model Γ.prog Γ.w) A (eval g.iter env) (fun x s₅ => wpAny (model Γ.prog Γ.w) A (pyIter x) (fun it' s₆ =>
        wpAny (model Γ.prog Γ.w) A (runOwn (.compStart (.ListComp elt gens scope pos) depth it' (.ref D0) env) env) (fun _ s₇ => Q s₇) E0 s₆) E0 s₅) E0 s

/-- the inner part of a comprehension: it adds the data of new -/
def Bk (Γ : Gl) (k : Nat) (nm : List (Str × NameKind)) (xs : List Str) (elt : PySem.Expr) (gens : List Comprehension) (scope : Scope) (pos : Pos) (depth : Nat) (ρ : Ctx0) (new : List D) : Prop :=
  ∀ A env X D0 M s ys out, CI Γ k nm xs A env X D0 M ρ s ys out → out.length + new.length ≤ sizeLine → ∀ Q : Shared → Prop,
    (∀ h' tk ys', KpX (D0 :: X) s.heap h' → CI Γ k nm xs A env X D0 M ρ { s with heap := h', toks := tk } ys' (out ++ new) → Q { s with heap := h', toks := tk }) →
    InnerOk Γ A elt gens scope pos depth D0 env Q s

theorem bk_emit {xs : List Str} {elt : PySem.Expr} {gens : List Comprehension} {scope : Scope} {pos : Pos} {depth : Nat} {d : D} (hn : gens[depth]? = none) (h : Ev Γ k nm ρ elt d) : Bk Γ k nm xs elt gens scope pos depth ρ [d] := by
  intro A env X D0 M s ys out c hsz Q hQ
  unfold InnerOk
  rw [hn]
  refine h A env M s c.pre _ fun v h' tk k' iv => ?_
  exact (c.sub (tk := tk) k').push iv (by simp at hsz; omega) fun h2 kp c2 => hQ h2 tk _ (k'.kpx.trans fun b o n e => kp b o (fun q => n (by simp at q; subst q; exact .head _)) e) c2

/-- the state of a loop before turn i -/
structure LI (Γ : Gl) (k : Nat) (nm : List (Str × NameKind)) (xs : List Str) (A : Around) (env : Env) (X : List Addr) (D0 : Addr) (M : List Addr) (ρ : Ctx0) (base : Heap) (wr : List Addr) (St : Nat → Heap → Prop) (h0 : Heap) (i : Nat) (s : Shared) (out : List D) : Prop where
  st : St i s.heap
  kp : KpX (D0 :: X ++ wr) h0 s.heap
  sb : Sub base (Hd M s.heap)
  ci : ∃ ys, CI Γ k nm xs A env X D0 M ρ s ys out

/-- one turn -/
theorem comp_step {xs : List Str} {elt target : PySem.Expr} {ifs : List PySem.Expr} {gens : List Comprehension} {scope : Scope} {pos : Pos} {depth : Nat}
    {ds : List D} {d : D} {bs : Ctx0} {p : Bool} {f : List D} (hbs : As Γ k nm xs target d bs) (hfresh : ∀ x, (bs.lookup x).isSome = true → ρ.lookup x = none)
    (htest : Ets Γ k nm (bs ++ ρ) ifs p) (hin : p = true → Bk Γ k nm xs elt gens scope pos (depth + 1) (bs ++ ρ) f)
    {A : Around} {env : Env} {X : List Addr} {D0 : Addr} {M : List Addr} {I : Addr} {base : Heap} {fp wr : List Addr} {St : Nat → Heap → Prop}
    (S : Src Γ A target I base fp wr ds St) (hfp : ∀ b ∈ fp, b ∉ X ∧ b ≠ D0) (hwB : ∀ b ∈ wr, ¬ Live Γ.B b) (wm : ∀ b ∈ wr, b ∈ M)
    (hwN : env.locals ∉ wr ∧ (∀ x c, env.cells.lookup x = some c → c ∉ wr)) {h0 : Heap} {i : Nat} {s : Shared} {out : List D} (L : LI Γ k nm xs A env X D0 M ρ base wr St h0 i s out) (hd : ds[i]? = some d)
    (hsz : out.length + (if p then f else []).length ≤ sizeLine) {Q : Shared → Prop} {N : Shared → Prop}
    (hQ : ∀ h' tk, LI Γ k nm xs A env X D0 M ρ base wr St h0 (i + 1) { s with heap := h', toks := tk } (out ++ if p then f else []) → Q { s with heap := h', toks := tk }) :
    wpAny (model Γ.prog Γ.w) A (pyNext (.ref I)) (fun r s₁ => match r with
      | none => N s₁
      | some v => wpAny (model Γ.prog Γ.w) A (letOwnedTupleGo target (.ref I) v) (fun _ s₂ => wpAny (model Γ.prog Γ.w) A (assign target env v) (fun _ s₃ => wpAny (model Γ.prog Γ.w) A (testsT ifs env) (fun ok s₄ =>
          if ok = true then InnerOk Γ A elt gens scope pos (depth + 1) D0 env Q s₄ else Q s₄) E0 s₃) E0 s₂) E0 s₁) E0 s := by
  obtain ⟨ys, ci⟩ := L.ci
  refine wpAny_mono (S.step i s M d (fun v s₂ => wpAny (model Γ.prog Γ.w) A (assign target env v) (fun _ s₃ => wpAny (model Γ.prog Γ.w) A (testsT ifs env) (fun ok s₄ =>
          if ok = true then InnerOk Γ A elt gens scope pos (depth + 1) D0 env Q s₄ else Q s₄) E0 s₃) E0 s₂) hd L.st ci.pre.live wm L.sb fun v h1 tk1 iv st1 k1 => ?_) (fun r s₁ h => ?_) fun _ _ x => x
  rotate_left
  · obtain ⟨v, e, q⟩ := h; subst e; exact q
  have kM : Sub (Hd M s.heap) (Hd M h1) := KpX.hd k1 wm
  have live1 : ∀ a ∈ M, Live h1 a := fun a m => KpX.live k1 (fun b hb => S.alive _ _ st1 b hb) (ci.pre.live a m)
  have frm1 := frm_off ci.frm k1 hwN.1 hwN.2
  have pre1 : Pre Γ k nm ρ A env M { s with heap := h1, toks := tk1 } := ⟨ci.pre.rm, ci.pre.en, fun b o e => k1 b o (fun q => hwB b q ⟨o, e⟩) (ci.pre.base b o e), live1, names_off ci.pre.names k1 hwN.1 hwN.2 wm, fun x c e => KpX.live k1 (fun b hb => S.alive _ _ st1 b hb) (ci.pre.cells x c e)⟩
  have dwr : D0 ∉ wr := fun q => (hfp D0 (S.sub D0 q)).2 rfl
  have acc1 : PlainL h1 D0 ys := let ⟨o, n, e, r⟩ := ci.acc; ⟨o, n, k1 _ _ dwr e, r⟩
  refine hbs ρ A env M X _ v pre1 frm1 ci.xm ci.bx iv _ fun h2 tk2 k2 l2 p2 f2 r2 => ?_
  have acc2 : PlainL h2 D0 ys := let ⟨o, n, e, r⟩ := acc1; ⟨o, n, k2 _ _ ci.dx e, r⟩
  have ci2 : CI Γ k nm xs A env X D0 M (bs ++ ρ) { s with heap := h2, toks := tk2 } ys out := ⟨p2, f2, ci.xm, ci.bx, ci.dm, ci.bd, ci.dx, ci.dc, acc2, ci.items.imp fun _ _ r => r.keeps (kM.trans (KpX.hd k2 ci.xm))⟩
  have st2 : St (i + 1) h2 := S.frame _ _ _ st1 fun b hb o e => k2 b o (hfp b hb).1 e
  have drop : ∀ {s' : Shared} {ys' : Array Value} {out' : List D}, CI Γ k nm xs A env X D0 M (bs ++ ρ) s' ys' out' → CI Γ k nm xs A env X D0 M ρ s' ys' out' := fun c => ⟨⟨c.pre.rm, c.pre.en, c.pre.base, c.pre.live, fun x e hx => c.pre.names x e (by
      rw [List.lookup_append]
      cases hb : bs.lookup x with
      | none => simpa using hx
      | some e' => rw [hfresh x (by rw [hb]; rfl)] at hx; cases hx), c.pre.cells⟩, c.frm, c.xm, c.bx, c.dm, c.bd, c.dx, c.dc, c.acc, c.items⟩
  have kp2 : KpX (D0 :: X ++ wr) h0 h2 := (L.kp.trans fun b o n e => k1 b o (fun q => n (List.mem_append.mpr (.inr q))) e).trans fun b o n e => k2 b o (fun q => n (List.mem_append.mpr (.inl (.tail _ q)))) e
  have sb2 : Sub base (Hd M h2) := (L.sb.trans kM).trans (KpX.hd k2 ci.xm)
  refine htest A env M _ p2 _ fun h3 tk3 k3 => ?_
  have ci3 := ci2.sub (tk := tk3) k3
  cases p with
  | false =>
    simp only [Bool.false_eq_true, if_false, List.append_nil] at hQ ⊢
    exact hQ h3 tk3 ⟨S.frame _ _ _ st2 fun b _ o e => k3 b o e, kp2.trans k3.kpx, sb2.trans (hd_sub_sub k3), _, drop ci3⟩
  | true =>
    simp only [if_true] at hQ hsz ⊢
    refine hin rfl A env X D0 M _ _ _ ci3 hsz Q fun h4 tk4 ys4 k4 c4 => hQ h4 tk4 ⟨S.frame _ _ _ st2 fun b hb o e => k4 b o (fun q => ?_) (k3 b o e), ?_, ?_, _, drop c4⟩
    · rcases List.mem_cons.mp q with q | q
      · exact (hfp b hb).2 q
      · exact (hfp b hb).1 q
    · exact (kp2.trans k3.kpx).trans fun b o n e => k4 b o (fun q => n (List.mem_append.mpr (.inl q))) e
    · refine (sb2.trans (hd_sub_sub k3)).trans (KpX.hd k4 fun a q => ?_)
      rcases List.mem_cons.mp q with q | q
      · subst q; exact ci.dm
      · exact ci.xm a q

theorem ofE0 {α : Type} {M : Model} {A : Around} {t : Sem α} {Q : α → Shared → Prop} {E : Value → Shared → Prop} {s : Shared} (h : wpAny M A t Q E0 s) : wpAny M A t Q E s := wpAny_mono h (fun _ _ q => q) fun _ _ x => x.elim

/-- a loop of a comprehension -/
theorem comp_loop {xs : List Str} {elt target iter : PySem.Expr} {ifs : List PySem.Expr} {gens : List Comprehension} {scope : Scope} {pos : Pos} {depth : Nat} (hg : gens[depth]? = some ⟨target, iter, ifs, 0⟩)
    (hnx : ∀ g, gens[depth + 1]? = some g → g.is_async = 0 ∧ ∀ env x, foldedSetIterable g.iter env x = pure x)
    {α : Type} {ds : List α} {enc : α → D} {bs : α → Ctx0} {p : α → Bool} {f : α → List D} (hbs : ∀ d ∈ ds, As Γ k nm xs target (enc d) (bs d)) (hfresh : ∀ d ∈ ds, ∀ x, ((bs d).lookup x).isSome = true → ρ.lookup x = none)
    (htest : ∀ d ∈ ds, Ets Γ k nm (bs d ++ ρ) ifs (p d)) (hin : ∀ d ∈ ds, p d = true → Bk Γ k nm xs elt gens scope pos (depth + 1) (bs d ++ ρ) (f d))
    {A : Around} {env : Env} {X : List Addr} {D0 : Addr} {M : List Addr} {I : Addr} {base : Heap} {fp wr : List Addr} {St : Nat → Heap → Prop}
    (S : Src Γ A target I base fp wr (ds.map enc) St) (hfp : ∀ b ∈ fp, b ∉ X ∧ b ≠ D0) (hwB : ∀ b ∈ wr, ¬ Live Γ.B b) (wm : ∀ b ∈ wr, b ∈ M)
    (hwN : env.locals ∉ wr ∧ (∀ x c, env.cells.lookup x = some c → c ∉ wr)) {s : Shared} {out : List D} (L : LI Γ k nm xs A env X D0 M ρ base wr St s.heap 0 s out)
    (hsz : out.length + (ds.flatMap fun d => if p d then f d else []).length ≤ sizeLine) {R : Result → Shared → Prop}
    (hR : ∀ h' tk, (∃ h'' tk'', LI Γ k nm xs A env X D0 M ρ base wr St s.heap ds.length { s with heap := h'', toks := tk'' } (out ++ ds.flatMap fun d => if p d then f d else []) ∧ KpX wr h'' h') → R (.ok .next) { s with heap := h', toks := tk }) :
    codeAny (model Γ.prog Γ.w) A (.compLoop (.ListComp elt gens scope pos) depth (.ref I) (.ref D0) env) R s := by
  refine codeAny_loop rfl
    (fun n s' => ∃ i h' tk, n = ds.length - i ∧ i ≤ ds.length ∧ s' = { s with heap := h', toks := tk } ∧ LI Γ k nm xs A env X D0 M ρ base wr St s.heap i { s with heap := h', toks := tk } (out ++ (ds.take i).flatMap fun d => if p d then f d else []))
    ?_ ds.length ⟨0, s.heap, s.toks, rfl, Nat.zero_le _, rfl, by simpa using L⟩
  rintro n s' ⟨i, h, tk, rfl, hi, rfl, L'⟩
  show wpAny _ A ((compTurn (.ListComp elt gens scope pos) depth (.ref I) (.ref D0) env).onRaise (fun x => do noteFrame x env; theTreesLotGoes x)) _ _ _
  refine wpAny_onRaise (ofE0 ?_)
  by_cases hlt : i < ds.length
  · obtain ⟨d, hd⟩ : ∃ d, ds[i]? = some d := ⟨ds[i], List.getElem?_eq_getElem hlt⟩
    have hdm : d ∈ ds := List.mem_of_getElem? hd
    have htk : ds.take (i + 1) = ds.take i ++ [d] := by simp [List.take_add_one, hd]
    have e0 : out ++ (ds.take (i + 1)).flatMap (fun d => if p d then f d else []) = (out ++ (ds.take i).flatMap fun d => if p d then f d else []) ++ if p d then f d else [] := by
      rw [htk, List.flatMap_append, List.append_assoc]; simp
    have hsz' : (out ++ (ds.take i).flatMap fun d => if p d then f d else []).length + (if p d then f d else []).length ≤ sizeLine := by
      have e1 : ((ds.take (i + 1)).flatMap fun d => if p d then f d else []).length ≤ (ds.flatMap fun d => if p d then f d else []).length := by
        conv => rhs; rw [← List.take_append_drop (i + 1) ds]
        rw [List.flatMap_append, List.length_append]
        exact Nat.le_add_right _ _
      have e2 := congrArg List.length e0
      simp only [List.length_append] at e2 ⊢
      omega
    have hd' : (ds.map enc)[i]? = some (enc d) := by rw [List.getElem?_map, hd]; rfl
    have key := comp_step (N := fun _ => False) (Q := fun s' => ∃ m, m < ds.length - i ∧ ∃ i h' tk, m = ds.length - i ∧ i ≤ ds.length ∧ s' = { s with heap := h', toks := tk } ∧ LI Γ k nm xs A env X D0 M ρ base wr St s.heap i { s with heap := h', toks := tk } (out ++ (ds.take i).flatMap fun d => if p d then f d else []))
      (hbs d hdm) (hfresh d hdm) (htest d hdm) (hin d hdm) S hfp hwB wm hwN L' hd' hsz' fun h' tk' l => ⟨ds.length - (i + 1), by omega, i + 1, h', tk', rfl, hlt, rfl, e0 ▸ l⟩
    cases hn : gens[depth + 1]? with
    | none =>
      refine wp_turn_last hg hn (wpAny_mono key (fun r s₁ h₁ => ?_) fun _ _ x => x)
      cases r with
      | none => exact h₁.elim
      | some v =>
        refine wpAny_mono h₁ (fun _ _ h₂ => wpAny_mono h₂ (fun _ _ h₃ => wpAny_mono h₃ (fun ok _ h₄ => ?_) fun _ _ x => x) fun _ _ x => x) fun _ _ x => x
        cases ok with
        | false => exact ⟨rfl, h₄⟩
        | true =>
          simp only [if_true] at h₄ ⊢
          unfold InnerOk at h₄
          rw [hn] at h₄
          exact wpAny_mono h₄ (fun _ _ h₅ => wpAny_mono h₅ (fun _ _ h₆ => ⟨trivial, h₆⟩) fun _ _ x => x) fun _ _ x => x
    | some g =>
      obtain ⟨ha, hfs⟩ := hnx g hn
      obtain ⟨t', i', f', a'⟩ := g
      have ha' : a' = 0 := ha
      subst ha'
      refine wp_turn_next hg hn (hfs env) (wpAny_mono key (fun r s₁ h₁ => ?_) fun _ _ x => x)
      cases r with
      | none => exact h₁.elim
      | some v =>
        refine wpAny_mono h₁ (fun _ _ h₂ => wpAny_mono h₂ (fun _ _ h₃ => wpAny_mono h₃ (fun ok _ h₄ => ?_) fun _ _ x => x) fun _ _ x => x) fun _ _ x => x
        cases ok with
        | false => exact ⟨rfl, h₄⟩
        | true =>
          simp only [if_true] at h₄ ⊢
          unfold InnerOk at h₄
          rw [hn] at h₄
          exact wpAny_mono h₄ (fun _ _ h₅ => wpAny_mono h₅ (fun _ _ h₆ => wpAny_mono h₆ (fun _ _ h₇ => ⟨trivial, h₇⟩) fun _ _ x => x) fun _ _ x => x) fun _ _ x => x
  · have hi' : i = ds.length := by omega
    subst hi'
    rw [List.take_length] at L'
    cases hn : gens[depth + 1]? with
    | none => exact wp_turn_last hg hn (S.done _ _ (by rw [List.length_map]; exact L'.st) fun h' tk' k' => hR h' tk' ⟨h, tk, L', k'⟩)
    | some g =>
      obtain ⟨ha, hfs⟩ := hnx g hn
      obtain ⟨t', i', f', a'⟩ := g
      have ha' : a' = 0 := ha
      subst ha'
      exact wp_turn_next hg hn (hfs env) (S.done _ _ (by rw [List.length_map]; exact L'.st) fun h' tk' k' => hR h' tk' ⟨h, tk, L', k'⟩)
end
end Mine
namespace Mine
open PySem PySem.Calls PySem.Spec PyProof.Rows PySem.W

section
variable {Γ : Gl} {k : Nat} {nm : List (Str × NameKind)} {ρ : Ctx0}

/-- more addresses hidden: those of a new iterator -/
theorem CI.more {xs : List Str} {A : Around} {env : Env} {X : List Addr} {D0 : Addr} {M : List Addr} {s : Shared} {ys : Array Value} {out : List D} (c : CI Γ k nm xs A env X D0 M ρ s ys out) {wr : List Addr} {h : Heap} {tk : Nat}
    (x : Sub s.heap h) (n : ∀ b ∈ wr, ¬ Live s.heap b) (l : ∀ b ∈ wr, Live h b) : CI Γ k nm xs A env X D0 (wr ++ M) ρ { s with heap := h, toks := tk } ys out where
  pre := ⟨c.pre.rm, c.pre.en, c.pre.base.trans x, fun a m => (List.mem_append.mp m).elim (l a) fun m => (c.pre.live a m).sub x,
    fun y e hy => let ⟨w, r, i⟩ := c.pre.names y e hy; ⟨w, r.keeps x, i.keeps (hd_fresh x n)⟩, fun y c' e => (c.pre.cells y c' e).sub x⟩
  frm := c.frm.sub x
  xm := fun a m => List.mem_append.mpr (.inr (c.xm a m))
  bx := c.bx
  dm := List.mem_append.mpr (.inr c.dm)
  bd := c.bd
  dx := c.dx
  dc := c.dc
  acc := c.acc.keeps x
  items := c.items.imp fun _ _ r => r.keeps (hd_fresh x n)
theorem CI.less {xs : List Str} {A : Around} {env : Env} {X : List Addr} {D0 : Addr} {M : List Addr} {s : Shared} {ys : Array Value} {out : List D} {wr : List Addr} {h h' : Heap} {tk tk' : Nat}
    (c : CI Γ k nm xs A env X D0 (wr ++ M) ρ { s with heap := h, toks := tk } ys out) (x : KpX wr h h') (nm' : ∀ b ∈ wr, b ∉ M) (hB : ∀ b ∈ wr, ¬ Live Γ.B b) (nl : env.locals ∉ wr) (nc : ∀ x c, env.cells.lookup x = some c → c ∉ wr)
    (xm : ∀ a ∈ X, a ∈ M) (dm : D0 ∈ M) : CI Γ k nm xs A env X D0 M ρ { s with heap := h', toks := tk' } ys out := by
  have hd : Sub (Hd (wr ++ M) h) (Hd M h') := fun b o e => hd_get (x b o (fun q => hd_not e (List.mem_append.mpr (.inl q))) (of_hideAll _ e)) fun q => hd_not e (List.mem_append.mpr (.inr q))
  have lv : ∀ a, a ∉ wr → Live h a → Live h' a := fun a n ⟨o, e⟩ => ⟨o, x a o n e⟩
  refine ⟨⟨c.pre.rm, c.pre.en, fun b o e => x b o (fun q => hB b q ⟨o, e⟩) (c.pre.base b o e), fun a m => lv a (fun q => nm' a q m) (c.pre.live a (List.mem_append.mpr (.inr m))), fun y e hy => ?_, fun y c' e => lv c' (nc y c' e) (c.pre.cells y c' e)⟩,
    frm_off c.frm x nl nc, xm, c.bx, dm, c.bd, c.dx, c.dc, let ⟨o, n, e, r⟩ := c.acc; ⟨o, n, x _ _ (fun q => nm' _ q dm) e, r⟩, c.items.imp fun _ _ r => r.keeps hd⟩
  obtain ⟨w, r, i⟩ := c.pre.names y e hy
  refine ⟨w, ?_, i.keeps hd⟩
  rcases r with ⟨a, m, ⟨o, es, ep, e, r⟩, e2⟩ | ⟨a, c', b, ⟨o, e, r⟩⟩
  · exact .inl ⟨a, m, ⟨o, es, ep, x _ _ nl e, r⟩, e2⟩
  · exact .inr ⟨a, c', b, ⟨o, x _ _ (nc _ _ b) e, r⟩⟩

/-- what a loop over an iterable does, from the iterable's expression on -/
theorem comp_run {xs : List Str} {elt target iter : PySem.Expr} {ifs : List PySem.Expr} {gens : List Comprehension} {scope : Scope} {pos : Pos} {depth : Nat} (hg : gens[depth]? = some ⟨target, iter, ifs, 0⟩)
    (hnx : ∀ g, gens[depth + 1]? = some g → g.is_async = 0 ∧ ∀ env x, foldedSetIterable g.iter env x = pure x)
    {α : Type} {ds : List α} {enc : α → D} {bs : α → Ctx0} {p : α → Bool} {f : α → List D} (hbs : ∀ d ∈ ds, As Γ k nm xs target (enc d) (bs d)) (hfresh : ∀ d ∈ ds, ∀ x, ((bs d).lookup x).isSome = true → ρ.lookup x = none)
    (htest : ∀ d ∈ ds, Ets Γ k nm (bs d ++ ρ) ifs (p d)) (hin : ∀ d ∈ ds, p d = true → Bk Γ k nm xs elt gens scope pos (depth + 1) (bs d ++ ρ) (f d))
    {A : Around} {env : Env} {X : List Addr} {D0 : Addr} {M : List Addr} {I : Addr} {base : Heap} {fp wr : List Addr} {St : Nat → Heap → Prop}
    (S : Src Γ A target I base fp wr (ds.map enc) St) {s : Shared} {ys : Array Value} {out : List D} (c : CI Γ k nm xs A env X D0 M ρ s ys out) (st : St 0 s.heap) (hfp : ∀ b ∈ fp, b ∉ X ∧ b ≠ D0) (wB : ∀ b ∈ wr, ¬ Live Γ.B b)
    (hwN : env.locals ∉ wr ∧ (∀ x c, env.cells.lookup x = some c → c ∉ wr)) (wM : ∀ b ∈ wr, b ∈ M) (hbase : Sub base (Hd M s.heap))
    (hsz : out.length + (ds.flatMap fun d => if p d then f d else []).length ≤ sizeLine) {R : Result → Shared → Prop}
    (hR : ∀ h' tk, (∃ h'' tk'', LI Γ k nm xs A env X D0 M ρ base wr St s.heap ds.length { s with heap := h'', toks := tk'' } (out ++ ds.flatMap fun d => if p d then f d else []) ∧ KpX wr h'' h') → R (.ok .next) { s with heap := h', toks := tk }) :
    codeAny (model Γ.prog Γ.w) A (.compStart (.ListComp elt gens scope pos) depth (.ref I) (.ref D0) env) R s := by
  have loop : codeAny (model Γ.prog Γ.w) A (.compLoop (.ListComp elt gens scope pos) depth (.ref I) (.ref D0) env) R s :=
    comp_loop hg hnx hbs hfresh htest hin S hfp wB wM hwN ⟨st, fun _ _ _ e => e, hbase, ys, c⟩ hsz hR
  exact comp_start hg rfl loop (S.self 0 _ _ st loop)

theorem bk_nest {xs : List Str} {elt target iter : PySem.Expr} {ifs : List PySem.Expr} {gens : List Comprehension} {scope : Scope} {pos : Pos} {depth : Nat} (hg : gens[depth]? = some ⟨target, iter, ifs, 0⟩)
    (hnx : ∀ g, gens[depth + 1]? = some g → g.is_async = 0 ∧ ∀ env x, foldedSetIterable g.iter env x = pure x)
    {α : Type} {ds : List α} {enc : α → D} {bs : α → Ctx0} {p : α → Bool} {f : α → List D} (hit : Itr Γ k nm ρ target iter (ds.map enc)) (hbs : ∀ d ∈ ds, As Γ k nm xs target (enc d) (bs d)) (hfresh : ∀ d ∈ ds, ∀ x, ((bs d).lookup x).isSome = true → ρ.lookup x = none)
    (htest : ∀ d ∈ ds, Ets Γ k nm (bs d ++ ρ) ifs (p d)) (hin : ∀ d ∈ ds, p d = true → Bk Γ k nm xs elt gens scope pos (depth + 1) (bs d ++ ρ) (f d)) :
    Bk Γ k nm xs elt gens scope pos depth ρ (ds.flatMap fun d => if p d then f d else []) := by
  intro A env X D0 M s ys out c hsz Q hQ
  unfold InnerOk
  rw [hg]
  refine hit A env M s c.pre _ fun I fp wr St h tk S st k' hwr hfp => ?_
  have wl : ∀ b ∈ wr, Live h b := fun b hb => S.alive _ _ st b hb
  have wM : ∀ b ∈ wr, b ∉ M := fun b hb q => hwr b hb (c.pre.live b q)
  have wB : ∀ b ∈ wr, ¬ Live Γ.B b := fun b hb q => hwr b hb (q.sub c.pre.base)
  have nl : env.locals ∉ wr := fun q => hwr _ q (let ⟨m, ⟨o, _, _, e, _⟩⟩ := c.frm.ns; ⟨o, e⟩)
  have nc : ∀ x c', env.cells.lookup x = some c' → c' ∉ wr := fun x c' e q => hwr _ q (c.pre.cells x c' e)
  have fpo : ∀ b ∈ fp, b ∉ X ∧ b ≠ D0 := fun b hb => by
    rcases hfp b hb with q | ⟨o, q⟩
    · exact ⟨fun z => wM b q (c.xm b z), fun z => wM b q (z ▸ c.dm)⟩
    · exact ⟨fun z => hd_not q (c.xm b z), fun z => hd_not q (z ▸ c.dm)⟩
  have c2 := c.more (tk := tk) k' hwr wl
  refine wpAny_runOwn ?_
  refine comp_run (A := A) hg hnx hbs hfresh htest hin S c2 st fpo wB ⟨nl, nc⟩ (fun b hb => List.mem_append.mpr (.inl hb)) (Sub.refl _) hsz fun h' tk' ⟨h'', tk'', L, k2⟩ => ?_
  obtain ⟨ys', c3⟩ := L.ci
  refine hQ h' tk' ys' (fun b o n e => ?_) (c3.less k2 wM wB nl nc c.xm c.dm)
  have nw : b ∉ wr := fun q => hwr b q ⟨o, e⟩
  exact k2 b o nw (L.kp b o (fun q => (List.mem_append.mp q).elim n nw) (k' b o e))

/-- the cells that a comprehension takes along -/
theorem closure_of {env : Env} : ∀ (names : List (Str × NameKind)) (acc : List (Str × Addr)), (∀ n, (n, NameKind.free) ∈ names → ∃ c, env.cells.lookup n = some c) →
    ∃ cl, (forIn names acc fun (x : Str × NameKind) (r : List (Str × Addr)) => if (x.2 == NameKind.free) = true then (do let c ← cellOf env x.1; pure (ForInStep.yield ((x.1, c) :: r))) else pure (ForInStep.yield r) : Sem (List (Str × Addr))) = pure cl ∧
      (∀ n c, (n, c) ∈ cl → (n, c) ∈ acc ∨ ((n, NameKind.free) ∈ names ∧ env.cells.lookup n = some c)) ∧ (∀ n, (n, NameKind.free) ∈ names → ∃ c, (n, c) ∈ cl) ∧ ∀ p ∈ acc, p ∈ cl
  | [], acc, _ => ⟨acc, by rw [List.forIn_nil], fun n c h => .inl h, fun n h => absurd h List.not_mem_nil, fun _ h => h⟩
  | (n, kd) :: r, acc, hf => by
    rw [List.forIn_cons]
    by_cases hk : kd = .free
    · subst hk
      obtain ⟨c, hc⟩ := hf n (.head _)
      obtain ⟨cl, h1, h2, h3, h4⟩ := closure_of (env := env) r ((n, c) :: acc) fun m hm => hf m (.tail _ hm)
      refine ⟨cl, ?_, fun m d hm => ?_, fun m hm => ?_, fun p hp => h4 p (.tail _ hp)⟩
      · simp only [beq_self_eq_true, if_true]
        have hce : cellOf env n = pure c := by unfold cellOf; rw [hc]
        rw [hce]
        exact h1
      · rcases h2 m d hm with q | ⟨q1, q2⟩
        · rcases List.mem_cons.mp q with q | q
          · cases q; exact .inr ⟨.head _, hc⟩
          · exact .inl q
        · exact .inr ⟨.tail _ q1, q2⟩
      · rcases List.mem_cons.mp hm with q | q
        · cases q; exact ⟨c, h4 _ (.head _)⟩
        · exact h3 m q
    · obtain ⟨cl, h1, h2, h3, h4⟩ := closure_of (env := env) r acc fun m hm => hf m (.tail _ hm)
      refine ⟨cl, ?_, fun m d hm => ?_, fun m hm => ?_, h4⟩
      · have : (kd == NameKind.free) = false := by simpa using hk
        simp only [this, Bool.false_eq_true, if_false]
        simpa using h1
      · exact (h2 m d hm).imp id fun ⟨q1, q2⟩ => ⟨.tail _ q1, q2⟩
      · rcases List.mem_cons.mp hm with q | q
        · cases q; exact absurd rfl hk
        · exact h3 m q
theorem closure_for {env : Env} {scope : Scope} (h : ∀ n, (n, NameKind.free) ∈ scope.names → ∃ c, env.cells.lookup n = some c) :
    ∃ cl, closureFor scope env = pure cl ∧ (∀ n c, (n, c) ∈ cl → (n, NameKind.free) ∈ scope.names ∧ env.cells.lookup n = some c) ∧ ∀ n, (n, NameKind.free) ∈ scope.names → cl.lookup n = env.cells.lookup n := by
  obtain ⟨cl, h1, h2, h3, _⟩ := closure_of (env := env) scope.names [] h
  have h2' : ∀ n c, (n, c) ∈ cl → (n, NameKind.free) ∈ scope.names ∧ env.cells.lookup n = some c := fun n c hm => (h2 n c hm).elim (fun q => nomatch q) id
  refine ⟨cl, ?_, h2', fun n hn => ?_⟩
  · unfold closureFor
    have e : (forIn scope.names ([] : List (Str × Addr)) fun (x : Str × NameKind) (r : List (Str × Addr)) => if (x.2 == NameKind.free) = true then (do let c ← cellOf env x.1; pure (ForInStep.yield ((x.1, c) :: r))) else pure (ForInStep.yield r) : Sem (List (Str × Addr))) = pure cl := h1
    first
      | exact (congrArg (fun m => m >>= fun cs => (pure cs : Sem (List (Str × Addr)))) e).trans rfl
      | exact e
  · obtain ⟨c, hc⟩ := h3 n hn
    cases q : cl.lookup n with
    | some c' => exact (h2' n c' (mem_of_lookup q)).2.symm
    | none =>
      have : ∀ (l : List (Str × Addr)), (n, c) ∈ l → l.lookup n ≠ none := fun l => by
        induction l with
        | nil => intro q; cases q
        | cons y r ih =>
          intro q e
          obtain ⟨a, b⟩ := y
          rw [List.lookup_cons] at e
          cases hb : n == a with
          | true => rw [hb] at e; cases e
          | false =>
            rw [hb] at e
            rcases List.mem_cons.mp q with q | q
            · cases q; rw [beq_self_eq_true] at hb; cases hb
            · exact ih q e
      exact absurd q (this cl hc)
end
end Mine
namespace Mine
open PySem PySem.Calls PySem.Spec PyProof.Rows PySem.W

theorem cellsFrom_app : ∀ (names : List (Str × NameKind)) (n : Nat) (acc : List (Str × Addr)), cellsFrom n names acc = cellsFrom n names [] ++ acc
  | [], _, _ => rfl
  | (name, kind) :: r, n, acc => by
    unfold cellsFrom
    split
    · rw [cellsFrom_app r (n + 1) ((name, n) :: acc), cellsFrom_app r (n + 1) [(name, n)], List.append_assoc]; rfl
    · exact cellsFrom_app r n acc
theorem cellsFrom_has : ∀ (names : List (Str × NameKind)) (n : Nat) (x : Str), (x, NameKind.cell) ∈ names → ∃ c, (x, c) ∈ cellsFrom n names []
  | (name, kind) :: r, n, x, h => by
    unfold cellsFrom
    rcases List.mem_cons.mp h with q | q
    · cases q
      rw [if_pos (by rfl), cellsFrom_app]
      exact ⟨n, List.mem_append.mpr (.inr (.head _))⟩
    · split
      · obtain ⟨c, hc⟩ := cellsFrom_has r (n + 1) x q
        rw [cellsFrom_app]
        exact ⟨c, List.mem_append.mpr (.inl hc)⟩
      · exact cellsFrom_has r n x q
theorem cellsFrom_mem : ∀ (names : List (Str × NameKind)) (n : Nat) (x : Str) (c : Addr), (x, c) ∈ cellsFrom n names [] → (x, NameKind.cell) ∈ names
  | [], _, _, _, h => nomatch h
  | (name, kind) :: r, n, x, c, h => by
    unfold cellsFrom at h
    split at h
    · rename_i hk
      rw [cellsFrom_app] at h
      rcases List.mem_append.mp h with q | q
      · exact .tail _ (cellsFrom_mem r _ x c q)
      · simp at q
        obtain ⟨rfl, rfl⟩ := q
        rw [eq_of_beq hk]; exact .head _
    · exact .tail _ (cellsFrom_mem r _ x c h)
theorem lookup_mem_none {α : Type} : ∀ {l : List (Str × α)} {x : Str}, (∀ c, (x, c) ∉ l) → l.lookup x = none
  | [], _, _ => rfl
  | (a, b) :: r, x, h => by
    rw [List.lookup_cons]
    cases hb : x == a with
    | true => exact absurd (by rw [eq_of_beq hb]; exact .head _) (h b)
    | false => exact lookup_mem_none fun c q => h c (.tail _ q)
theorem lookup_mem_some {α : Type} : ∀ {l : List (Str × α)} {x : Str} {c : α}, (x, c) ∈ l → ∃ c', l.lookup x = some c'
  | (a, b) :: r, x, c, h => by
    rw [List.lookup_cons]
    cases hb : x == a with
    | true => exact ⟨b, rfl⟩
    | false =>
      rcases List.mem_cons.mp h with q | q
      · cases q; rw [beq_self_eq_true] at hb; cases hb
      · exact lookup_mem_some q

/-- the names' table of a comprehension in a frame -/
def relNames (nm names : List (Str × NameKind)) : List (Str × NameKind) := names.map fun (n, kd) => if (kd == .free && nm.lookup n == some .cell) then (n, .cell) else (n, kd)
structure ScopeOk (nm : List (Str × NameKind)) (scope : Scope) (nmC : List (Str × NameKind)) (xs : List Str) : Prop where
  kind : scope.kind = .function
  rel : nmC = relNames nm scope.names
  loc : ∀ x ∈ scope.names, x.2 = .local → scope.names.lookup x.1 = some .local
  free : ∀ n, (n, NameKind.free) ∈ scope.names → nm.lookup n = some .cell ∨ nm.lookup n = some .free
  apart : ∀ n, (n, NameKind.free) ∈ scope.names → (n, NameKind.cell) ∉ scope.names
  own : ∀ x ∈ xs, nmC.lookup x = some .local ∨ (nmC.lookup x = some .cell ∧ (x, NameKind.cell) ∈ scope.names)

/-- the same, decided -/
def scopeOkB (nm : List (Str × NameKind)) (scope : Scope) (xs : List Str) : Bool :=
  scope.kind == .function && scope.names.all (fun x => x.2 != .local || scope.names.lookup x.1 == some .local) && scope.names.all (fun x => x.2 != .free || (nm.lookup x.1 == some .cell || nm.lookup x.1 == some .free)) &&
  scope.names.all (fun x => x.2 != .free || !scope.names.contains (x.1, .cell)) && xs.all (fun x => (relNames nm scope.names).lookup x == some .local || ((relNames nm scope.names).lookup x == some .cell && scope.names.contains (x, .cell)))
theorem ScopeOk.of {nm : List (Str × NameKind)} {scope : Scope} {xs : List Str} (h : scopeOkB nm scope xs = true) : ScopeOk nm scope (relNames nm scope.names) xs := by
  unfold scopeOkB at h
  simp only [Bool.and_eq_true] at h
  obtain ⟨⟨⟨⟨h1, h2⟩, h3⟩, h4⟩, h5⟩ := h
  refine ⟨eq_of_beq h1, rfl, fun x hx hl => ?_, fun n hn => ?_, fun n hn hc => ?_, fun x hx => ?_⟩
  · have := List.all_eq_true.mp h2 x hx
    rw [hl] at this
    simpa using this
  · have := List.all_eq_true.mp h3 _ hn
    simpa using this
  · have := List.all_eq_true.mp h4 _ hn
    simp [hc] at this
  · have := List.all_eq_true.mp h5 x hx
    simpa [List.contains_iff_mem] using this

section
variable {Γ : Gl} {k : Nat} {nm : List (Str × NameKind)} {ρ : Ctx0}

theorem comp_env {M : Model} {A : Around} {E : Value → Shared → Prop} {s : Shared} {scope : Scope} {globals : Addr} {cl : List (Str × Addr)} {qual : Str} {env : Env} {Q : Env → Shared → Prop}
    (hQ : Q (newEnv scope s.heap.objs.size globals (cellsFrom (s.heap.objs.size + 1) scope.names cl) qual none .none (some env) builtinsNs) { s with heap := pushCells (s.heap.push { cls := .type "dict", data := .dict #[] }) scope.names }) :
    wpAny M A (newFunctionEnv scope globals cl [] qual none .none (some env)) Q E s := by
  simp only [newFunctionEnv, Option.isSome_some, if_true]
  refine wpAny_bind (wpAny_alloc ?_)
  refine wpAny_bind (wpAny_layCells _ (fun name kind cells => by cases hkc : kind == NameKind.cell <;> simp [hkc]) _ _ _ _ ?_)
  rw [show ({ s with heap := s.heap.push { cls := .type "dict", data := .dict #[] } } : Shared).heap.objs.size = s.heap.objs.size + 1 from Heap.size_push ..]
  exact wpAny_bind (wpAny_pure (wpAny_pure hQ))

/-- a comprehension, up to its end -/
theorem comp_top {nmC : List (Str × NameKind)} {xs : List Str} {elt target iter : PySem.Expr} {ifs : List PySem.Expr} {rest : List Comprehension} {scope : Scope} {pos : Pos} {ρc : Ctx0}
    (ok : ScopeOk nm scope nmC xs)
    (hc : ∀ x d, ρc.lookup x = some d → ρ.lookup x = some d ∧ (x, NameKind.free) ∈ scope.names ∧ (nmC.lookup x = some .cell ∨ nmC.lookup x = some .free))
    (hfr : ∀ n, (n, NameKind.free) ∈ scope.names → ∃ d, ρ.lookup n = some d)
    (hs0 : ∀ env x, foldedSetIterable iter env x = pure x)
    (hnx : ∀ g, rest[0]? = some g → g.is_async = 0 ∧ ∀ env x, foldedSetIterable g.iter env x = pure x)
    {α : Type} {ds : List α} {enc : α → D} {bs : α → Ctx0} {p : α → Bool} {f : α → List D} (hit : Itr Γ k nm ρ target iter (ds.map enc)) (hbs : ∀ d ∈ ds, As Γ k nmC xs target (enc d) (bs d)) (hfresh : ∀ d ∈ ds, ∀ x, ((bs d).lookup x).isSome = true → ρc.lookup x = none)
    (htest : ∀ d ∈ ds, Ets Γ k nmC (bs d ++ ρc) ifs (p d)) (hin : ∀ d ∈ ds, p d = true → Bk Γ k nmC xs elt (⟨target, iter, ifs, 0⟩ :: rest) scope pos 1 (bs d ++ ρc) (f d))
    (hsz : (ds.flatMap fun d => if p d then f d else []).length ≤ sizeLine)
    {A : Around} {env : Env} {M : List Addr} {s : Shared} (pre : Pre Γ k nm ρ A env M s) {use : Option (Value → Sem Unit)} {Q : Value → Shared → Prop}
    (hfin : ∀ h2 tk C D0 ys, Sub s.heap h2 → ¬ Live s.heap C → ¬ Live s.heap D0 → C ≠ D0 → (∃ m, h2.Ns C m) → PlainL h2 D0 ys → All2 (Is Γ (Hd (C :: M) h2)) ys.toList (ds.flatMap fun d => if p d then f d else []) →
      compPost (model Γ.prog Γ.w) A E0 use Q (.ref D0) C (.ok .next) { s with heap := h2, toks := tk }) {ipos : Pos} :
    wpAny (model Γ.prog Γ.w) A (comprehension (.ListComp elt (⟨target, iter, ifs, 0⟩ :: rest) scope pos) scope env ipos (newList []) false (eval iter env) use) Q E0 s := by
  have hcl : ∀ n, (n, NameKind.free) ∈ scope.names → ∃ c, env.cells.lookup n = some c := fun n hn => by
    obtain ⟨d, hd⟩ := hfr n hn
    obtain ⟨v, r, _⟩ := pre.names n d hd
    rcases r with ⟨a, _⟩ | ⟨_, c, b, _⟩
    · rw [pre.en.kindOf] at a
      rcases ok.free n hn with q | q <;> (rw [q] at a; cases a)
    · exact ⟨c, b⟩
  obtain ⟨cl, hclos, hcl2, hcl3⟩ := closure_for hcl
  refine wpAny_comprehension_free rfl (hs0 env) hclos ok.kind ok.loc ?_
  refine hit A env M s pre _ fun I fp wr St h tk S st k' hwr hfp => ?_
  refine wpAny_newObj_type (comp_env ?_)
  dsimp only
  -- the new addresses
  generalize hH2 : h.push { cls := .type "list", dict := none, data := .seq ([] : List Value).toArray } = H2
  generalize hH3 : H2.push { cls := .type "dict", data := .dict #[] } = H3
  have z2 : H2.objs.size = h.objs.size + 1 := by rw [← hH2, Heap.size_push]
  have z3 : H3.objs.size = H2.objs.size + 1 := by rw [← hH3, Heap.size_push]
  have k2 : Sub h H2 := hH2 ▸ sub_push _ _
  have k3 : Sub H2 H3 := hH3 ▸ sub_push _ _
  have k4 : Sub H3 (pushCells H3 scope.names) := pushCells_keeps _ _
  have ok4 := cellsFrom_ok scope.names H3 H3.objs.size [] ⟨fun _ _ hm => (nomatch hm), List.Pairwise.nil⟩ (Nat.le_refl _)
  rw [z3] at ok4
  have oD : H2.get? h.objs.size = some { cls := .type "list", dict := none, data := .seq ([] : List Value).toArray } := by rw [← hH2]; exact Heap.get?_push_size _ rfl
  have oC : H3.get? H2.objs.size = some { cls := .type "dict", data := .dict #[] } := by rw [← hH3]; exact Heap.get?_push_size _ rfl
  have nsC : (pushCells H3 scope.names).Ns H2.objs.size (fun _ => none) := by
    have := Heap.Ns.new H2 (.type "dict")
    rw [hH3] at this
    exact this.keeps k4
  have hle : ∀ b : Nat, Live h b → b < h.objs.size := fun b q => live_lt q
  have newC : ∀ (x : Str) (c : Nat), (x, c) ∈ cellsFrom (H2.objs.size + 1) scope.names [] → H2.objs.size + 1 ≤ c := fun x c hm => (ok4.empty x c hm).2
  have nD : ¬ Live h h.objs.size := not_live_size
  have nC : ¬ Live h H2.objs.size := fun q => by have := hle H2.objs.size q; omega
  have e4 : cellsFrom (H2.objs.size + 1) scope.names cl = cellsFrom (H2.objs.size + 1) scope.names [] ++ cl := cellsFrom_app _ _ _
  have clLive : ∀ x c, (x, c) ∈ cl → Live s.heap c := fun x c hm => pre.cells x c (hcl2 x c hm).2
  have wl : ∀ b ∈ wr, Live h b := fun b hb => S.alive _ _ st b hb
  have wlt : ∀ b : Nat, b ∈ wr → b < h.objs.size := fun b hb => hle b (wl b hb)
  have Mlt : ∀ b : Nat, b ∈ M → b < h.objs.size := fun b hb => hle b ((pre.live b hb).sub k')
  have slt : ∀ b : Nat, Live s.heap b → b < h.objs.size := fun b q => hle b (q.sub k')
  have fplt : ∀ b : Nat, b ∈ fp → b < h.objs.size := fun b hb => by
    rcases hfp b hb with q | ⟨o, q⟩
    · exact wlt b q
    · exact hle b ⟨o, of_hideAll _ q⟩
  have kall : Sub h (pushCells H3 scope.names) := (k2.trans k3).trans k4
  -- the frame's own addresses
  generalize hX : H2.objs.size :: (cellsFrom (H2.objs.size + 1) scope.names []).map (·.2) = X
  have Xge : ∀ a : Nat, a ∈ X → H2.objs.size ≤ a := fun a ha => by
    rw [← hX] at ha
    rcases List.mem_cons.mp ha with q | q
    · omega
    · obtain ⟨⟨x, c⟩, hm, rfl⟩ := List.mem_map.mp q
      exact Nat.le_of_succ_le (newC x c hm)
  have Xlive : ∀ a ∈ X, Live (pushCells H3 scope.names) a := fun a ha => by
    rw [← hX] at ha
    rcases List.mem_cons.mp ha with q | q
    · subst q; exact ⟨_, k4 _ _ oC⟩
    · obtain ⟨⟨x, c⟩, hm, rfl⟩ := List.mem_map.mp q
      obtain ⟨⟨o, e, _⟩, _⟩ := ok4.empty x c hm
      exact ⟨o, e⟩
  have cellsLk : ∀ x c, (cellsFrom (H2.objs.size + 1) scope.names cl).lookup x = some c → c ∈ X ∨ Live s.heap c := fun x c e => by
    have hm := mem_of_lookup e
    rw [e4] at hm
    rcases List.mem_append.mp hm with q | q
    · exact .inl (by rw [← hX]; exact .tail _ (List.mem_map.mpr ⟨_, q, rfl⟩))
    · exact .inr (clLive x c q)
  have freshN : ∀ b ∈ X ++ (h.objs.size :: wr), ¬ Live s.heap b := fun b hb q => by
    rcases List.mem_append.mp hb with z | z
    · have := Xge b z; have := slt b q; omega
    · rcases List.mem_cons.mp z with z | z
      · have := slt b q; omega
      · exact hwr b z q
  have ci : CI Γ k nmC xs A { (newEnv scope H2.objs.size env.globals (cellsFrom (H2.objs.size + 1) scope.names cl) env.qual none .none (some env) builtinsNs) with scope := relabel scope env } X h.objs.size ((X ++ (h.objs.size :: wr)) ++ M) ρc
      { s with heap := pushCells H3 scope.names, toks := tk } #[] [] := by
    refine ⟨⟨pre.rm, ⟨ok.kind, ?_, pre.en.globals, pre.en.builtins⟩, (pre.base.trans k').trans kall, fun a ha => ?_, fun x d hx => ?_, fun x c e => ?_⟩, ⟨⟨_, nsC⟩, by rw [← hX]; exact .head _, fun x hx => ?_⟩, fun a ha => List.mem_append.mpr (.inl (List.mem_append.mpr (.inl ha))), fun a ha q => ?_,
      List.mem_append.mpr (.inl (List.mem_append.mpr (.inr (.head _)))), fun q => ?_, fun q => ?_, fun x c e q => ?_, ⟨_, 0, (k3.trans k4) _ _ oD, rfl, rfl, rfl⟩, .nil⟩
    · show (scope.names.map fun (n, kd) => if (kd == .free && env.scope.kind == .function && env.kindOf n == some .cell) = true then (n, NameKind.cell) else (n, kd)) = nmC
      rw [ok.rel]
      unfold relNames
      refine List.map_congr_left fun x _ => ?_
      obtain ⟨n, kd⟩ := x
      simp only [pre.en.kind, pre.en.kindOf]
      simp
    · rcases List.mem_append.mp ha with q | q
      · rcases List.mem_append.mp q with q | q
        · exact Xlive a q
        · rcases List.mem_cons.mp q with q | q
          · subst q; exact ⟨_, (k3.trans k4) _ _ oD⟩
          · exact (wl a q).sub kall
      · exact ((pre.live a q).sub k').sub kall
    · obtain ⟨h1, h2, h3⟩ := hc x d hx
      obtain ⟨v, r, i⟩ := pre.names x d h1
      refine ⟨v, ?_, i.keeps (hd_fresh (k'.trans kall) freshN)⟩
      rcases r with ⟨a, _⟩ | ⟨_, c, b, e⟩
      · rw [pre.en.kindOf] at a
        rcases ok.free x h2 with q | q <;> (rw [q] at a; cases a)
      · refine .inr ⟨?_, c, ?_, e.keeps (k'.trans kall)⟩
        · have en : (Env.kindOf { (newEnv scope H2.objs.size env.globals (cellsFrom (H2.objs.size + 1) scope.names cl) env.qual none .none (some env) builtinsNs) with scope := relabel scope env } x) = nmC.lookup x := by
            show List.lookup x (scope.names.map fun (n, kd) => if (kd == .free && env.scope.kind == .function && env.kindOf n == some .cell) = true then (n, NameKind.cell) else (n, kd)) = _
            rw [ok.rel]
            unfold relNames
            congr 1
            refine List.map_congr_left fun x _ => ?_
            obtain ⟨n, kd⟩ := x
            simp only [pre.en.kind, pre.en.kindOf]
            simp
          rw [en]; exact h3
        · show (cellsFrom (H2.objs.size + 1) scope.names cl).lookup x = some c
          rw [e4, List.lookup_append, lookup_mem_none fun c' q => ok.apart x h2 (cellsFrom_mem _ _ _ _ q), hcl3 x h2, b]
          rfl
    · rcases cellsLk x c e with q | q
      · exact Xlive c q
      · exact (q.sub k').sub kall
    · rcases ok.own x hx with q | ⟨q, q2⟩
      · exact .inl q
      · obtain ⟨c0, hc0⟩ := cellsFrom_has scope.names (H2.objs.size + 1) x q2
        obtain ⟨c, hc⟩ := lookup_mem_some hc0
        have hcm := mem_of_lookup hc
        refine .inr ⟨q, c, ?_, by rw [← hX]; exact .tail _ (List.mem_map.mpr ⟨_, hcm, rfl⟩), ⟨none, (ok4.empty x c hcm).1⟩, fun y hy => ?_⟩
        · show (cellsFrom (H2.objs.size + 1) scope.names cl).lookup x = some c
          rw [e4, List.lookup_append, hc]; rfl
        · have hm := mem_of_lookup (show (cellsFrom (H2.objs.size + 1) scope.names cl).lookup y = some c from hy)
          rw [e4] at hm
          rcases List.mem_append.mp hm with z | z
          · exact name_of_addr ok4.apart z hcm
          · have := slt c (clLive y c z); have := newC x c hcm; omega
    · have := Xge a ha; have := slt a (q.sub pre.base); omega
    · have := slt _ (q.sub pre.base); omega
    · have := Xge _ q; omega
    · rcases cellsLk x c e with z | z
      · have := Xge c z; have q' : @Eq Nat c h.objs.size := q; omega
      · have := slt c z; have q' : @Eq Nat c h.objs.size := q; omega
  have wM : ∀ b ∈ wr, b ∈ (X ++ (h.objs.size :: wr)) ++ M := fun b hb => List.mem_append.mpr (.inl (List.mem_append.mpr (.inr (.tail _ hb))))
  refine comp_run (A := A) (depth := 0) (base := Hd (wr ++ M) h) rfl (fun g hg => hnx g (by simpa using hg)) hbs hfresh htest hin S ci (S.frame _ _ _ st fun b _ o e => kall b o e) (fun b hb => ⟨fun q => ?_, fun q => ?_⟩) (fun b hb q => hwr b hb (q.sub pre.base))
    ⟨fun q => ?_, fun x c e q => ?_⟩ wM (fun b o e => hd_get (kall b o (of_hideAll _ e)) fun q => ?_) (by simpa using hsz) fun h' tk' ⟨h'', tk'', L, kw⟩ => ?_
  · have := Xge b q; have := fplt b hb; omega
  · have := fplt b hb; have q' : @Eq Nat b h.objs.size := q; omega
  · have := wlt _ q; have : H2.objs.size < h.objs.size := this; omega
  · rcases cellsLk x c e with z | z
    · have := Xge c z; have := wlt c q; omega
    · exact hwr c q z
  · have lt := hle b ⟨o, of_hideAll _ e⟩
    rcases List.mem_append.mp q with z | z
    · rcases List.mem_append.mp z with z | z
      · have := Xge b z; omega
      · rcases List.mem_cons.mp z with z | z
        · have q' : @Eq Nat b h.objs.size := z; have l' : @LT.lt Nat _ b h.objs.size := lt; omega
        · exact hd_not e (List.mem_append.mpr (.inl z))
    · exact hd_not e (List.mem_append.mpr (.inr z))
  · obtain ⟨ys, c3⟩ := L.ci
    have keepS : Sub s.heap h' := fun b o e => by
      have lt := slt b ⟨o, e⟩
      have nw : b ∉ wr := fun q => hwr b q ⟨o, e⟩
      refine kw b o nw (L.kp b o (fun q => ?_) (kall b o (k' b o e)))
      rcases List.mem_append.mp q with z | z
      · rcases List.mem_cons.mp z with z | z
        · have q' : @Eq Nat b h.objs.size := z; have l' : @LT.lt Nat _ b h.objs.size := lt; omega
        · have := Xge b z; omega
      · exact nw z
    have nwC : H2.objs.size ∉ wr := fun q => by have := wlt _ q; omega
    have nwD : h.objs.size ∉ wr := fun q => by have := wlt _ q; omega
    refine hfin h' tk' H2.objs.size h.objs.size ys keepS (fun q => by have := slt H2.objs.size q; omega) (fun q => by have := slt h.objs.size q; omega) (fun q => by have q' : @Eq Nat H2.objs.size h.objs.size := q; omega) ?_ (let ⟨o, n, e, r⟩ := c3.acc; ⟨o, n, kw _ _ nwD e, r⟩) ?_
    · obtain ⟨m, ⟨o, es, ep, e, r⟩⟩ := c3.frm.ns
      exact ⟨m, o, es, ep, kw _ _ nwC e, r⟩
    · simp only [List.nil_append] at c3
      refine c3.items.imp fun _ _ r => r.keeps fun b o e => hd_get (kw b o (fun q => hd_not e (List.mem_append.mpr (.inl (List.mem_append.mpr (.inr (.tail _ q)))))) (of_hideAll _ e)) fun q => ?_
      rcases List.mem_cons.mp q with z | z
      · exact hd_not e (List.mem_append.mpr (.inl (List.mem_append.mpr (.inl (by rw [← hX, z]; exact .head _)))))
      · exact hd_not e (List.mem_append.mpr (.inr z))
end
end Mine
namespace Mine
open PySem PySem.Calls PySem.Spec PyProof.Rows PySem.W

section
variable {Γ : Gl} {k : Nat} {nm : List (Str × NameKind)} {ρ : Ctx0}

/-! comprehensions as expressions -/
/-! statements -/
/-- what lies in an object that the frame still changes -/
inductive Mu where
  | none
  | list (x : Str) (ds : List D)
  | dict (x : Str) (r : Row)
def RowIn (Γ : Gl) (M : List Addr) (h : Heap) (F : Addr) (r : Row) : Prop :=
  F ≠ sysModules ∧ ∃ xs, h.DictOfH (tKind Γ) F xs ∧ (∀ x ∈ xs, IsTupleKey (mixKind Γ.prog Γ.w) (Hd M h) x.1 x.2.1) ∧ All2 (fun x kv => x.1 = kv.1 ∧ IntV x.2.2 kv.2) xs r
def MuAt (Γ : Gl) (M : List Addr) (h : Heap) (env : Env) (F : Addr) : Mu → Prop
  | .none => True
  | .list x ds => Reach h env x (.ref F) ∧ ∃ ys, PlainL h F ys ∧ All2 (Is Γ (Hd M h)) ys.toList ds
  | .dict x r => Reach h env x (.ref F) ∧ RowIn Γ M h F r

/-- a frame between two statements: X its own addresses, F the object that it still changes -/
structure FS (Γ : Gl) (k : Nat) (nm : List (Str × NameKind)) (xs : List Str) (A : Around) (env : Env) (h₀ : Heap) (X : List Addr) (F : Addr) (M : List Addr) (ρ : Ctx0) (μ : Mu) (s : Shared) : Prop where
  pre : Pre Γ k nm ρ A env M s
  frm : Frm nm xs env X s.heap
  xm : ∀ a ∈ X, a ∈ M
  gb : Sub Γ.B h₀
  old : Sub h₀ s.heap
  bx : ∀ a ∈ X, ¬ Live h₀ a
  fm : F ∈ M
  bf : ¬ Live h₀ F
  fx : μ ≠ .none → F ∉ X ∧ ∀ x c, env.cells.lookup x = some c → c ≠ F
  mu : MuAt Γ M s.heap env F μ

theorem RowIn.move {M N : List Addr} {h h' : Heap} {F : Addr} {r : Row} (x : RowIn Γ M h F r) (hF : ∀ o, h.get? F = some o → h'.get? F = some o) (k : Sub (Hd M h) (Hd N h')) : RowIn Γ N h' F r := by
  obtain ⟨hs, xs, ⟨o, es, ep, ho, hx, hd, he, hk, hn⟩, hk2, hv⟩ := x
  have hk3 : ∀ x ∈ xs, IsTupleKey (mixKind Γ.prog Γ.w) (Hd N h') x.1 x.2.1 := fun y hy => let ⟨o', its, n, h1, r⟩ := hk2 y hy; ⟨o', its, n, k _ _ h1, r⟩
  refine ⟨hs, xs, ⟨o, es, ep, hF _ ho, hx, hd, he, fun y hy => ?_, hn⟩, hk3, hv⟩
  obtain ⟨o', its, n, h1, r⟩ := hk3 y hy
  exact ⟨o', its, n, of_hideAll _ h1, r⟩
theorem MuAt.move {M N : List Addr} {h h' : Heap} {env : Env} {F : Addr} {μ : Mu} (x : MuAt Γ M h env F μ) (hF : μ ≠ .none → ∀ o, h.get? F = some o → h'.get? F = some o) (k : Sub (Hd M h) (Hd N h')) (hr : ∀ y v, Reach h env y v → Reach h' env y v) : MuAt Γ N h' env F μ := by
  cases μ with
  | none => trivial
  | list y ds =>
    obtain ⟨r, ys, ⟨o, n, e, q⟩, hi⟩ := x
    exact ⟨hr _ _ r, ys, ⟨o, n, hF (by simp) _ e, q⟩, hi.imp fun _ _ i => i.keeps k⟩
  | dict y row =>
    obtain ⟨r, q⟩ := x
    exact ⟨hr _ _ r, q.move (hF (by simp)) k⟩

theorem FS.sub {xs : List Str} {A : Around} {env : Env} {h₀ : Heap} {X : List Addr} {F : Addr} {M : List Addr} {μ : Mu} {s : Shared} (f : FS Γ k nm xs A env h₀ X F M ρ μ s) {h' : Heap} {tk : Nat} (x : Sub s.heap h') : FS Γ k nm xs A env h₀ X F M ρ μ { s with heap := h', toks := tk } :=
  ⟨f.pre.keeps x, f.frm.sub x, f.xm, f.gb, f.old.trans x, f.bx, f.fm, f.bf, f.fx, f.mu.move (fun _ o e => x _ _ e) (hd_sub_sub x) fun y v r => r.keeps x⟩
/-- some names forgotten -/
theorem FS.weak {xs : List Str} {A : Around} {env : Env} {h₀ : Heap} {X : List Addr} {F : Addr} {M : List Addr} {μ : Mu} {s : Shared} {ρ' : Ctx0} (f : FS Γ k nm xs A env h₀ X F M ρ μ s) (h : ∀ x d, ρ'.lookup x = some d → ρ.lookup x = some d) : FS Γ k nm xs A env h₀ X F M ρ' μ s :=
  ⟨⟨f.pre.rm, f.pre.en, f.pre.base, f.pre.live, fun x d e => f.pre.names x d (h x d e), f.pre.cells⟩, f.frm, f.xm, f.gb, f.old, f.bx, f.fm, f.bf, f.fx, f.mu⟩
theorem reach_off {env : Env} {Y : List Addr} {h h' : Heap} (k : KpX Y h h') (n : env.locals ∉ Y) (c : ∀ x c, env.cells.lookup x = some c → c ∉ Y) {y : Str} {v : Value} (r : Reach h env y v) : Reach h' env y v := by
  rcases r with ⟨a, m, ⟨o, es, ep, e, r⟩, e2⟩ | ⟨a, c', b, ⟨o, e, r⟩⟩
  · exact .inl ⟨a, m, ⟨o, es, ep, k _ _ n e, r⟩, e2⟩
  · exact .inr ⟨a, c', b, ⟨o, k _ _ (c _ _ b) e, r⟩⟩
/-- more addresses hidden: those of a new iterator -/
theorem FS.more {xs : List Str} {A : Around} {env : Env} {h₀ : Heap} {X : List Addr} {F : Addr} {M : List Addr} {μ : Mu} {s : Shared} (f : FS Γ k nm xs A env h₀ X F M ρ μ s) {wr : List Addr} {h : Heap} {tk : Nat} (x : Sub s.heap h) (n : ∀ b ∈ wr, ¬ Live s.heap b) (l : ∀ b ∈ wr, Live h b) :
    FS Γ k nm xs A env h₀ X F (wr ++ M) ρ μ { s with heap := h, toks := tk } where
  pre := ⟨f.pre.rm, f.pre.en, f.pre.base.trans x, fun a m => (List.mem_append.mp m).elim (l a) fun m => (f.pre.live a m).sub x, fun y e hy => let ⟨w, r, i⟩ := f.pre.names y e hy; ⟨w, r.keeps x, i.keeps (hd_fresh x n)⟩, fun y c' e => (f.pre.cells y c' e).sub x⟩
  frm := f.frm.sub x
  xm := fun a m => List.mem_append.mpr (.inr (f.xm a m))
  gb := f.gb
  old := f.old.trans x
  bx := f.bx
  fm := List.mem_append.mpr (.inr f.fm)
  bf := f.bf
  fx := f.fx
  mu := f.mu.move (fun _ o e => x _ _ e) (hd_fresh x n) fun y v r => r.keeps x
/-- a change at addresses wr alone, that are hidden, and are no part of the frame -/
theorem FS.off {xs : List Str} {A : Around} {env : Env} {h₀ : Heap} {X : List Addr} {F : Addr} {M N : List Addr} {μ : Mu} {s : Shared} {wr : List Addr} {h h' : Heap} {tk tk' : Nat} (f : FS Γ k nm xs A env h₀ X F M ρ μ { s with heap := h, toks := tk }) (x : KpX wr h h') (wm : ∀ b ∈ wr, b ∈ M)
    (nsub : ∀ b ∈ N, b ∈ M) (lv : ∀ b ∈ N, Live h' b) (hB : ∀ b ∈ wr, ¬ Live h₀ b) (nl : env.locals ∉ wr) (nc : ∀ x c, env.cells.lookup x = some c → c ∉ wr) (nF : μ ≠ .none → F ∉ wr) (xm : ∀ a ∈ X, a ∈ N) (fm : F ∈ N) : FS Γ k nm xs A env h₀ X F N ρ μ { s with heap := h', toks := tk' } := by
  have hd : Sub (Hd M h) (Hd N h') := fun b o e => hd_get (x b o (fun q => hd_not e (wm b q)) (of_hideAll _ e)) fun q => hd_not e (nsub b q)
  have rr : ∀ y v, Reach h env y v → Reach h' env y v := fun y v r => reach_off x nl nc r
  have oo : Sub h₀ h' := fun b o e => x b o (fun q => hB b q ⟨o, e⟩) (f.old b o e)
  exact ⟨⟨f.pre.rm, f.pre.en, f.gb.trans oo, lv, fun y e hy => let ⟨w, r, i⟩ := f.pre.names y e hy; ⟨w, rr _ _ r, i.keeps hd⟩, fun y c' e => let ⟨o, q⟩ := f.pre.cells y c' e; ⟨o, x _ _ (nc y c' e) q⟩⟩,
    frm_off f.frm x nl nc, xm, f.gb, oo, f.bx, fm, f.bf, f.fx, f.mu.move (fun m o e => x _ _ (nF m) e) hd rr⟩

/-- a look at the object under change: it is a datum like others -/
def muD : Mu → Option (Str × D)
  | .none => none
  | .dict x r => some (x, .tdict r)
  | .list x ds => some (x, match ds.mapM (fun d => match d with | .tdict r => some r | _ => none) with
    | some rs => .rows rs
    | none => .py .none)
theorem FS.peek_dict {xs : List Str} {A : Around} {env : Env} {h₀ : Heap} {X : List Addr} {F : Addr} {M : List Addr} {x : Str} {r : Row} {s : Shared} (f : FS Γ k nm xs A env h₀ X F M ρ (.dict x r) s) : Pre Γ k nm ((x, .tdict r) :: ρ) A env (M.filter (· != F)) s := by
  have hd : Sub (Hd M s.heap) (Hd (M.filter (· != F)) s.heap) := hd_less fun b hb => (List.mem_filter.mp hb).1
  have hF : F ∉ M.filter (· != F) := fun q => by simpa using (List.mem_filter.mp q).2
  refine ⟨f.pre.rm, f.pre.en, f.pre.base, fun a m => f.pre.live a (List.mem_filter.mp m).1, fun y e hy => ?_, f.pre.cells⟩
  rw [List.lookup_cons] at hy
  cases hb : y == x with
  | false =>
    rw [hb] at hy
    obtain ⟨w, r, i⟩ := f.pre.names y e hy
    exact ⟨w, r, i.keeps hd⟩
  | true =>
    rw [hb] at hy; cases hy
    obtain ⟨r1, hs, ys, ⟨o, es, ep, ho, hx, hdt, he, hk, hn⟩, hk2, hv⟩ := f.mu
    rw [eq_of_beq hb]
    refine ⟨_, r1, F, rfl, hs, ys, ⟨o, es, ep, hd_get ho hF, hx, hdt, he, fun z hz => ?_, hn⟩, hv⟩
    obtain ⟨o', its, n, h1, q⟩ := hk2 z hz
    exact ⟨o', its, n, hd _ _ h1, q⟩
theorem FS.peek_rows {xs : List Str} {A : Around} {env : Env} {h₀ : Heap} {X : List Addr} {F : Addr} {M : List Addr} {x : Str} {rs : List Row} {s : Shared} (f : FS Γ k nm xs A env h₀ X F M ρ (.list x (rs.map D.tdict)) s) : Pre Γ k nm ((x, .rows rs) :: ρ) A env (M.filter (· != F)) s := by
  have hd : Sub (Hd M s.heap) (Hd (M.filter (· != F)) s.heap) := hd_less fun b hb => (List.mem_filter.mp hb).1
  have hF : F ∉ M.filter (· != F) := fun q => by simpa using (List.mem_filter.mp q).2
  refine ⟨f.pre.rm, f.pre.en, f.pre.base, fun a m => f.pre.live a (List.mem_filter.mp m).1, fun y e hy => ?_, f.pre.cells⟩
  rw [List.lookup_cons] at hy
  cases hb : y == x with
  | false =>
    rw [hb] at hy
    obtain ⟨w, r, i⟩ := f.pre.names y e hy
    exact ⟨w, r, i.keeps hd⟩
  | true =>
    rw [hb] at hy; cases hy
    obtain ⟨r1, ys, hpl, hi⟩ := f.mu
    obtain ⟨o, ho, r⟩ := hpl.isList
    rw [eq_of_beq hb]
    refine ⟨_, r1, F, ys, rfl, ⟨o, hd_get ho hF, r⟩, ?_⟩
    have : ∀ {vs : List Value} {rs : List Row}, All2 (Is Γ (Hd M s.heap)) vs (rs.map D.tdict) → All2 (fun v r => ∃ a, v = .ref a ∧ RowAt Γ (Hd (M.filter (· != F)) s.heap) a r) vs rs := by
      intro vs rs
      induction rs generalizing vs with
      | nil => intro q; cases q; exact .nil
      | cons r rs ih =>
        intro q
        cases q with
        | cons q1 q2 => obtain ⟨a, e, w⟩ := q1; exact .cons ⟨a, e, w.keeps hd⟩ (ih q2)
    exact this hi
end
end Mine
namespace Mine
open PySem PySem.Calls PySem.Spec PyProof.Rows PySem.W

def muName : Mu → Option Str
  | .none => none
  | .list x _ => some x
  | .dict x _ => some x

section
variable {Γ : Gl} {k : Nat} {nm : List (Str × NameKind)} {ρ : Ctx0} {xs : List Str} {A : Around} {env : Env} {h₀ : Heap} {X : List Addr} {F : Addr} {M : List Addr} {μ : Mu} {s : Shared} {rest : List Stmt} {Q : Flow → Shared → Prop} {pos : Pos}

theorem muAt_keep {N : List Addr} {h h' : Heap} (m : MuAt Γ M h env F μ) (hF : μ ≠ .none → ∀ o, h.get? F = some o → h'.get? F = some o) (kd : Sub (Hd M h) (Hd N h')) (hr : ∀ x, muName μ = some x → ∀ v, Reach h env x v → Reach h' env x v) : MuAt Γ N h' env F μ := by
  cases μ with
  | none => trivial
  | list y ds =>
    obtain ⟨r, ys, ⟨o, n, e, q⟩, hi⟩ := m
    exact ⟨hr y rfl _ r, ys, ⟨o, n, hF (by simp) _ e, q⟩, hi.imp fun _ _ i => i.keeps kd⟩
  | dict y row =>
    obtain ⟨r, q⟩ := m
    exact ⟨hr y rfl _ r, q.move (hF (by simp)) kd⟩

/-- a target takes a datum, in a frame -/
theorem FS.as {t : PySem.Expr} {d : D} {bs : Ctx0} (f : FS Γ k nm xs A env h₀ X F M ρ μ s) (ha : As Γ k nm xs t d bs) (hm : ∀ x, muName μ = some x → bs.lookup x = none) {v : Value} (iv : Is Γ (Hd M s.heap) v d) {Q : Unit → Shared → Prop}
    (hQ : ∀ h' tk, KpX X s.heap h' → FS Γ k nm xs A env h₀ X F M (bs ++ ρ) μ { s with heap := h', toks := tk } → Q () { s with heap := h', toks := tk }) : wpAny (model Γ.prog Γ.w) A (assign t env v) Q E0 s := by
  refine ha ρ A env M X s v f.pre f.frm f.xm (fun a q l => f.bx a q (l.sub f.gb)) iv _ fun h' tk k' l' p' f' r' => hQ h' tk k' ⟨p', f', f.xm, f.gb, fun b o e => k' b o (fun q => f.bx b q ⟨o, e⟩) (f.old b o e), f.bx, f.fm, f.bf, f.fx, ?_⟩
  exact muAt_keep f.mu (fun m o e => k' _ _ (f.fx m).1 e) (k'.hd f.xm) fun x hx v r => r' x v (hm x hx) r
theorem FS.store {x : Str} {d : D} (f : FS Γ k nm xs A env h₀ X F M ρ μ s) (hx : x ∈ xs) (hm : muName μ ≠ some x) {v : Value} (iv : Is Γ (Hd M s.heap) v d) {Q : Unit → Shared → Prop}
    (hQ : ∀ h' tk, KpX X s.heap h' → FS Γ k nm xs A env h₀ X F M ((x, d) :: ρ) μ { s with heap := h', toks := tk } → Q () { s with heap := h', toks := tk }) : wpAny (model Γ.prog Γ.w) A (storeName env x v) Q E0 s := by
  refine store_own f.pre f.frm f.xm hx (fun a q l => f.bx a q (l.sub f.gb)) iv fun h' tk k' l' p' f' r' => hQ h' tk k' ⟨p', f', f.xm, f.gb, fun b o e => k' b o (fun q => f.bx b q ⟨o, e⟩) (f.old b o e), f.bx, f.fm, f.bf, f.fx, ?_⟩
  exact muAt_keep f.mu (fun m o e => k' _ _ (f.fx m).1 e) (k'.hd f.xm) fun y hy v r => r' y v (fun q => hm (q ▸ hy)) r

theorem kfx {h h' : Heap} (k : KpX X h h') : KpX (F :: X) h h' := fun b o n e => k b o (fun q => n (.tail _ q)) e

theorem x_assign {x : Str} {xp : Pos} {e : PySem.Expr} {d : D} (f : FS Γ k nm xs A env h₀ X F M ρ μ s) (he : Ev Γ k nm ρ e d) (hx : x ∈ xs) (hm : muName μ ≠ some x) (hsw : ∀ env, EnvIs nm env → swapsWith e (some (.Name x xp)) pos.line env = pure false)
    (h : ∀ h' tk, KpX (F :: X) s.heap h' → FS Γ k nm xs A env h₀ X F M ((x, d) :: ρ) μ { s with heap := h', toks := tk } → wpAny (model Γ.prog Γ.w) A (execs rest env) Q E0 { s with heap := h', toks := tk }) :
    wpAny (model Γ.prog Γ.w) A (execs (.Assign [.Name x xp] e pos :: rest) env) Q E0 s := by
  refine wpAny_execs_cons (wpAny_Assign_Name (he A env M s f.pre _ fun v h1 tk1 k1 iv => ?_) (hsw env f.pre.en))
  refine (f.sub (tk := tk1) k1).store hx hm iv fun h2 tk2 k2 f2 => h h2 tk2 (kfx (k1.kpx.trans k2)) f2

theorem x_return {e : PySem.Expr} {d : D} (f : FS Γ k nm xs A env h₀ X F M ρ μ s) (he : Ev Γ k nm ρ e d)
    (h : ∀ v h' tk, Sub s.heap h' → Is Γ (Hd M h') v d → Q (.ret v) { s with heap := h', toks := tk }) :
    wpAny (model Γ.prog Γ.w) A (execs (.Return (some e) pos :: rest) env) Q E0 s :=
  wpAny_execs_cons (wpAny_Return_some (he A env M s f.pre _ fun v h1 tk1 k1 iv => h v h1 tk1 k1 iv))

theorem x_if {t : PySem.Expr} {body orelse : List Stmt} {b : Bool} (f : FS Γ k nm xs A env h₀ X F M ρ μ s) (ht : Et Γ k nm ρ t b)
    (h1 : b = true → ∀ h' tk, Sub s.heap h' → FS Γ k nm xs A env h₀ X F M ρ μ { s with heap := h', toks := tk } → wpAny (model Γ.prog Γ.w) A (execs body env) (fun fl s' => match fl with | .next => wpAny (model Γ.prog Γ.w) A (execs rest env) Q E0 s' | fl => Q fl s') E0 { s with heap := h', toks := tk })
    (h2 : b = false → ∀ h' tk, Sub s.heap h' → FS Γ k nm xs A env h₀ X F M ρ μ { s with heap := h', toks := tk } → wpAny (model Γ.prog Γ.w) A (execs orelse env) (fun fl s' => match fl with | .next => wpAny (model Γ.prog Γ.w) A (execs rest env) Q E0 s' | fl => Q fl s') E0 { s with heap := h', toks := tk }) :
    wpAny (model Γ.prog Γ.w) A (execs (.If t body orelse pos :: rest) env) Q E0 s := by
  refine wpAny_execs_cons (wpAny_If (ht A env M s f.pre _ fun h' tk k' => ?_))
  cases b with
  | true => exact h1 rfl h' tk k' (f.sub k')
  | false => exact h2 rfl h' tk k' (f.sub k')
/-- a test that comes out false, nothing behind -/
theorem x_if_no {t : PySem.Expr} {body : List Stmt} (f : FS Γ k nm xs A env h₀ X F M ρ μ s) (ht : Et Γ k nm ρ t false)
    (h : ∀ h' tk, Sub s.heap h' → FS Γ k nm xs A env h₀ X F M ρ μ { s with heap := h', toks := tk } → wpAny (model Γ.prog Γ.w) A (execs rest env) Q E0 { s with heap := h', toks := tk }) :
    wpAny (model Γ.prog Γ.w) A (execs (.If t body [] pos :: rest) env) Q E0 s :=
  x_if f ht (fun e => nomatch e) fun _ h' tk k' f' => wpAny_execs_nil (h h' tk k' f')

/-- a comprehension stored at once -/
theorem x_assign_lc {x : Str} {xp : Pos} {nmC : List (Str × NameKind)} {ys : List Str} {elt target iter : PySem.Expr} {ifs : List PySem.Expr} {gs : List Comprehension} {scope : Scope} {cpos : Pos} {ρc : Ctx0}
    (f : FS Γ k nm xs A env h₀ X F M ρ μ s) (hx : x ∈ xs) (hm : muName μ ≠ some x)
    (hsw : ∀ env, EnvIs nm env → swapsWith (.ListComp elt (⟨target, iter, ifs, 0⟩ :: gs) scope cpos) (some (.Name x xp)) pos.line env = pure true)
    (ok : ScopeOk nm scope nmC ys)
    (hc : ∀ x d, ρc.lookup x = some d → ρ.lookup x = some d ∧ (x, NameKind.free) ∈ scope.names ∧ (nmC.lookup x = some .cell ∨ nmC.lookup x = some .free))
    (hfr : ∀ n, (n, NameKind.free) ∈ scope.names → ∃ d, ρ.lookup n = some d)
    (hs0 : ∀ env x, foldedSetIterable iter env x = pure x)
    (hnx : ∀ g, gs[0]? = some g → g.is_async = 0 ∧ ∀ env x, foldedSetIterable g.iter env x = pure x)
    {α : Type} {ds : List α} {enc : α → D} {bs : α → Ctx0} {p : α → Bool} {f' : α → List D} (hit : Itr Γ k nm ρ target iter (ds.map enc)) (hbs : ∀ d ∈ ds, As Γ k nmC ys target (enc d) (bs d)) (hfresh : ∀ d ∈ ds, ∀ x, ((bs d).lookup x).isSome = true → ρc.lookup x = none)
    (htest : ∀ d ∈ ds, Ets Γ k nmC (bs d ++ ρc) ifs (p d)) (hin : ∀ d ∈ ds, p d = true → Bk Γ k nmC ys elt (⟨target, iter, ifs, 0⟩ :: gs) scope cpos 1 (bs d ++ ρc) (f' d))
    (hsz : (ds.flatMap fun d => if p d then f' d else []).length ≤ sizeLine) {out : List PyData} (hout : (ds.flatMap fun d => if p d then f' d else []) = out.map D.py)
    (h : ∀ h' tk, KpX (F :: X) s.heap h' → FS Γ k nm xs A env h₀ X F M ((x, .py (.list out)) :: ρ) μ { s with heap := h', toks := tk } → wpAny (model Γ.prog Γ.w) A (execs rest env) Q E0 { s with heap := h', toks := tk }) :
    wpAny (model Γ.prog Γ.w) A (execs (.Assign [.Name x xp] (.ListComp elt (⟨target, iter, ifs, 0⟩ :: gs) scope cpos) pos :: rest) env) Q E0 s := by
  refine wpAny_execs_cons ?_
  rw [exec_Assign_Name_used _ _ _ _ (hsw env f.pre.en)]
  refine wpAny_bind (wpAny_standAt (wpAny_bind ?_))
  show wpAny _ A (do let _ ← comprehension (.ListComp elt (⟨target, iter, ifs, 0⟩ :: gs) scope cpos) scope env _ (newList []) false (eval iter env) (some (assign (.Name x xp) env))) _ _ s
  refine wpAny_bind (comp_top ok hc hfr hs0 hnx hit hbs hfresh htest hin hsz f.pre (use := some (assign (.Name x xp) env)) fun h2 tk C D0 zs kk nC nD ne hmm hl hi => ?_)
  obtain ⟨m, hmm⟩ := hmm
  show wpAny _ _ (assign (.Name x xp) env (.ref D0)) _ _ _
  have lC : Live h2 C := let ⟨o, _, _, e, _⟩ := hmm; ⟨o, e⟩
  have fC := f.more (tk := tk) (wr := [C]) kk (fun b q z => by simp at q; subst q; exact nC z) fun b q => by simp at q; subst q; exact lC
  have lCM : ∀ b ∈ M, b ≠ C := fun b q z => nC (z ▸ f.pre.live b q)
  refine wpAny_assign_Name (fC.store hx hm (d := .py (.list out)) ?_ fun h3 tk3 k3 f3 => ?_)
  · refine is_list.mpr ⟨D0, zs, rfl, ?_, all2_py (hout ▸ hi)⟩
    obtain ⟨o, e, r⟩ := hl.isList
    refine ⟨o, hd_get e (fun q => ?_), r⟩
    rcases List.mem_cons.mp q with q | q
    · exact ne q.symm
    · exact nD (f.pre.live D0 q)
  · have nCX : C ∉ X := fun q => lCM C (f.xm C q) rfl
    refine ⟨m, let ⟨o, es, ep, e, r⟩ := hmm; ⟨o, es, ep, k3 _ _ nCX e, r⟩, fun h' hs' => wpAny_pure (wpAny_pure ?_)⟩
    have kC : KpX [C] h3 h' := sameBut_kpx hs' (by simp)
    have nCl : ∀ a, Live s.heap a → a ∉ [C] := fun a q z => by simp at z; subst z; exact nC q
    refine h h' tk3 (fun b o n e => ?_) (f3.off (tk' := tk3) kC (fun b q => List.mem_append.mpr (.inl q)) (fun b q => List.mem_append.mpr (.inr q)) (fun b q => ?_) (fun b q z => ?_) (nCl _ ?_) (fun y c e => nCl c (f.pre.cells y c e)) (fun _ => nCl F (f.pre.live F f.fm)) f.xm f.fm)
    · exact kC b o (nCl b ⟨o, e⟩) (k3 b o (fun q => n (.tail _ q)) (kk b o e))
    · obtain ⟨o, e⟩ := f3.pre.live b (List.mem_append.mpr (.inr q))
      exact ⟨o, kC b o (nCl b (f.pre.live b q)) e⟩
    · simp at q; subst q; exact nC (z.sub f.old)
    · obtain ⟨m, ⟨o, _, _, e, _⟩⟩ := f.frm.ns; exact ⟨o, e⟩
end
end Mine
namespace Mine
open PySem PySem.Calls PySem.Spec PyProof.Rows PySem.W

section
variable {Γ : Gl} {k : Nat} {nm : List (Str × NameKind)} {ρ : Ctx0} {xs : List Str} {A : Around} {env : Env} {h₀ : Heap} {X : List Addr} {F : Addr} {M : List Addr} {μ : Mu} {s : Shared} {rest : List Stmt} {Q : Flow → Shared → Prop} {pos : Pos}

theorem for_turn {M : Model} {A : Around} {s : Shared} {target : PySem.Expr} {it : Value} {body orelse : List Stmt} {env : Env} {Q : PySem.Fin → Shared → Prop}
    (h : wpAny M A (pyNext it) (fun r s₁ => match r with
      | none => Q (.again (.block orelse env)) s₁
      | some v => wpAny M A (letOwnedTupleGo target it v) (fun _ s₂ => wpAny M A (assign target env v) (fun _ s₃ => wpAny M A (execs body env) (fun f s₄ => match f with
          | .next | .cont => Q (.again (.forLoop target it body orelse env)) s₄
          | .brk => Q (.done .next) s₄
          | .ret v => Q (.done (.ret v)) s₄) E0 s₃) E0 s₂) E0 s₁) E0 s) : wpAny M A (forTurn target it body orelse env) Q E0 s := by
  simp only [forTurn]
  refine wpAny_bind (wpAny_standAt (wpAny_bind (wpAny_onRaise (wpAny_mono h (fun r s₁ h₁ => ?_) fun _ _ x => x.elim))))
  cases r with
  | none => exact wpAny_pure h₁
  | some v =>
    refine wpAny_bind (wpAny_mono h₁ (fun _ s₂ h₂ => wpAny_bind (wpAny_mono h₂ (fun _ s₃ h₃ => wpAny_bind (wpAny_mono h₃ (fun f s₄ h₄ => ?_) fun _ _ x => x)) fun _ _ x => x)) fun _ _ x => x)
    cases f <;> exact wpAny_pure h₄

theorem x_for {α : Type} {items : List α} {enc : α → D} {bs : α → Ctx0} {ρf : Nat → Ctx0} {μf : Nat → Mu} {target iter : PySem.Expr} {body : List Stmt}
    (f : FS Γ k nm xs A env h₀ X F M (ρf 0) (μf 0) s) (hit : Itr Γ k nm (ρf 0) target iter (items.map enc)) (hbs : ∀ a ∈ items, As Γ k nm xs target (enc a) (bs a)) (hm : ∀ a ∈ items, ∀ i x, muName (μf i) = some x → (bs a).lookup x = none)
    (hs0 : ∀ env x, foldedSetIterable iter env x = pure x)
    (hbody : ∀ i a, items[i]? = some a → ∀ M' s', FS Γ k nm xs A env h₀ X F M' (bs a ++ ρf i) (μf i) s' → ∀ Q' : Flow → Shared → Prop,
      (∀ h' tk, KpX (F :: X) s'.heap h' → FS Γ k nm xs A env h₀ X F M' (ρf (i + 1)) (μf (i + 1)) { s' with heap := h', toks := tk } → Q' .next { s' with heap := h', toks := tk }) → wpAny (model Γ.prog Γ.w) A (execs body env) Q' E0 s')
    (h : ∀ h' tk, KpX (F :: X) s.heap h' → FS Γ k nm xs A env h₀ X F M (ρf items.length) (μf items.length) { s with heap := h', toks := tk } → wpAny (model Γ.prog Γ.w) A (execs rest env) Q E0 { s with heap := h', toks := tk }) :
    wpAny (model Γ.prog Γ.w) A (execs (.For target iter body [] pos :: rest) env) Q E0 s := by
  refine wpAny_execs_cons (wpAny_For (hit A env M s f.pre _ fun I fp wr St h1 tk1 S st k1 hwr hfp => ?_) (hs0 env))
  have wl : ∀ b ∈ wr, Live h1 b := fun b hb => S.alive _ _ st b hb
  have wM : ∀ b ∈ wr, b ∉ M := fun b hb q => hwr b hb (f.pre.live b q)
  have nl : env.locals ∉ wr := fun q => hwr _ q (let ⟨m, ⟨o, _, _, e, _⟩⟩ := f.frm.ns; ⟨o, e⟩)
  have nc : ∀ x c', env.cells.lookup x = some c' → c' ∉ wr := fun x c' e q => hwr _ q (f.pre.cells x c' e)
  have nF : F ∉ wr := fun q => wM F q f.fm
  have nX : ∀ a ∈ X, a ∉ wr := fun a ha q => wM a q (f.xm a ha)
  have fpo : ∀ b ∈ fp, b ∉ F :: X := fun b hb q => by
    have bM : b ∈ M := (List.mem_cons.mp q).elim (fun z => z ▸ f.fm) (f.xm b)
    rcases hfp b hb with z | ⟨o, z⟩
    · exact wM b z bM
    · exact hd_not z bM
  have f1 := f.more (tk := tk1) k1 hwr wl
  have mm : ∀ b ∈ F :: X, b ∈ wr ++ M := fun b q => List.mem_append.mpr (.inr ((List.mem_cons.mp q).elim (fun z => z ▸ f.fm) (f.xm b)))
  refine codeAny_loop' rfl
    (fun n s' => ∃ i h' tk, n = items.length - i ∧ i ≤ items.length ∧ s' = { s with heap := h', toks := tk } ∧ St i h' ∧ KpX (F :: X ++ wr) h1 h' ∧ Sub (Hd (wr ++ M) h1) (Hd (wr ++ M) h') ∧ FS Γ k nm xs A env h₀ X F (wr ++ M) (ρf i) (μf i) { s with heap := h', toks := tk })
    ?_ items.length ⟨0, h1, tk1, rfl, Nat.zero_le _, rfl, st, fun _ _ _ e => e, Sub.refl _, f1⟩
  rintro n s' ⟨i, h2, tk2, rfl, hi, rfl, st2, kp2, sb2, f2⟩
  show wpAny _ A ((forTurn target (.ref I) body [] env).onRaise (fun x => do noteFrame x env; theTreesLotGoes x)) _ _ _
  refine wpAny_onRaise (ofE0 (for_turn ?_))
  by_cases hlt : i < items.length
  · obtain ⟨a, ha⟩ : ∃ a, items[i]? = some a := ⟨items[i], List.getElem?_eq_getElem hlt⟩
    have ham : a ∈ items := List.mem_of_getElem? ha
    have hd : (items.map enc)[i]? = some (enc a) := by rw [List.getElem?_map, ha]; rfl
    refine wpAny_mono (S.step i _ (wr ++ M) (enc a) (fun v s₂ => wpAny (model Γ.prog Γ.w) A (assign target env v) (fun _ s₃ => wpAny (model Γ.prog Γ.w) A (execs body env) (fun fl s₄ => fl = .next ∧ ∃ m, m < items.length - i ∧ ∃ i h' tk, m = items.length - i ∧ i ≤ items.length ∧ s₄ = { s with heap := h', toks := tk } ∧ St i h' ∧ KpX (F :: X ++ wr) h1 h' ∧ Sub (Hd (wr ++ M) h1) (Hd (wr ++ M) h') ∧
        FS Γ k nm xs A env h₀ X F (wr ++ M) (ρf i) (μf i) { s with heap := h', toks := tk }) E0 s₃) E0 s₂) hd st2 f2.pre.live (fun b hb => List.mem_append.mpr (.inl hb)) sb2 fun v h3 tk3 iv st3 k3 => ?_) (fun r s₁ q => ?_) fun _ _ x => x
    · -- the turn
      have lv3 : ∀ b ∈ wr ++ M, Live h3 b := fun b q => KpX.live k3 (fun b hb => S.alive _ _ st3 b hb) (f2.pre.live b q)
      have f3 : FS Γ k nm xs A env h₀ X F (wr ++ M) (ρf i) (μf i) { s with heap := h3, toks := tk3 } := f2.off k3 (fun b hb => List.mem_append.mpr (.inl hb)) (fun _ q => q) lv3 (fun b hb q => hwr b hb (q.sub f.old)) nl nc (fun _ => nF) (fun a q => List.mem_append.mpr (.inr (f.xm a q))) (List.mem_append.mpr (.inr f.fm))
      refine f3.as (hbs a ham) (fun x hx => hm a ham i x hx) iv fun h4 tk4 k4 f4 => ?_
      refine hbody i a ha _ _ f4 _ fun h5 tk5 k5 f5 => ⟨rfl, items.length - (i + 1), by omega, i + 1, h5, tk5, rfl, hlt, rfl, ?_, ?_, ?_, f5⟩
      · refine S.frame _ _ _ st3 fun b hb o e => k5 b o (fpo b hb) (k4 b o (fun q => fpo b hb (.tail _ q)) e)
      · exact ((kp2.trans fun b o n e => k3 b o (fun q => n (List.mem_append.mpr (.inr q))) e).trans fun b o n e => k4 b o (fun q => n (List.mem_append.mpr (.inl (.tail _ q)))) e).trans fun b o n e => k5 b o (fun q => n (List.mem_append.mpr (.inl q))) e
      · exact ((sb2.trans (KpX.hd k3 fun b hb => List.mem_append.mpr (.inl hb))).trans (KpX.hd k4 fun b q => mm b (.tail _ q))).trans (KpX.hd k5 mm)
    · obtain ⟨v, e, q⟩ := q
      subst e
      refine wpAny_mono q (fun _ _ h₂ => wpAny_mono h₂ (fun _ _ h₃ => wpAny_mono h₃ (fun fl _ h₄ => ?_) fun _ _ x => x) fun _ _ x => x) fun _ _ x => x
      obtain ⟨e, h₄⟩ := h₄
      subst e
      exact .inl ⟨rfl, h₄⟩
  · have hi' : i = items.length := by omega
    subst hi'
    refine S.done _ _ (by rw [List.length_map]; exact st2) fun h3 tk3 k3 => .inr ⟨rfl, codeAny_block (wpAny_execs_nil ?_)⟩
    have lv3 : ∀ b ∈ M, Live h3 b := fun b q => let ⟨o, e⟩ := f2.pre.live b (List.mem_append.mpr (.inr q)); ⟨o, k3 b o (fun z => wM b z q) e⟩
    refine h h3 tk3 (fun b o n e => ?_) (f2.off k3 (fun b hb => List.mem_append.mpr (.inl hb)) (fun b q => List.mem_append.mpr (.inr q)) lv3 (fun b hb q => hwr b hb (q.sub f.old)) nl nc (fun _ => nF) f.xm f.fm)
    have nw : b ∉ wr := fun q => hwr b q ⟨o, e⟩
    exact k3 b o nw (kp2 b o (fun q => (List.mem_append.mp q).elim n nw) (k1 b o e))
end
end Mine
namespace Mine
open PySem PySem.Calls PySem.Spec PyProof.Rows PySem.W

section
variable {Γ : Gl} {k : Nat} {nm : List (Str × NameKind)} {ρ : Ctx0} {xs : List Str} {A : Around} {env : Env} {h₀ : Heap} {X : List Addr} {F : Addr} {M : List Addr} {μ : Mu} {s : Shared} {rest : List Stmt} {Q : Flow → Shared → Prop} {pos : Pos}

/-- what a new object is to hold -/
def NewMu (Γ : Gl) (M : List Addr) (h : Heap) (D0 : Addr) (x : Str) : Mu → Prop
  | .none => False
  | .list y ds => y = x ∧ ∃ ys, PlainL h D0 ys ∧ All2 (Is Γ (Hd M h)) ys.toList ds
  | .dict y r => y = x ∧ RowIn Γ M h D0 r

theorem FS.newmut {F0 D0 : Addr} {x : Str} (f : FS Γ k nm xs A env h₀ X F0 M ρ .none s) (hx : x ∈ xs) (hρ : ρ.lookup x = none) {h1 : Heap} {tk : Nat} (k1 : Sub s.heap h1) (nD : ¬ Live s.heap D0) (lD : Live h1 D0) (hc : NewMu Γ (D0 :: M) h1 D0 x μ)
    {Q : Unit → Shared → Prop} (hQ : ∀ h' tk', KpX X h1 h' → FS Γ k nm xs A env h₀ X D0 (D0 :: M) ρ μ { s with heap := h', toks := tk' } → Q () { s with heap := h', toks := tk' }) :
    wpAny (model Γ.prog Γ.w) A (storeName env x (.ref D0)) Q E0 { s with heap := h1, toks := tk } := by
  have f1 := f.more (tk := tk) (wr := [D0]) k1 (fun b q z => by simp at q; subst q; exact nD z) fun b q => by simp at q; subst q; exact lD
  have nDX : D0 ∉ X := fun q => nD (f.pre.live D0 (f.xm D0 q))
  refine store_raw (s := { s with heap := h1, toks := tk }) f1.pre f1.frm hx fun h' tk' kp lv ry rx fr => hQ h' tk' kp ?_
  have hd : Sub (Hd ([D0] ++ M) h1) (Hd (D0 :: M) h') := KpX.hd kp f1.xm
  refine ⟨⟨f1.pre.rm, f1.pre.en, f.gb.trans fun b o e => kp b o (fun q => f.bx b q ⟨o, e⟩) (f1.old b o e), fun a q => lv a (f1.pre.live a q), fun y e hy => ?_, fun y c e => lv c (f1.pre.cells y c e)⟩, fr, f1.xm, f.gb, fun b o e => kp b o (fun q => f.bx b q ⟨o, e⟩) (f1.old b o e), f.bx, .head _,
    fun z => nD (z.sub f.old), fun _ => ⟨nDX, fun y c e q => nD (q ▸ f.pre.cells y c e)⟩, ?_⟩
  · obtain ⟨w, r, i⟩ := f1.pre.names y e hy
    exact ⟨w, ry y w (fun q => by subst q; rw [hρ] at hy; cases hy) r, i.keeps hd⟩
  · cases μ with
    | none => exact hc.elim
    | list y ds =>
      obtain ⟨rfl, ys, ⟨o, n, e, q⟩, hi⟩ := hc
      exact ⟨rx, ys, ⟨o, n, kp _ _ nDX e, q⟩, hi.imp fun _ _ i => i.keeps hd⟩
    | dict y r =>
      obtain ⟨rfl, q⟩ := hc
      exact ⟨rx, q.move (fun o e => kp _ _ nDX e) hd⟩

/-- x = [] -/
theorem x_new_list {F0 : Addr} {x : Str} {xp lp : Pos} (f : FS Γ k nm xs A env h₀ X F0 M ρ .none s) (hx : x ∈ xs) (hρ : ρ.lookup x = none)
    (h : ∀ D0 h' tk, D0 ∉ M → FS Γ k nm xs A env h₀ X D0 (D0 :: M) ρ (.list x []) { s with heap := h', toks := tk } → wpAny (model Γ.prog Γ.w) A (execs rest env) Q E0 { s with heap := h', toks := tk }) :
    wpAny (model Γ.prog Γ.w) A (execs (.Assign [.Name x xp] (.List [] lp) pos :: rest) env) Q E0 s := by
  refine wpAny_execs_cons (wpAny_Assign_Name ?_ (by rfl))
  refine List_ (args_nil (wpAny_newObj_type ?_))
  refine f.newmut (μ := .list x []) (h1 := s.heap.push _) (tk := s.toks) hx hρ (sub_push _ _) not_live_size ⟨_, Heap.get?_push_size _ rfl⟩ ⟨rfl, #[], ⟨_, 0, Heap.get?_push_size _ rfl, rfl, rfl, rfl⟩, .nil⟩ fun h' tk' _ f' => h _ h' tk' (fun m => not_live_size (f.pre.live _ m)) f'
/-- x = {} -/
theorem x_new_dict {F0 : Addr} {x : Str} {xp lp : Pos} (f : FS Γ k nm xs A env h₀ X F0 M ρ .none s) (big : sysModules < s.heap.objs.size) (hx : x ∈ xs) (hρ : ρ.lookup x = none)
    (h : ∀ D0 h' tk, D0 ∉ M → FS Γ k nm xs A env h₀ X D0 (D0 :: M) ρ (.dict x []) { s with heap := h', toks := tk } → wpAny (model Γ.prog Γ.w) A (execs rest env) Q E0 { s with heap := h', toks := tk }) :
    wpAny (model Γ.prog Γ.w) A (execs (.Assign [.Name x xp] (.Dict [] [] lp) pos :: rest) env) Q E0 s := by
  refine wpAny_execs_cons (wpAny_Assign_Name ?_ (by rfl))
  show wpAny _ A (do standAt lp; dictDisplay []) _ _ s
  refine wpAny_bind (wpAny_standAt ?_)
  have e : dictDisplay [] = (alloc { cls := .type "dict", data := .dict #[] } >>= fun a => pure (.ref a)) := by
    first | rfl | (unfold dictDisplay; rfl)
  rw [e]
  refine wpAny_bind (wpAny_alloc (wpAny_pure ?_))
  refine f.newmut (μ := .dict x []) (h1 := s.heap.push _) (tk := s.toks) hx hρ (sub_push _ _) not_live_size ⟨_, Heap.get?_push_size _ rfl⟩ ⟨rfl, Nat.ne_of_gt big, [], Heap.DictOfH.new s.heap, fun _ q => absurd q List.not_mem_nil, .nil⟩ fun h' tk' _ f' => h _ h' tk' (fun m => not_live_size (f.pre.live _ m)) f'

/-- the object under change takes a new content -/
theorem FS.upd {x : Str} {ds : List D} (f : FS Γ k nm xs A env h₀ X F M ρ (.list x ds) s) {h' : Heap} {tk : Nat} (hs : Heap.SameBut F s.heap h') {zs : Array Value} {es : List D} (hl : PlainL h' F zs) (hi : All2 (Is Γ (Hd M s.heap)) zs.toList es) :
    FS Γ k nm xs A env h₀ X F M ρ (.list x es) { s with heap := h', toks := tk } := by
  have kp : KpX [F] s.heap h' := sameBut_kpx hs (by simp)
  have lF : Live h' F := let ⟨o, _, e, _⟩ := hl; ⟨o, e⟩
  have lv : ∀ a, Live s.heap a → Live h' a := fun a q => kp.live (fun b hb => by simp at hb; subst hb; exact lF) q
  have hd : Sub (Hd M s.heap) (Hd M h') := kp.hd fun a q => by simp at q; subst q; exact f.fm
  obtain ⟨fx1, fx2⟩ := f.fx (by simp)
  have n1 : env.locals ∉ [F] := fun q => by simp at q; exact fx1 (q ▸ f.frm.loc)
  have n2 : ∀ y c, env.cells.lookup y = some c → c ∉ [F] := fun y c e q => by simp at q; exact fx2 y c e q
  have oo : Sub h₀ h' := fun b o e => kp b o (fun q => by simp at q; subst q; exact f.bf ⟨o, e⟩) (f.old b o e)
  exact ⟨⟨f.pre.rm, f.pre.en, f.gb.trans oo, fun a q => lv a (f.pre.live a q), fun y e hy => let ⟨w, r, i⟩ := f.pre.names y e hy; ⟨w, reach_off kp n1 n2 r, i.keeps hd⟩, fun y c e => lv c (f.pre.cells y c e)⟩, frm_off f.frm kp n1 n2, f.xm, f.gb, oo, f.bx, f.fm, f.bf,
    fun _ => f.fx (by simp), reach_off kp n1 n2 f.mu.1, zs, hl, hi.imp fun _ _ i => i.keeps hd⟩

/-- x.append(e) -/
theorem x_append {x : Str} {ds : List D} {xp ap cp : Pos} {e : PySem.Expr} {d : D} (f : FS Γ k nm xs A env h₀ X F M ρ (.list x ds) s) (he : Ev Γ k nm ρ e d) (hsz : ds.length < sizeLine)
    (hn : (x == ("__classdict__" : Str)) = false) (hd : (x == ("__debug__" : Str)) = false)
    (hbase : ∀ env, attributeBase (.Name x xp) "append" env (eval (.Name x xp) env) = eval (.Name x xp) env) (hint : interactive env = false) (hline : (ap.endLine == cp.line) = true)
    (hfew : ∀ env, ((backTo cp (starEach [e] env)).all (fun x => !x.1) && (backToKw cp (keywordEach [] env)).all (fun x => x.1.isSome)
      && decide (([e] : List PySem.Expr).length + ([] : List Keyword).length + (if ([] : List Keyword).isEmpty then 0 else 1) < 30)) = true) (htrees : ∀ env, backTo cp (starEach [e] env) = [(false, eval e env)])
    (h : ∀ h' tk, KpX (F :: X) s.heap h' → FS Γ k nm xs A env h₀ X F M ρ (.list x (ds ++ [d])) { s with heap := h', toks := tk } → wpAny (model Γ.prog Γ.w) A (execs rest env) Q E0 { s with heap := h', toks := tk }) :
    wpAny (model Γ.prog Γ.w) A (execs (.Expr (.Call (.Attribute (.Name x xp) "append" ap) [e] [] cp) pos :: rest) env) Q E0 s := by
  refine wpAny_execs_cons (wpAny_Expr ?_ hint (by rfl))
  refine wpAny_Call_append (hbase env) (hfew env) hline (htrees env) ?_
  obtain ⟨r, ys, hl, hi⟩ := f.mu
  refine wpAny_Name (load_reach f.pre.en r hn ⟨F, ys, rfl, hl, he A env M s f.pre _ fun v h1 tk1 k1 iv => ?_⟩) hd
  have f1 := f.sub (tk := tk1) k1
  obtain ⟨r1, ys1, hl1, hi1⟩ := f1.mu
  have hlen : ys1.size = ds.length := by rw [← hi1.length, Array.length_toList]
  refine list_append_plainL hl1 (fun h2 hl2 hs2 => ?_) (by omega)
  have kp : KpX [F] h1 h2 := sameBut_kpx hs2 (by simp)
  refine h h2 tk1 (fun b o n e => kp b o (fun q => n (by simp at q; subst q; exact .head _)) (k1 b o e)) (f1.upd (tk := tk1) hs2 hl2 ?_)
  rw [Array.toList_push]
  exact hi1.append (.cons iv .nil)
end
end Mine
namespace Mine
open PySem PySem.Calls PySem.Spec PyProof.Rows PySem.W

def atomPy : Str ⊕ Int → PyData
  | .inl x => .str x
  | .inr i => .int i
def keyPy (K : KeyT) : PyData := .tuple (K.map atomPy)
def rowHas (r : Row) (K : KeyT) : Bool := r.any fun kv => decide (kv.1 = K)
def rowPut (r : Row) (K : KeyT) (i : Int) : Row := if rowHas r K then r.map fun kv => if kv.1 = K then (kv.1, i) else kv else r ++ [(K, i)]
def rowGet (r : Row) (K : KeyT) : Int := ((r.find? fun kv => decide (kv.1 = K)).map (·.2)).getD 0
theorem atomPy_is {Γ : Gl} {h : Heap} {v : Value} {a : Str ⊕ Int} (i : Is Γ h v (.py (atomPy a))) : KeyIs a v = true := by
  cases a with
  | inl x => obtain ⟨t, rfl⟩ := is_str.mp i; simp [KeyIs, Value.isStrOf]
  | inr x => obtain ⟨t, rfl⟩ := is_int.mp i; simp [KeyIs, Value.isInt]
theorem is_atomPy {Γ : Gl} {h : Heap} {v : Value} {a : Str ⊕ Int} (i : KeyIs a v = true) : Is Γ h v (.py (atomPy a)) := by
  cases a with
  | inl x => obtain ⟨t, rfl⟩ := KeyIs.str i; exact is_str.mpr ⟨t, rfl⟩
  | inr x => obtain ⟨t, rfl⟩ := KeyIs.int i; exact is_int.mpr ⟨t, rfl⟩
theorem keyPy_is {Γ : Gl} {h : Heap} {v : Value} {K : KeyT} (i : Is Γ h v (.py (keyPy K))) : ∃ a, v = .ref a ∧ IsTupleKey (mixKind Γ.prog Γ.w) h K a := by
  obtain ⟨a, vs, rfl, ⟨o, e, hc, n, hd⟩, q⟩ := is_tuple.mp i
  refine ⟨a, rfl, o, vs, n, e, hc, hd, ?_⟩
  have : ∀ {vs : List Value} {K : KeyT}, All2 (fun v d => Is Γ h v (.py d)) vs (K.map atomPy) → ItemsAre (mixKind Γ.prog Γ.w) K vs := by
    intro vs K
    induction K generalizing vs with
    | nil => intro q; cases q; exact .nil
    | cons a K ih => intro q; cases q with | cons q1 q2 => exact .cons (atomPy_is q1) (ih q2)
  exact this q
theorem is_keyPy {Γ : Gl} {h : Heap} {a : Addr} {K : KeyT} (i : IsTupleKey (mixKind Γ.prog Γ.w) h K a) : Is Γ h (.ref a) (.py (keyPy K)) := by
  obtain ⟨o, vs, n, e, hc, hd, q⟩ := i
  refine is_tuple.mpr ⟨a, vs, rfl, ⟨o, e, hc, n, hd⟩, ?_⟩
  have : ∀ {vs : List Value} {K : KeyT}, ItemsAre (mixKind Γ.prog Γ.w) K vs → All2 (fun v d => Is Γ h v (.py d)) vs (K.map atomPy) := by
    intro vs K q
    induction q with
    | nil => exact .nil
    | cons h1 _ ih => exact .cons (is_atomPy h1) ih
  exact this q

abbrev Vals (xs : List (KeyT × Addr × Value)) (r : Row) : Prop := All2 (fun x kv => x.1 = kv.1 ∧ IntV x.2.2 kv.2) xs r
theorem vals_has {xs : List (KeyT × Addr × Value)} {r : Row} (v : Vals xs r) (K : KeyT) : (atKey xs K).isSome = rowHas r K := by
  unfold rowHas
  induction v with
  | nil => rfl
  | @cons a b as bs h1 h2 ih =>
    unfold atKey at ih ⊢
    by_cases q : b.1 = K
    · have q' : a.1 = K := h1.1.trans q
      simp [q, q']
    · have q' : ¬ a.1 = K := fun z => q (h1.1.symm.trans z)
      simpa [q, q'] using ih
theorem vals_get {xs : List (KeyT × Addr × Value)} {r : Row} (v : Vals xs r) {K : KeyT} {p : Addr × Value} (h : atKey xs K = some p) : IntV p.2 (rowGet r K) := by
  unfold rowGet
  induction v with
  | nil => simp [atKey] at h
  | @cons a b as bs h1 h2 ih =>
    unfold atKey at ih h
    by_cases q : b.1 = K
    · have q' : a.1 = K := h1.1.trans q
      simp [q'] at h
      subst h
      simpa [q] using h1.2
    · have q' : ¬ a.1 = K := fun z => q (h1.1.symm.trans z)
      simp [q'] at h
      simpa [q] using ih (by simpa using h)
theorem vals_put {xs : List (KeyT × Addr × Value)} {r : Row} (v : Vals xs r) (K : KeyT) (a : Addr) {w : Value} {i : Int} (hw : IntV w i) : Vals (storedH xs K a w) (rowPut r K i) := by
  unfold storedH rowPut
  rw [vals_has v K]
  cases rowHas r K with
  | true =>
    simp only [if_true]
    refine v.map fun x kv ⟨h1, h2⟩ => ?_
    unfold putAt
    by_cases q : kv.1 = K
    · rw [if_pos (h1.trans q), if_pos q]; exact ⟨h1, hw⟩
    · rw [if_neg fun z => q (h1.symm.trans z), if_neg q]; exact ⟨h1, h2⟩
  | false =>
    simp only [Bool.false_eq_true, if_false]
    exact v.append (.cons ⟨rfl, hw⟩ .nil)
theorem stored_mem {xs : List (KeyT × Addr × Value)} {K : KeyT} {a : Addr} {w : Value} {P : KeyT → Addr → Prop} (h : ∀ x ∈ xs, P x.1 x.2.1) (hk : P K a) : ∀ x ∈ storedH xs K a w, P x.1 x.2.1 := by
  unfold storedH
  split
  · intro x hx
    obtain ⟨y, hy, rfl⟩ := List.mem_map.mp hx
    unfold putAt
    split
    · exact h y hy
    · exact h y hy
  · intro x hx
    rcases List.mem_append.mp hx with q | q
    · exact h x q
    · simp at q; subst q; exact hk
theorem rowPut_length (r : Row) (K : KeyT) (i : Int) : (rowPut r K i).length ≤ r.length + 1 := by
  unfold rowPut
  split <;> simp

section
variable {Γ : Gl} {k : Nat} {nm : List (Str × NameKind)} {ρ : Ctx0} {xs : List Str} {A : Around} {env : Env} {h₀ : Heap} {X : List Addr} {F : Addr} {M : List Addr} {μ : Mu} {s : Shared} {rest : List Stmt} {Q : Flow → Shared → Prop} {pos : Pos}

theorem sys_ne {a : Addr} (h : a ≠ sysModules) : (a == sysModules) = false := beq_eq_false_iff_ne.mpr h
theorem cm_in_tdict {K : KeyT} {r : Row} : Cm Γ k .In (.py (keyPy K)) (.tdict r) (rowHas r K) := by
  rintro A s v w rm iv ⟨a, rfl, hs, ys, hd, hv⟩ Q hQ
  obtain ⟨b, rfl, hk⟩ := keyPy_is iv
  refine wpAny_in_heap (knd := tKind Γ) (tupleKind_room_in1 (rm.u 1)) hk (sys_ne hs) hd ?_
  rw [vals_has hv]
  exact hQ _

/-- x[key] = value, in the dict under change -/
theorem FS.setRow {x : Str} {r : Row} (f : FS Γ k nm xs A env h₀ X F M ρ (.dict x r) s) {K : KeyT} {a : Addr} (hk : IsTupleKey (mixKind Γ.prog Γ.w) (Hd M s.heap) K a) {w : Value} {i : Int} (hw : IntV w i) (hsz : r.length ≤ sizeLine) {Q : Unit → Shared → Prop}
    (hQ : ∀ h' tk, KpX (F :: X) s.heap h' → FS Γ k nm xs A env h₀ X F M ρ (.dict x (rowPut r K i)) { s with heap := h', toks := tk } → Q () { s with heap := h', toks := tk }) : wpAny (model Γ.prog Γ.w) A (setItem (.ref F) (.ref a) w) Q E0 s := by
  obtain ⟨r1, hs, ys, hd, hk2, hv⟩ := f.mu
  have hk' : IsTupleKey (mixKind Γ.prog Γ.w) s.heap K a := let ⟨o, its, n, e, q⟩ := hk; ⟨o, its, n, of_hideAll _ e, q⟩
  refine wpAny_setItem_heap (knd := tKind Γ) (tupleKind_room_in1 (f.pre.rm.u 1)) hk' hd (fun h' hd' hsb => ?_) (by rw [hv.length]; exact hsz)
  have kp : KpX [F] s.heap h' := sameBut_kpx hsb (by simp)
  have lF : Live h' F := let ⟨o, _, _, e, _⟩ := hd'; ⟨o, e⟩
  have lv : ∀ a, Live s.heap a → Live h' a := fun a q => kp.live (fun b hb => by simp at hb; subst hb; exact lF) q
  have hdd : Sub (Hd M s.heap) (Hd M h') := kp.hd fun a q => by simp at q; subst q; exact f.fm
  obtain ⟨fx1, fx2⟩ := f.fx (by simp)
  have n1 : env.locals ∉ [F] := fun q => by simp at q; exact fx1 (q ▸ f.frm.loc)
  have n2 : ∀ y c, env.cells.lookup y = some c → c ∉ [F] := fun y c e q => by simp at q; exact fx2 y c e q
  have oo : Sub h₀ h' := fun b o e => kp b o (fun q => by simp at q; subst q; exact f.bf ⟨o, e⟩) (f.old b o e)
  refine hQ h' _ (fun b o n e => kp b o (fun q => n (by simp at q; subst q; exact .head _)) e)
    ⟨⟨f.pre.rm, f.pre.en, f.gb.trans oo, fun a q => lv a (f.pre.live a q), fun y e hy => let ⟨w, r, i⟩ := f.pre.names y e hy; ⟨w, reach_off kp n1 n2 r, i.keeps hdd⟩, fun y c e => lv c (f.pre.cells y c e)⟩, frm_off f.frm kp n1 n2, f.xm, f.gb, oo, f.bx, f.fm, f.bf, fun _ => f.fx (by simp), reach_off kp n1 n2 r1, hs, _, hd', ?_, vals_put hv K a hw⟩
  have mv : ∀ K a, IsTupleKey (mixKind Γ.prog Γ.w) (Hd M s.heap) K a → IsTupleKey (mixKind Γ.prog Γ.w) (Hd M h') K a := fun K a ⟨o, its, n, e, q⟩ => ⟨o, its, n, hdd _ _ e, q⟩
  exact stored_mem (P := fun K a => IsTupleKey (mixKind Γ.prog Γ.w) (Hd M h') K a) (fun x hx => mv _ _ (hk2 x hx)) (mv _ _ hk)

theorem x_dset {x y z : Str} {xp yp zp sp : Pos} {r : Row} {K : KeyT} {i : Int} (f : FS Γ k nm xs A env h₀ X F M ρ (.dict x r) s) (hy : ρ.lookup y = some (.py (keyPy K))) (hz : ρ.lookup z = some (I i)) (hsz : r.length ≤ sizeLine)
    (nx : (x == ("__classdict__" : Str)) = false) (dx : (x == ("__debug__" : Str)) = false) (ny : (y == ("__classdict__" : Str)) = false) (dy : (y == ("__debug__" : Str)) = false) (nz : (z == ("__classdict__" : Str)) = false) (dz : (z == ("__debug__" : Str)) = false)
    (h : ∀ h' tk, KpX (F :: X) s.heap h' → FS Γ k nm xs A env h₀ X F M ρ (.dict x (rowPut r K i)) { s with heap := h', toks := tk } → wpAny (model Γ.prog Γ.w) A (execs rest env) Q E0 { s with heap := h', toks := tk }) :
    wpAny (model Γ.prog Γ.w) A (execs (.Assign [.Subscript (.Name x xp) (.Name y yp) sp] (.Name z zp) pos :: rest) env) Q E0 s := by
  obtain ⟨w, rw1, iw⟩ := f.pre.names z _ hz
  obtain ⟨v, rv, iv⟩ := f.pre.names y _ hy
  obtain ⟨a, rfl, hk⟩ := keyPy_is iv
  refine wpAny_execs_cons (wpAny_Assign_Subscript (wpAny_Name (load_reach f.pre.en rw1 nz ?_) dz))
  refine wpAny_Name (load_reach f.pre.en f.mu.1 nx ?_) dx
  refine wpAny_Name (load_reach f.pre.en rv ny ?_) dy
  exact f.setRow hk (is_int.mp iw) hsz h
theorem x_daug {x y z : Str} {xp yp zp sp : Pos} {r : Row} {K : KeyT} {i : Int} (f : FS Γ k nm xs A env h₀ X F M ρ (.dict x r) s) (hy : ρ.lookup y = some (.py (keyPy K))) (hz : ρ.lookup z = some (I i)) (hsz : r.length ≤ sizeLine) (hh : rowHas r K = true)
    (nx : (x == ("__classdict__" : Str)) = false) (dx : (x == ("__debug__" : Str)) = false) (ny : (y == ("__classdict__" : Str)) = false) (dy : (y == ("__debug__" : Str)) = false) (nz : (z == ("__classdict__" : Str)) = false) (dz : (z == ("__debug__" : Str)) = false)
    (h : ∀ h' tk, KpX (F :: X) s.heap h' → FS Γ k nm xs A env h₀ X F M ρ (.dict x (rowPut r K (rowGet r K + i))) { s with heap := h', toks := tk } → wpAny (model Γ.prog Γ.w) A (execs rest env) Q E0 { s with heap := h', toks := tk }) :
    wpAny (model Γ.prog Γ.w) A (execs (.AugAssign (.Subscript (.Name x xp) (.Name y yp) sp) .Add (.Name z zp) pos :: rest) env) Q E0 s := by
  obtain ⟨w, rw1, iw⟩ := f.pre.names z _ hz
  obtain ⟨t, rfl⟩ := is_int.mp iw
  obtain ⟨v, rv, iv⟩ := f.pre.names y _ hy
  obtain ⟨a, rfl, hk⟩ := keyPy_is iv
  have hk' : IsTupleKey (mixKind Γ.prog Γ.w) s.heap K a := let ⟨o, its, n, e, q⟩ := hk; ⟨o, its, n, of_hideAll _ e, q⟩
  obtain ⟨r1, hs, ys, hd, hk2, hv⟩ := f.mu
  obtain ⟨p, hp⟩ : ∃ p, atKey ys K = some p := Option.isSome_iff_exists.mp ((vals_has hv K).trans hh)
  obtain ⟨u, hu⟩ := vals_get hv hp
  refine wpAny_execs_cons (wpAny_AugAssign_Subscript (wpAny_Name (load_reach f.pre.en r1 nx ?_) dx))
  refine wpAny_Name (load_reach f.pre.en rv ny ?_) dy
  refine wpAny_getItem_heap (knd := tKind Γ) (tupleKind_room_in1 (f.pre.rm.u 1)) hk' hd hp ?_
  rw [hu]
  refine wpAny_Name (load_reach (s := { s with toks := _ }) f.pre.en rw1 nz ?_) dz
  refine P.iadd_int ?_
  refine (f.sub (tk := s.toks + (tKind Γ).draws K + 1) (Sub.refl _)).setRow (i := rowGet r K + i) hk ⟨_, rfl⟩ hsz fun h' tk k' f' => ?_
  exact h h' tk k' f'
end
end Mine
namespace Mine
open PySem PySem.Calls PySem.Spec PyProof.Rows PySem.W

theorem bindL_off {kd : Str → Option NameKind} : ∀ {binds : List (Str × Value)} {m : Str → Option Value} {x : Str}, (∀ v, (x, v) ∉ binds) → bindL kd binds m x = m x
  | [], _, _, _ => rfl
  | (n, v) :: r, m, x, h => by
    unfold bindL
    rw [bindL_off fun w q => h w (.tail _ q)]
    split
    · have : x ≠ n := fun q => h v (by rw [q]; exact .head _)
      simp [this]
    · rfl
theorem bindL_on {kd : Str → Option NameKind} : ∀ {binds : List (Str × Value)} {m : Str → Option Value} {x : Str} {v : Value}, (binds.map (·.1)).Nodup → (x, v) ∈ binds → kd x = some .local → bindL kd binds m x = some v
  | (n, w) :: r, m, x, v, hn, hm, hk => by
    rw [List.map_cons, List.nodup_cons] at hn
    unfold bindL
    rcases List.mem_cons.mp hm with q | q
    · cases q
      rw [bindL_off fun w q => hn.1 (List.mem_map.mpr ⟨_, q, rfl⟩), if_pos hk]
      simp
    · exact bindL_on hn.2 q hk
theorem bindC_off {kd : Str → Option NameKind} : ∀ {binds : List (Str × Value)} {m : Str → Option Value} {x : Str}, (∀ v, (x, v) ∉ binds) → bindC kd binds m x = m x
  | [], _, _, _ => rfl
  | (n, v) :: r, m, x, h => by
    unfold bindC
    rw [bindC_off fun w q => h w (.tail _ q)]
    split
    · rfl
    · have : x ≠ n := fun q => h v (by rw [q]; exact .head _)
      simp [this]
theorem bindC_on {kd : Str → Option NameKind} : ∀ {binds : List (Str × Value)} {m : Str → Option Value} {x : Str} {v : Value}, (binds.map (·.1)).Nodup → (x, v) ∈ binds → kd x ≠ some .local → bindC kd binds m x = some v
  | (n, w) :: r, m, x, v, hn, hm, hk => by
    rw [List.map_cons, List.nodup_cons] at hn
    unfold bindC
    rcases List.mem_cons.mp hm with q | q
    · cases q
      rw [bindC_off fun w q => hn.1 (List.mem_map.mpr ⟨_, q, rfl⟩), if_neg hk]
      simp
    · exact bindC_on hn.2 q hk
theorem zip_look {R : Value → D → Prop} : ∀ {ps : List Str} {vs : List Value} {ds : List D} {x : Str} {d : D}, All2 R vs ds → (ps.zip ds).lookup x = some d → ∃ v, (x, v) ∈ ps.zip vs ∧ R v d
  | [], _, _, _, _, _, h => by simp at h
  | p :: ps, _, _, x, d, .nil, h => by simp at h
  | p :: ps, _, _, x, d, .cons r q, h => by
    simp only [List.zip_cons_cons] at h ⊢
    rw [List.lookup_cons] at h
    cases hb : x == p with
    | true => rw [hb] at h; cases h; rw [eq_of_beq hb]; exact ⟨_, .head _, r⟩
    | false => rw [hb] at h; obtain ⟨v, hv, i⟩ := zip_look q h; exact ⟨v, .tail _ hv, i⟩
theorem zip_names : ∀ {ps : List Str} {vs : List Value}, vs.length = ps.length → (ps.zip vs).map (·.1) = ps
  | [], [], _ => rfl
  | p :: ps, v :: vs, h => by simp at h; simp [zip_names h]

/-- a def of the module, where it lies -/
structure DefAt (Γ : Gl) (a : Addr) (name : Str) (params : Arguments) (body : List Stmt) (scope : Scope) : Prop where
  at_ : ∃ o pm cd doc, Γ.B.get? a = some o ∧ o.data = .func (docDef name params body scope pm cd doc) ∧ Γ.B.CodeRec cd name
theorem DefAt.isFn {Γ : Gl} {a : Addr} {name : Str} {params : Arguments} {body : List Stmt} {scope : Scope} (d : DefAt Γ a name params body scope) : ∃ o fd, Γ.B.get? a = some o ∧ o.data = .func fd :=
  let ⟨o, _, _, _, h1, h2, _⟩ := d.at_; ⟨o, _, h1, h2⟩

/-- what a def's names must look like -/
def defOkB (scope : Scope) (ps xs : List Str) : Bool :=
  scope.kind == .function && !scope.isCoroutine && !scope.isGenerator && xs.all (fun x => scope.names.lookup x == some .local || (scope.names.lookup x == some .cell && scope.names.contains (x, .cell))) &&
  ps.all (fun x => scope.names.lookup x == some .local || (scope.names.lookup x == some .cell && scope.names.contains (x, .cell))) && decide ps.Nodup && decide ((cellsFrom 0 scope.names []).map (·.1)).Nodup

section
variable {Γ : Gl} {k : Nat}
theorem fn_def {a : Addr} {name : Str} {params : Arguments} {body : List Stmt} {scope : Scope} {ps xs : List Str} {ds : List D} {r : D} (gok : Γ.Ok) (d : DefAt Γ a name params body scope) (hk : defOkB scope ps xs = true) (hl : ps.length = ds.length)
    (hbind : ∀ pm cd doc vs, vs.length = ps.length → bindArgs (docDef name params body scope pm cd doc) ⟨vs, []⟩ = pure (ps.zip vs))
    (hbody : ∀ A env h₀ X M s, FS Γ k scope.names xs A env h₀ X env.locals M (ps.zip ds) .none s → ∀ Q : Flow → Shared → Prop,
      (∀ v h' tk, Sub h₀ h' → Is Γ (Hd M h') v r → Q (.ret v) { s with heap := h', toks := tk }) → wpAny (model Γ.prog Γ.w) A (execs body env) Q E0 s) :
    Fn Γ (k + 1) (.ref a) ds r := by
  intro A M s vs rm base live hvs Q hQ
  obtain ⟨o, pm, cd, doc, ho, hd, hc⟩ := d.at_
  unfold defOkB at hk
  simp only [Bool.and_eq_true, Bool.not_eq_true'] at hk
  obtain ⟨⟨⟨⟨⟨⟨k1, k2⟩, k3⟩, k4⟩, k5⟩, k6⟩, k7⟩ := hk
  have hkind : scope.kind = .function := eq_of_beq k1
  have hlen : vs.length = ps.length := by rw [hvs.length, hl]
  have hnod : ps.Nodup := of_decide_eq_true k6
  have own : ∀ x, (x ∈ ps ∨ x ∈ xs) → scope.names.lookup x = some .local ∨ (scope.names.lookup x = some .cell ∧ (x, NameKind.cell) ∈ scope.names) := fun x hx => by
    rcases hx with hx | hx
    · have := List.all_eq_true.mp k5 x hx
      simpa [List.contains_iff_mem] using this
    · have := List.all_eq_true.mp k4 x hx
      simpa [List.contains_iff_mem] using this
  have cellAt : ∀ x n, (x, NameKind.cell) ∈ scope.names → ∃ c, (cellsFrom n scope.names []).lookup x = some c := fun x n h => let ⟨c0, h0⟩ := cellsFrom_has scope.names n x h; lookup_mem_some h0
  refine wpAny_call (call_cells_ret (A := A) rm.room (base _ _ ho) hd (let ⟨mc, x, y⟩ := gok.lim; ⟨mc, x.keeps base, y⟩) (hc.keeps base) (hbind pm cd doc vs hlen) (fun x hx => ?_) (fun h₁ tk F C => ?_) k2 k3 hkind)
  · have hx' : x.1 ∈ ps := by
      have : x.1 ∈ (ps.zip vs).map (·.1) := List.mem_map.mpr ⟨x, hx, rfl⟩
      rwa [zip_names hlen] at this
    rcases own x.1 (.inl hx') with q | ⟨q1, q2⟩
    · exact .inl q
    · obtain ⟨c, hc⟩ := cellAt x.1 (s.heap.objs.size + 1) q2
      exact .inr ⟨q1, by rw [hc]; rfl⟩
  · generalize hL : s.heap.objs.size = L at *
    generalize hcs : cellsFrom (L + 1) scope.names [] = cs at *
    have Llive : ¬ Live s.heap L := hL ▸ not_live_size
    have cnot : ∀ n c, (n, c) ∈ cs → ¬ Live s.heap c := fun n c h q => by
      have h1 : @LT.lt Nat _ L c := C.above n c h
      have h2 : @LT.lt Nat _ c s.heap.objs.size := live_lt q
      omega
    have old : Sub s.heap h₁ := F.keep
    have Xn : ∀ a ∈ L :: cs.map (·.2), ¬ Live s.heap a := fun a ha => by
      rcases List.mem_cons.mp ha with q | q
      · subst q; exact Llive
      · obtain ⟨⟨n, c⟩, h, rfl⟩ := List.mem_map.mp q; exact cnot n c h
    have lcell : ∀ n c, cs.lookup n = some c → Live h₁ c := fun n c e => let ⟨o, q, _⟩ := C.cell n c e; ⟨o, q⟩
    have cellsNd : ∀ n c, (n, c) ∈ cs → Live h₁ c := fun n c h =>
      lcell n c (lookup_of_mem_nodup (by rw [← hcs, cellsFrom_names scope.names (L + 1) 0 [] [] rfl]; exact of_decide_eq_true k7) h)
    have fs : FS Γ k scope.names xs (A.deeper (envOfC name scope L a cd)) (envOfC name scope L a cd) s.heap (L :: cs.map (·.2)) L ((L :: cs.map (·.2)) ++ M) (ps.zip ds) .none { s with heap := h₁, toks := tk } := by
      refine ⟨⟨rm.deeper _, ⟨hkind, rfl, rfl, rfl⟩, base.trans old, fun b hb => ?_, fun x e hx => ?_, fun x c e => lcell x c (by rw [← hcs]; exact e)⟩, ⟨⟨_, F.ns⟩, .head _, fun x hx => ?_⟩, fun b hb => List.mem_append.mpr (.inl hb), base, old, Xn, List.mem_append.mpr (.inl (.head _)), Llive, fun h => absurd rfl h, trivial⟩
      · rcases List.mem_append.mp hb with q | q
        · rcases List.mem_cons.mp q with q | q
          · subst q; obtain ⟨o, _, _, e, _⟩ := F.ns; exact ⟨o, e⟩
          · obtain ⟨⟨n, c⟩, h, rfl⟩ := List.mem_map.mp q; exact cellsNd n c h
        · exact (live b q).sub old
      · obtain ⟨v, hv, i⟩ := zip_look hvs hx
        have hxp : x ∈ ps := by
          have : x ∈ (ps.zip vs).map (·.1) := List.mem_map.mpr ⟨_, hv, rfl⟩
          rwa [zip_names hlen] at this
        have hn2 : ((ps.zip vs).map (·.1)).Nodup := by rw [zip_names hlen]; exact hnod
        refine ⟨v, ?_, i.keeps (hd_fresh old Xn)⟩
        rcases own x (.inl hxp) with q | ⟨q1, q2⟩
        · exact .inl ⟨q, _, F.ns, bindL_on hn2 hv q⟩
        · obtain ⟨c, hc⟩ := cellAt x (L + 1) q2
          refine .inr ⟨.inl q1, c, hc, ?_⟩
          have := C.cell x c (by rw [← hcs]; exact hc)
          rwa [bindC_on hn2 hv (by show scope.names.lookup x ≠ _; rw [q1]; simp)] at this
      · rcases own x (.inr hx) with q | ⟨q1, q2⟩
        · exact .inl q
        · obtain ⟨c, hc⟩ := cellAt x (L + 1) q2
          have hc' : cs.lookup x = some c := by rw [← hcs]; exact hc
          refine .inr ⟨q1, c, hc, .tail _ (List.mem_map.mpr ⟨_, mem_of_lookup hc', rfl⟩), ⟨_, C.cell x c hc'⟩, fun y hy => name_of_addr C.apart (mem_of_lookup (by rw [← hcs]; exact hy)) (mem_of_lookup hc')⟩
    refine hbody _ _ _ _ _ _ fs _ fun v h' tk' kk iv => hQ v h' tk' kk (iv.keeps (hd_less fun b q => List.mem_append.mpr (.inr q)))
end
end Mine
namespace Mine
open PySem PySem.Calls PySem.Spec PyProof.Rows PySem.W

section
variable {Γ : Gl} {k : Nat} {nm : List (Str × NameKind)} {ρ : Ctx0}

/-- an item of d at e -/
def Su (Γ : Gl) (k : Nat) (d e r : D) : Prop :=
  ∀ A M s o i, Rm A k → (∀ a ∈ M, Live s.heap a) → Is Γ (Hd M s.heap) o d → Is Γ (Hd M s.heap) i e → ∃ T id, typeLookup (.type T) "__getitem__" = pure (some (.builtin id)) ∧ s.TypeIs o T ∧
    ∀ Q : Value → Shared → Prop, (∀ v tk, Is Γ (Hd M s.heap) v r → Q v { s with toks := tk }) → wpAny (model Γ.prog Γ.w) A (getItem o i) Q E0 s
theorem ev_sub {a b : PySem.Expr} {pos : Pos} {d e r : D} (h1 : Ev Γ k nm ρ a d) (h2 : Ev Γ k nm ρ b e) (hs : Su Γ k d e r) (hb : ∀ o i, subscripted b false o i = operate [o, i] (getItem o i) := by intro _ _; with_unfolding_all rfl) :
    Ev Γ k nm ρ (.Subscript a b pos) r := by
  intro A env M s p Q hQ
  refine Subscript_ (h1 A env M s p _ fun o h' tk k' io => h2 A env M _ (p.keeps k') _ fun i h'' tk' k'' ii => ?_)
  obtain ⟨T, id, hl, hT, hg⟩ := hs A M { s with heap := h'', toks := tk' } o i p.rm ((p.keeps (tk := tk) k').keeps (tk := tk') k'').live (io.keeps (hd_sub_sub k'')) ii
  exact tail_any hT hl (hg Q fun v tk2 iv => hQ v h'' tk2 (k'.trans k'') iv) (hb o i)

theorem su_list {ds : List PyData} {i : Int} {r : PyData} (h0 : 0 ≤ i) (hx : ds[i.toNat]? = some r) (hf : i < 2 ^ 63) : Su Γ k (.py (.list ds)) (I i) (.py r) := by
  intro A M s o iv rm _ io ii
  obtain ⟨a, vs, rfl, hl, q⟩ := is_list.mp io
  obtain ⟨t, rfl⟩ := is_int.mp ii
  have hl' : s.heap.IsList a vs := isList_sub (hd_sub M s.heap) hl
  obtain ⟨v, e, iv⟩ := q.get hx
  exact ⟨"list", "list.__getitem__", slot_list_getitem.lookup, hl'.typeIs, fun Q hQ => wpAny_getItem_list hl' h0 hf (by rw [← Array.getElem?_toList]; exact e) (hQ v s.toks iv)⟩
theorem su_rows {rs : List Row} {i : Int} {r : Row} (h0 : 0 ≤ i) (hx : rs[i.toNat]? = some r) (hf : i < 2 ^ 63) : Su Γ k (.rows rs) (I i) (.tdict r) := by
  intro A M s o iv rm _ io ii
  obtain ⟨a, vs, rfl, hl, q⟩ := io
  obtain ⟨t, rfl⟩ := is_int.mp ii
  have hl' : s.heap.IsList a vs := isList_sub (hd_sub M s.heap) hl
  obtain ⟨v, e, iv⟩ := q.get hx
  exact ⟨"list", "list.__getitem__", slot_list_getitem.lookup, hl'.typeIs, fun Q hQ => wpAny_getItem_list hl' h0 hf (by rw [← Array.getElem?_toList]; exact e) (hQ v s.toks iv)⟩
theorem su_tuple {ds : List PyData} {i : Int} {r : PyData} {j : Nat} (hlo : -(2 ^ 63) ≤ i) (hhi : i < 2 ^ 63) (hj : seqIndex? i ds.length = some j) (hx : ds[j]? = some r) : Su Γ k (.py (.tuple ds)) (I i) (.py r) := by
  intro A M s o iv rm _ io ii
  obtain ⟨a, vs, rfl, hl, q⟩ := is_tuple.mp io
  obtain ⟨t, rfl⟩ := is_int.mp ii
  have hl' : s.heap.IsTuple a vs := let ⟨o, e, r⟩ := hl; ⟨o, hd_sub M s.heap _ _ e, r⟩
  obtain ⟨v, e, iv⟩ := q.get hx
  have hsz : vs.size = ds.length := by rw [← q.length, Array.length_toList]
  exact ⟨"tuple", _, slot_tuple_getitem.lookup, hl'.typeIs, fun Q hQ => PyProof.Rows.getItem_tuple hl' hlo hhi (by rw [hsz]; exact hj) (by rw [← Array.getElem?_toList]; exact e) (hQ v s.toks iv)⟩
theorem su_tuple_nat {ds : List PyData} {i : Nat} {r : PyData} (hx : ds[i]? = some r) (hs : ds.length < 1000) : Su Γ k (.py (.tuple ds)) (I i) (.py r) := by
  have hi : i < ds.length := (List.getElem?_eq_some_iff.mp hx).1
  refine su_tuple (j := i) (by omega) (by omega) ?_ hx
  unfold seqIndex?
  simp only [show ¬ ((i : Int) < 0) from by omega, if_false]
  rw [if_pos (by simp only [Bool.and_eq_true, decide_eq_true_eq]; omega)]
  simp
theorem su_tuple_last {ds : List PyData} {r : PyData} (hx : ds[ds.length - 1]? = some r) (hs : ds.length < 1000) : Su Γ k (.py (.tuple ds)) (I (-1)) (.py r) := by
  have hi : ds.length - 1 < ds.length := (List.getElem?_eq_some_iff.mp hx).1
  refine su_tuple (j := ds.length - 1) (by decide) (by decide) ?_ hx
  unfold seqIndex?
  simp only [show ((-1 : Int) < 0) from by decide, if_true]
  rw [if_pos (by simp only [Bool.and_eq_true, decide_eq_true_eq]; omega)]
  congr 1
  omega

theorem All2.take' {α β : Type} {R : α → β → Prop} {vs : List α} {ds : List β} (q : All2 R vs ds) : ∀ n, All2 R (vs.take n) (ds.take n) := by
  induction q with
  | nil => intro n; simp; exact .nil
  | cons r _ ih =>
    intro n
    cases n with
    | zero => exact .nil
    | succ n => exact .cons r (ih n)
theorem rep_all2 {α β : Type} {R : α → β → Prop} {v : α} {d : β} (r : R v d) : ∀ m : Nat, All2 R (List.replicate m [v]).flatten (List.replicate m d)
  | 0 => .nil
  | m + 1 => by rw [List.replicate_succ, List.flatten_cons, List.replicate_succ]; exact .cons r (rep_all2 r m)
theorem bi_cat {ds es : List PyData} (hs : ds.length + es.length ≤ sizeLine) : Bi Γ k .Add (.py (.list ds)) (.py (.list es)) (.py (.list (ds ++ es))) := by
  intro A M s v w rm base live iv iw Q hQ
  obtain ⟨a, vs, rfl, hl, q⟩ := is_list.mp iv
  obtain ⟨b, ws, rfl, hm, q2⟩ := is_list.mp iw
  obtain ⟨⟨cls, dd, data, sl⟩, ho, hc, n, hd⟩ := isList_sub (hd_sub M s.heap) hl
  obtain ⟨⟨cls2, dd2, data2, sl2⟩, ho2, hc2, n2, hd2⟩ := isList_sub (hd_sub M s.heap) hm
  simp only at hc hd hc2 hd2
  subst hc hd hc2 hd2
  have e1 := q.length
  have e2 := q2.length
  rw [Array.length_toList] at e1 e2
  refine concat_meets ⟨_, ho, rfl⟩ ⟨_, ho2, rfl⟩ noFill_list_add seq_list_add PySem.F.slot_list_add PySem.F.entry_list_add (PySem.F.args_list_add_2 _ _) (list_addW a b vs ws n n2 dd dd2 sl sl2 (by omega)) ⟨ho, ho2, ?_⟩
  refine hQ _ (s.heap.push _) _ (sub_push _ _) (is_list.mpr ⟨_, _, rfl, ⟨_, push_new live rfl, rfl, _, rfl⟩, ?_⟩)
  rw [Array.toList_append]
  exact (q.append q2).imp fun _ _ r => r.keeps (hd_sub_sub (sub_push _ _))

/-- a written list of one item, n times over -/
theorem bi_rep {d : PyData} {n : Int} (h0 : 0 ≤ n) (hn : n ≤ 1000) : Bi Γ k .Mult (.py (.list [d])) (I n) (.py (.list (List.replicate n.toNat d))) := by
  intro A M s v w rm base live iv iw Q hQ
  obtain ⟨a, vs, rfl, hl, q⟩ := is_list.mp iv
  obtain ⟨t, rfl⟩ := is_int.mp iw
  obtain ⟨⟨cls, dd, data, sl⟩, ho, hc, e, hd⟩ := isList_sub (hd_sub M s.heap) hl
  simp only at hc hd
  subst hc hd
  have e1 := q.length
  rw [Array.length_toList] at e1
  have hz : vs.size = 1 := by simpa using e1
  refine wpAny_binaryOp_repeat_ref (T := "list") (U := "int") (by decide) ⟨_, ho, rfl⟩ (fun s' => typeIs_int s' n t) noFill_list_mul PySem.F.fills_int_mul PySem.F.slot_int_rmul repeat_list PySem.F.slot_int_index.lookup
    (call_meets PySem.F.slot_int_rmul (typeIs_int s n t) PySem.F.entry_int_rmul (PySem.F.args_int_rmul_2 _ _) (lm_int_rmul_list_any n t a vs e dd sl)
      ⟨ho, rfl, ⟨_, ho, rfl⟩, call_meets PySem.F.slot_list_mul ⟨_, ho, rfl⟩ PySem.F.entry_list_mul (PySem.F.args_list_mul_2 _ _)
        (lm_list_mul_any a vs e dd sl n t (by simp [Builtin.List.listFitsIndex]; omega) (by rw [hz]; omega) (by rw [hz]; simp [Builtin.List.listTooLong, sizeLine]; omega))
        ⟨ho, ?_⟩⟩)
  refine hQ _ (s.heap.push _) _ (sub_push _ _) (is_list.mpr ⟨_, _, rfl, ⟨_, push_new live rfl, rfl, _, rfl⟩, ?_⟩)
  rw [listMul_foldl_if]
  cases hv : vs.toList with
  | nil => rw [hv] at q; cases q
  | cons v r =>
    rw [hv] at q
    cases q with
    | cons q1 q2 =>
      cases q2
      exact rep_all2 (R := fun v d => Is Γ (Hd M (s.heap.push _)) v (.py d)) (q1.keeps (hd_sub_sub (sub_push _ _))) n.toNat
end
end Mine
namespace Mine
open PySem PySem.Calls PySem.Spec PyProof.Rows PySem.W

section
variable {Γ : Gl} {k : Nat} {nm : List (Str × NameKind)} {ρ : Ctx0}

theorem fn_len_list {d : D} {ds : List D} (hi : Items Γ d ds) (hs : ds.length ≤ 1000000) : Fn Γ k (.builtin "len") [d] (I ds.length) := by
  intro A M s vs rm base live hvs Q hQ
  cases hvs with
  | cons iv q =>
    cases q
    obtain ⟨a, ws, rfl, hl, q⟩ := hi _ _ iv
    have e : ws.size = ds.length := by rw [← q.length, Array.length_toList]
    refine call_len_list (isList_sub (hd_sub M s.heap) hl) (by omega) ?_
    rw [e]
    exact hQ _ s.heap _ (Sub.refl _) (is_int.mpr ⟨_, rfl⟩)
theorem fn_len_py {ds : List PyData} (hs : ds.length ≤ 1000000) : Fn Γ k (.builtin "len") [.py (.list ds)] (I ds.length) := by
  have := fn_len_list (Γ := Γ) (k := k) (items_py (ds := ds)) (by rw [List.length_map]; exact hs)
  rwa [List.length_map] at this
theorem fn_len_idict {r : List (Int × Int)} (hs : r.length ≤ 1000000) : Fn Γ k (.builtin "len") [.idict r] (I r.length) := by
  intro A M s vs rm base live hvs Q hQ
  cases hvs with
  | cons iv q =>
    cases q
    obtain ⟨a, rfl, hn, xs, hd, hv⟩ := iv
    have e : xs.length = r.length := hv.length
    have hd' : s.heap.DictOf (intKind Γ.prog Γ.w) a xs := let ⟨o, es, ep, ho, r⟩ := hd; ⟨o, es, ep, hd_sub M s.heap _ _ ho, r⟩
    refine call_len_dict (knd := intKind Γ.prog Γ.w) (beq_eq_false_iff_ne.mpr hn) hd' (by omega) ?_
    rw [e]
    exact hQ _ s.heap _ (Sub.refl _) (is_int.mpr ⟨_, rfl⟩)
theorem fn_abs {i : Int} : Fn Γ k (.builtin "abs") [I i] (I (if i < 0 then -i else i)) := by
  intro A M s vs rm base live hvs Q hQ
  cases hvs with
  | cons iv q =>
    cases q
    obtain ⟨t, rfl⟩ := is_int.mp iv
    exact call_abs_int fun u tk => hQ _ s.heap tk (Sub.refl _) (is_int.mpr ⟨_, rfl⟩)

theorem ints_of {h : Heap} : ∀ {ns : List Int} {vs : List Value}, All2 (fun v d => Is Γ h v (.py d)) vs (ns.map PyData.int) → IntsAre vs ns
  | [], _, .nil => .nil
  | n :: ns, _, .cons r q => by
    obtain ⟨t, rfl⟩ := is_int.mp r
    exact .cons _ _ (ints_of q)
theorem of_ints {h : Heap} : ∀ {ns : List Int} {vs : List Value}, IntsAre vs ns → All2 (fun v d => Is Γ h v (.py d)) vs (ns.map PyData.int)
  | _, _, .nil => .nil
  | _, _, .cons _ _ q => .cons (is_int.mpr ⟨_, rfl⟩) (of_ints q)

theorem perm_same : ∀ {a b : List Int}, a.Perm b → a.Pairwise (· ≤ ·) → b.Pairwise (· ≤ ·) → a = b := fun hp ha hb => ksm_same hp ha hb
theorem fn_sorted {ns ms : List Int} (hp : ms.Perm ns) (ho : ms.Pairwise (· ≤ ·)) (h64 : ns.length < 64) : Fn Γ k (.builtin "sorted") [.py (.list (ns.map PyData.int))] (.py (.list (ms.map PyData.int))) := by
  intro A M s vs rm base live hvs Q hQ
  cases hvs with
  | cons iv q =>
    cases q
    obtain ⟨a, ws, rfl, hl, q⟩ := is_list.mp iv
    have hI := ints_of q
    have hl' : s.heap.IsList a ws.toList.toArray := by rw [Array.toArray_toList]; exact isList_sub (hd_sub M s.heap) hl
    have e := q.length
    refine sorted_ints hl' hI (by rw [e, List.length_map]; exact h64) fun out ns' a1 a2 a3 => ?_
    have e2 : ns' = ms := perm_same (a2.trans hp.symm) a3 ho
    subst e2
    have kk : Sub s.heap (sortedAll s.heap ws.toList out) := fun b o e => sortedAll_old e
    obtain ⟨n, hn⟩ := sortedAll_at s.heap ws.toList out
    refine hQ _ (sortedAll s.heap ws.toList out) s.toks kk (is_list.mpr ⟨_, out, rfl, ⟨_, hd_get hn fun m => ?_, rfl, n, rfl⟩, of_ints a1⟩)
    have := live_lt (live _ m)
    have q' : @LT.lt Nat _ (s.heap.objs.size + 1) s.heap.objs.size := this
    omega

theorem fn_tuple {ds : List PyData} (hs : ds.length ≤ sizeLine) : Fn Γ k (.type "tuple") [.py (.list ds)] (.py (.tuple ds)) := by
  intro A M s vs rm base live hvs Q hQ
  cases hvs with
  | cons iv q =>
    cases q
    obtain ⟨a, ws, rfl, hl, q⟩ := is_list.mp iv
    have e := q.length
    rw [Array.length_toList] at e
    refine call_tuple_list (isList_sub (hd_sub M s.heap) hl) (fun h' kk => ?_) (by rw [e]; exact hs)
    have lv : ∀ b ∈ M, Live h' b := fun b m => (live b m).sub kk
    exact hQ _ _ s.toks ((show Sub s.heap h' from kk).trans (sub_push _ _)) (is_tuple.mpr ⟨_, ws, rfl, ⟨_, push_new lv rfl, rfl, _, rfl⟩, q.imp fun _ _ r => r.keeps (hd_sub_sub ((show Sub s.heap h' from kk).trans (sub_push _ _)))⟩)

end
end Mine
namespace Mine
open PySem PySem.Calls PySem.Spec PyProof.Rows PySem.W

theorem f_entry_dul : entryFor table "dict.update.loop" = some Builtin.«dict.update.loop» := entryFor_of_tree (by kernel_rfl)
theorem f_plain_dul : plainId "dict.update.loop" = true := by decide +kernel
theorem f_list_keys : typeLookup (.type "list") "keys" = pure none := am_miss_of_fast (by kernel_rfl)

theorem attrQ_miss_list {prog : Program} {w : World} {A : Around} {E : Value → Shared → Prop} {s : Shared} {a : Addr} {o : Obj} {xs : Array Value} {k : Nat} {name : Str} {Q : Option Value → Shared → Prop}
    (hx : s.heap.get? a = some o) (hc : o.cls = .type "list") (hdat : o.data = .seq xs k) (hd : o.dict = none) (hmiss : typeLookup (.type "list") name = pure none) (hname : (["__module__", "__name__", "__qualname__", "__doc__", "__annotations__"] : List Str).contains name = false) (hA : A.handled = none)
    (h : ∀ h' tk, (∀ b o, s.heap.get? b = some o → h'.get? b = some o) → Q none { s with heap := h', toks := tk }) (hsz : name.length + 100 ≤ sizeLine := by size_fits) :
    wpAny (model prog w) A (getAttr? (.ref a) name) Q E s := by
  obtain ⟨c, dct, dat, sl⟩ := o
  simp only at hc hdat hd
  subst hc hdat hd
  obtain ⟨hp, g, d, tk, os⟩ := s
  have hT : ∀ tk', (⟨hp, g, d, tk', os⟩ : Shared).TypeIs (.ref a) "list" := fun _ => ⟨_, hx, rfl⟩
  have f1 := sub_AttributeError
  have f3 := F.slot_list_getattribute.lookup
  have f4 := F.slot_list_getattribute.bind (.ref a)
  have f5 := am_list_getattr_none
  unfold getAttr? getAttrBy? getAttrBy
  repeat (any_goals (first | assumption | exact hT _ | ((with_reducible show wpAny _ _ (call (Value.builtin "list.__getattribute__") _ _) _ _ _); refine call_meets F.slot_list_getattribute (hT _) am_entry_list_getattribute (F.args_list_getattribute_2 _ _) (meets_getattribute_miss_list a xs k sl name _ hmiss hname hsz) ⟨hx, hA, fun h' tk' e hx' => ?_⟩) | wp_step))
  obtain ⟨t', u', he⟩ := hx'.there
  show wpAny _ _ (getattributeRaised _ _ _ _ _ _ _) _ _ _
  unfold getattributeRaised
  repeat (any_goals (first | assumption | wp_step))
  exact h _ _ hx'.of.keeps

section
variable {Γ : Gl} {k : Nat} {nm : List (Str × NameKind)} {ρ : Ctx0}

/-- e yields a new list, that has no names of its own -/
def EvP (Γ : Gl) (k : Nat) (nm : List (Str × NameKind)) (ρ : Ctx0) (e : PySem.Expr) (ds : List PyData) : Prop :=
  ∀ A env M s, Pre Γ k nm ρ A env M s → ∀ Q : Value → Shared → Prop,
    (∀ a ys h' tk, Sub s.heap h' → PlainL h' a ys → a ∉ M → All2 (fun v d => Is Γ (Hd M h') v (.py d)) ys.toList ds → Q (.ref a) { s with heap := h', toks := tk }) → wpAny (model Γ.prog Γ.w) A (eval e env) Q E0 s
theorem evp_lc {nmC : List (Str × NameKind)} {xs : List Str} {elt target iter : PySem.Expr} {ifs : List PySem.Expr} {rest : List Comprehension} {scope : Scope} {pos : Pos} {ρc : Ctx0}
    (ok : ScopeOk nm scope nmC xs)
    (hc : ∀ x d, ρc.lookup x = some d → ρ.lookup x = some d ∧ (x, NameKind.free) ∈ scope.names ∧ (nmC.lookup x = some .cell ∨ nmC.lookup x = some .free))
    (hfr : ∀ n, (n, NameKind.free) ∈ scope.names → ∃ d, ρ.lookup n = some d)
    (hs0 : ∀ env x, foldedSetIterable iter env x = pure x)
    (hnx : ∀ g, rest[0]? = some g → g.is_async = 0 ∧ ∀ env x, foldedSetIterable g.iter env x = pure x)
    {α : Type} {ds : List α} {enc : α → D} {bs : α → Ctx0} {p : α → Bool} {f : α → List D} (hit : Itr Γ k nm ρ target iter (ds.map enc)) (hbs : ∀ d ∈ ds, As Γ k nmC xs target (enc d) (bs d)) (hfresh : ∀ d ∈ ds, ∀ x, ((bs d).lookup x).isSome = true → ρc.lookup x = none)
    (htest : ∀ d ∈ ds, Ets Γ k nmC (bs d ++ ρc) ifs (p d)) (hin : ∀ d ∈ ds, p d = true → Bk Γ k nmC xs elt (⟨target, iter, ifs, 0⟩ :: rest) scope pos 1 (bs d ++ ρc) (f d))
    (hsz : (ds.flatMap fun d => if p d then f d else []).length ≤ sizeLine) {out : List PyData} (hout : (ds.flatMap fun d => if p d then f d else []) = out.map D.py) :
    EvP Γ k nm ρ (.ListComp elt (⟨target, iter, ifs, 0⟩ :: rest) scope pos) out := by
  intro A env M s pre Q hQ
  rw [eval_ListComp]
  refine comp_top ok hc hfr hs0 hnx hit hbs hfresh htest hin hsz pre (use := none) fun h2 tk C D0 ys kk nC nD ne hm hl hi => ?_
  obtain ⟨m, hm⟩ := hm
  refine ⟨m, hm, fun h' hs' => hQ D0 ys h' tk (fun b o e => ?_) ?_ (fun q => nD (pre.live D0 q)) (all2_py (hout ▸ hi.imp fun _ _ r => r.keeps fun b o e => ?_))⟩
  · have : b ≠ C := fun q => nC (q ▸ ⟨o, e⟩)
    exact (hs'.2 b this).trans (kk b o e)
  · obtain ⟨o, n, e, r⟩ := hl
    exact ⟨o, n, (hs'.2 D0 ne.symm).trans e, r⟩
  · have nCb : b ∉ C :: M := hd_not e
    exact hd_get ((hs'.2 b fun q => nCb (q ▸ .head _)).trans (of_hideAll _ e)) fun q => nCb (.tail _ q)

set_option genInjectivity false in
/-- how a dict of a kind is written, key by key -/
structure DK (Γ : Gl) (κ : Type) where
  keyD : κ → PyData
  P : List Addr → Heap → Addr → List (κ × Int) → Prop
  put : List (κ × Int) → κ → Int → List (κ × Int)
  res : List (κ × Int) → D
  len : ∀ r K i, (put r K i).length ≤ r.length + 1
  set : ∀ {A : Around} {M : List Addr} {s : Shared} {D0 : Addr} {r : List (κ × Int)} {K : κ} {kv v : Value} {i : Int} {Q : Unit → Shared → Prop}, A.units < cLine → D0 ∈ M → P M s.heap D0 r → Is Γ (Hd M s.heap) kv (.py (keyD K)) → IntV v i → r.length ≤ sizeLine →
    (∀ h' tk, P M h' D0 (put r K i) → Heap.SameBut D0 s.heap h' → Q () { s with heap := h', toks := tk }) → wpAny (model Γ.prog Γ.w) A (dictSet D0 kv v) Q E0 s
  move : ∀ {M N : List Addr} {h h' : Heap} {D0 : Addr} {r : List (κ × Int)}, P M h D0 r → (∀ o, h.get? D0 = some o → h'.get? D0 = some o) → Sub (Hd M h) (Hd N h') → P N h' D0 r
  new : ∀ {M : List Addr} {h : Heap}, sysModules < h.objs.size → P M (h.push { cls := .type "dict", data := .dict #[] }) h.objs.size []
  live : ∀ {M : List Addr} {h : Heap} {D0 : Addr} {r : List (κ × Int)}, P M h D0 r → Live h D0
  fin : ∀ {M N : List Addr} {h : Heap} {D0 : Addr} {r : List (κ × Int)}, P M h D0 r → D0 ∉ N → (∀ b ∈ N, b ∈ M) → Is Γ (Hd N h) (.ref D0) (res r)

def dkFold {κ : Type} (K : DK Γ κ) (ps : List (κ × Int)) : List (κ × Int) := ps.foldl (fun r p => K.put r p.1 p.2) []
theorem dkFold_take {κ : Type} (K : DK Γ κ) {ps : List (κ × Int)} {i : Nat} {p : κ × Int} (h : ps[i]? = some p) : dkFold K (ps.take (i + 1)) = K.put (dkFold K (ps.take i)) p.1 p.2 := by
  unfold dkFold
  rw [List.take_add_one, h, Option.toList_some, List.foldl_append]
  rfl
theorem dkFold_len {κ : Type} (K : DK Γ κ) (ps : List (κ × Int)) : (dkFold K ps).length ≤ ps.length := by
  unfold dkFold
  have : ∀ (ps : List (κ × Int)) (r : List (κ × Int)), (ps.foldl (fun r p => K.put r p.1 p.2) r).length ≤ r.length + ps.length := by
    intro ps
    induction ps with
    | nil => intro r; simp
    | cons p ps ih =>
      intro r
      have h1 := ih (K.put r p.1 p.2)
      have h2 := K.len r p.1 p.2
      simp only [List.foldl_cons, List.length_cons]
      omega
  simpa using this ps []

theorem dict_loop {κ : Type} (K : DK Γ κ) {A : Around} (hh : A.handled = none) (hu : A.units + 1 < cLine) {I a D0 : Addr} {ys : Array Value} {ps : List (κ × Int)} {M : List Addr} (hne : a ≠ I) (hDI : D0 ≠ I) (hDa : D0 ≠ a) (hD : D0 ∈ M) (hI : I ∈ M) (hsz : ps.length ≤ sizeLine) {h1 : Heap} {R : Result → Shared → Prop}
    (items : All2 (fun v d => Is Γ (Hd M h1) v (.py d)) ys.toList (ps.map fun p => .tuple [K.keyD p.1, .int p.2])) :
    ∀ (n i : Nat) (s : Shared) (t : Tok), ps.length - i = n → i ≤ ps.length → s.heap.IsListIter I a i ∧ s.heap.IsList a ys → K.P M s.heap D0 (dkFold K (ps.take i)) → KpX [D0, I] h1 s.heap →
    (∀ h' tk, KpX [D0, I] s.heap h' → K.P M h' D0 (dkFold K ps) → R (.ok (.ret .none)) { s with heap := h', toks := tk }) →
    codeAny (model Γ.prog Γ.w) A (.builtin "dict.update.loop" ⟨[.ref D0, .ref I, .int i t, .none], []⟩) R s := by
  have W := Walks.list (prog := Γ.prog) (w := Γ.w) (A := A.in1) hh I a hne ys
  have hys : ys.size = ps.length := by have := items.length; rwa [Array.length_toList, List.length_map] at this
  have sub2 : ∀ c ∈ [D0, I], c ∈ M := fun c hc => by
    simp only [List.mem_cons, List.not_mem_nil, or_false] at hc
    rcases hc with rfl | rfl <;> assumption
  intro n
  induction n with
  | zero =>
    intro i s t hn hi st hP kp hR
    have hin : i = ps.length := by omega
    refine codeAny_builtin f_entry_dul ?_
    rw [Around.under_plainId f_plain_dul _]
    show wpAny _ A.in1 (pyNext (.ref I) >>= _) _ _ s
    refine wpAny_bind (W.done s _ _ (by rw [hys, ← hin]; exact st) fun h' tk hk' => ?_)
    show wpAny _ _ (Builtin.Dict.addKeywords D0 [] >>= _) _ _ _
    refine wpAny_bind (wpAny_pure (wpAny_pure ?_))
    have kI : KpX [I] s.heap h' := hk'
    refine hR h' tk (fun b o n e => kI b o (fun q => n (by simp at q; subst q; simp)) e) ?_
    rw [hin, List.take_length] at hP
    exact K.move hP (fun o e => kI _ o (fun q => hDI (by simpa using q)) e) (kI.hd fun c hc => by simp at hc; subst hc; exact hI)
  | succ n ih =>
    intro i s t hn hi st hP kp hR
    have hlt : i < ps.length := by omega
    obtain ⟨p, hp⟩ : ∃ p, ps[i]? = some p := ⟨ps[i], List.getElem?_eq_getElem hlt⟩
    refine codeAny_builtin f_entry_dul ?_
    rw [Around.under_plainId f_plain_dul _]
    show wpAny _ A.in1 (pyNext (.ref I) >>= _) _ _ s
    refine wpAny_bind (W.item i s _ _ (by rw [hys]; exact hlt) st fun v h' tk hv st' hk' => ?_)
    have kI : KpX [I] s.heap h' := hk'
    have kI' : KpX [D0, I] s.heap h' := fun b o n e => kI b o (fun q => n (by simp at q; subst q; simp)) e
    have hP1 : K.P M h' D0 (dkFold K (ps.take i)) := K.move hP (fun o e => kI _ o (fun q => hDI (by simpa using q)) e) (kI.hd fun c hc => by simp at hc; subst hc; exact hI)
    obtain ⟨v', hv', iv⟩ := items.get (b := PyData.tuple [K.keyD p.1, .int p.2]) (i := i) (by rw [List.getElem?_map, hp]; rfl)
    have hv2 : v' = v := by
      have e : ys.toList[i]? = some v := by rw [Array.getElem?_toList]; exact hv
      rw [e] at hv'; exact (Option.some.inj hv').symm
    subst hv2
    have iv1 := iv.keeps ((kp.trans kI').hd sub2)
    obtain ⟨b, vs, rfl, ht, q⟩ := is_tuple.mp iv1
    obtain ⟨l⟩ := vs
    cases q with
    | cons i1 q =>
      cases q with
      | cons i2 q =>
        cases q
        obtain ⟨o, ho, hc, m, hd⟩ := ht
        have ho' : h'.get? b = some o := hd_sub M h' _ _ ho
        show wpAny _ _ (holding [_] _ >>= _) _ _ _
        refine wpAny_bind (wpAny_holding ?_)
        refine wpAny_bind (wpAny_tryCatch ?_)
        unfold Builtin.Dict.pairItems
        refine wpAny_bind (wpAny_typeOf (T := "tuple") ⟨o, ho', hc⟩ ?_)
        rw [if_pos (by decide)]
        refine wpAny_bind (wpAny_seqItems ho' hd (wpAny_pure ?_))
        refine wpAny_holding ?_
        refine ofE0 (K.set (s := { s with heap := h', toks := tk }) (by show A.units + 1 < cLine; exact hu) hD hP1 i1 (is_int.mp i2) (Nat.le_trans (dkFold_len K _) (by rw [List.length_take]; omega)) fun h2 tk2 hP2 hs2 => ?_)
        refine wpAny_pure ⟨plainId_quiet f_plain_dul _, ?_⟩
        have hs2' : Heap.SameBut D0 h' h2 := hs2
        have k2 : KpX [D0, I] h' h2 := sameBut_kpx hs2 (by simp)
        refine ih (i + 1) { s with heap := h2, toks := tk2 } 0 (by omega) hlt (W.frame (i + 1) h' h2 st' fun c hc o e => ?_) ?_ ((kp.trans kI').trans k2) fun h3 tk3 k3 hP3 => ?_
        · refine (hs2'.2 c fun z => ?_).trans e
          simp only [List.mem_cons, List.not_mem_nil, or_false] at hc
          rcases hc with rfl | rfl
          · exact hDI z.symm
          · exact hDa z.symm
        · rw [dkFold_take K hp]; exact hP2
        · exact hR h3 tk3 ((kI'.trans k2).trans k3) hP3

theorem Gl.Ok.big {h : Heap} (ok : Γ.Ok) (k' : Sub Γ.B h) : sysModules < h.objs.size := modules_low (let ⟨mc, x, y⟩ := ok.lim; ⟨mc, x.keeps k', y⟩)

theorem ev_dict {κ : Type} (K : DK Γ κ) {ppos pos : Pos} {e : PySem.Expr} {ps : List (κ × Int)} (ok : Γ.Ok) (g : Glo Γ "dict" (.type "dict")) (he : EvP Γ k nm ρ e (ps.map fun p => .tuple [K.keyD p.1, .int p.2])) (hsz : ps.length ≤ sizeLine)
    (hk : nm.lookup ("dict" : Str) = some .globalImplicit := by rfl) (hs : ∀ env, starEach [e] env = [(false, eval e env)] := by intro _; rfl) :
    Ev Γ k nm ρ (.Call (.Name "dict" ppos) [e] [] pos) (K.res (dkFold K ps)) := by
  intro A env M s p Q hQ
  refine Call_ (load_glo ok p.en p.base g hk (by decide +kernel) ?_) (by rfl)
  refine Pv.callWith_type1 (args_cons (he A env M s p _ fun a ys h0 tk k0 hl nM items => args_nil ?_) (hs env)) (hs env) (by rfl)
  have big0 : sysModules < h0.objs.size := ok.big (p.base.trans k0)
  have lM : ∀ b ∈ M, Live h0 b := fun b m => (p.live b m).sub k0
  obtain ⟨o, n, ho, hc, hdi, hdt⟩ := hl
  have la : @LT.lt Nat _ a h0.objs.size := Heap.lt_size ho
  refine callType_codes (Q₁ := fun obj s₁ => obj = .ref h0.objs.size ∧ s₁ = { s with heap := h0.push { cls := .type "dict", data := .dict #[] }, toks := tk }) F.kt_called_dict (F.kt_typeCall_dict_1 _) F.entry_dict_init (kt_code_dict_new (s := { s with heap := h0, toks := tk }) _ ⟨rfl, rfl⟩) ?_
  rintro obj s₁ ⟨rfl, rfl⟩
  generalize hD : h0.objs.size = D0 at *
  generalize hH1 : h0.push { cls := .type "dict", data := .dict #[] } = H1 at *
  have k1 : Sub h0 H1 := hH1 ▸ sub_push _ _
  have lD1 : H1.get? D0 = some { cls := .type "dict", data := .dict #[] } := by rw [← hD, ← hH1]; exact Heap.get?_push_size _ rfl
  have hT : ({ s with heap := H1, toks := tk } : Shared).TypeIs (.ref D0) "dict" := ⟨_, lD1, rfl⟩
  have hTa : ({ s with heap := H1, toks := tk } : Shared).TypeIs (.ref a) "list" := ⟨_, k1 _ _ ho, hc⟩
  refine ⟨hT, F.args_dict_init_2 _ _, ?_⟩
  unfold Builtin.«dict.__init__»
  refine wpAny_bind ?_
  unfold Builtin.Dict.selfAndRest
  refine wpAny_bind (wpAny_notOrdered_dict hT ?_)
  show wpAny _ _ (pure (D0, [Value.ref a])) _ _ _
  refine wpAny_pure ?_
  show wpAny _ _ (Builtin.Dict.updateFrom "dict.__init__" D0 (.ref a) [] .none) _ _ _
  unfold Builtin.Dict.updateFrom
  refine wpAny_bind (wpAny_typeOf hTa ?_)
  rw [if_pos (by decide)]
  refine wpAny_bind (attrQ_miss_list (k1 _ _ ho) hc hdt hdi f_list_keys (by decide +kernel) p.rm.handled (fun H2 tk2 k2 => ?_))
  rw [if_pos (by rfl)]
  refine wpAny_bind (wpAny_rule ?_)
  have k2' : Sub H1 H2 := k2
  have hl2 : H2.IsList a ys := ⟨o, k2' _ _ (k1 _ _ ho), hc, n, hdt⟩
  refine wpAny_bind (wpAny_pyIter_list (s := { s with heap := H2, toks := tk2 }) hl2 ?_)
  refine wpAny_pure ⟨plainId_quiet f_plain_dul _, ?_⟩
  generalize hI : H2.objs.size = It
  have lD2 : @LT.lt Nat _ D0 It := by rw [← hI]; exact Heap.lt_size (k2' _ _ lD1)
  have la' : @LT.lt Nat _ a D0 := la
  have nD : ∀ b ∈ M, b ≠ D0 := fun b m z => by
    have h1 : @LT.lt Nat _ b h0.objs.size := live_lt (lM b m)
    have h2 : @LT.lt Nat _ b D0 := hD ▸ h1
    exact Nat.lt_irrefl _ (z ▸ h2)
  have hP1 : K.P (D0 :: It :: M) H1 D0 [] := by
    have := K.new (M := D0 :: It :: M) (h := h0) (by rw [hD]; exact big0)
    rw [hD, hH1] at this
    exact this
  generalize hH3 : H2.push { cls := .type "list_iterator", data := .fields #[.ref a, .int 0 0] } = H3
  have k3 : Sub H2 H3 := hH3 ▸ sub_push _ _
  have lI : H3.get? It = some { cls := .type "list_iterator", data := .fields #[.ref a, .int 0 0] } := by rw [← hI, ← hH3]; exact Heap.get?_push_size _ rfl
  have k13 : Sub H1 H3 := k2'.trans k3
  have kall : Sub h0 H3 := k1.trans k13
  have nNew : ∀ b ∈ [D0, It], ¬ Live h0 b := fun b hb q => by
    have h1 : @LT.lt Nat _ b h0.objs.size := live_lt q
    have h2 : @LT.lt Nat _ b D0 := hD ▸ h1
    simp only [List.mem_cons, List.not_mem_nil, or_false] at hb
    rcases hb with rfl | rfl
    · exact Nat.lt_irrefl _ h2
    · exact Nat.lt_irrefl _ (Nat.lt_trans h2 lD2)
  have items' := items.imp fun v d (r : Is Γ (Hd M h0) v (.py d)) => r.keeps (hd_fresh (N := [D0, It]) kall nNew)
  refine dict_loop K (I := It) (a := a) (D0 := D0) (ys := ys) (ps := ps) (M := D0 :: It :: M) (A := A.in1) (h1 := H3) p.rm.handled (p.rm.u 2) (Nat.ne_of_lt (Nat.lt_trans la' lD2)) (Nat.ne_of_lt lD2) (Nat.ne_of_gt la') (.head _) (.tail _ (.head _)) hsz items' ps.length 0 { s with heap := H3, toks := tk2 } _ rfl (Nat.zero_le _) ⟨⟨_, lI, rfl, rfl⟩, isList_sub k3 hl2⟩ (K.move hP1 (fun o e => k13 _ _ e) (hd_sub_sub k13)) (fun b o _ e => e) fun h' tk' kk hP => ?_
  have lold : ∀ b, Live h0 b → b ∉ [D0, It] := fun b q z => nNew b z q
  refine ⟨rfl, hQ _ h' tk' (fun b o e => ?_) (K.fin hP (fun m => nD D0 m rfl) fun b m => .tail _ (.tail _ m))⟩
  exact kk b o (lold b ⟨o, k0 _ _ e⟩) (kall b o (k0 b o e))
end
end Mine
namespace Mine
open PySem PySem.Calls PySem.Spec PyProof.Rows PySem.W

def iHas (r : List (Int × Int)) (K : Int) : Bool := r.any fun kv => decide (kv.1 = K)
def iPut (r : List (Int × Int)) (K : Int) (i : Int) : List (Int × Int) := if iHas r K then r.map fun kv => if kv.1 = K then (kv.1, i) else kv else r ++ [(K, i)]
def iGet (r : List (Int × Int)) (K : Int) : Int := ((r.find? fun kv => decide (kv.1 = K)).map (·.2)).getD 0
abbrev IVals (xs : List (Int × Value)) (r : List (Int × Int)) : Prop := All2 (fun x kv => x.1 = kv.1 ∧ IntV x.2 kv.2) xs r
theorem ivals_has {xs : List (Int × Value)} {r : List (Int × Int)} (v : IVals xs r) (K : Int) : (xs.any fun kv => decide (kv.1 = K)) = iHas r K := by
  unfold iHas
  induction v with
  | nil => rfl
  | cons h1 h2 ih => simp only [List.any_cons, ih, h1.1]
theorem ivals_put {xs : List (Int × Value)} {r : List (Int × Int)} (v : IVals xs r) (K : Int) {w : Value} {i : Int} (hw : IntV w i) : IVals (stored xs K w) (iPut r K i) := by
  unfold stored iPut
  rw [ivals_has v K]
  cases iHas r K with
  | true =>
    simp only [if_true]
    refine v.map fun x kv ⟨h1, h2⟩ => ?_
    by_cases q : kv.1 = K
    · simp only [h1.trans q, if_true, if_pos q]; exact ⟨q.symm, hw⟩
    · have q' : ¬ x.1 = K := fun z => q (h1.symm.trans z)
      simp only [if_neg q', if_neg q]; exact ⟨h1, h2⟩
  | false =>
    simp only [Bool.false_eq_true, if_false]
    exact v.append (.cons ⟨rfl, hw⟩ .nil)
theorem iPut_length (r : List (Int × Int)) (K : Int) (i : Int) : (iPut r K i).length ≤ r.length + 1 := by
  unfold iPut
  split <;> simp
section
variable {Γ : Gl}
def intDK (Γ : Gl) : DK Γ Int where
  keyD := PyData.int
  P := fun _ h a r => IDictAt Γ h a r
  put := iPut
  res := .idict
  len := iPut_length
  set := fun {A M s D0 r K kv v i Q} hu hm hP hk hv hs hQ => by
    obtain ⟨hn, xs, hd, hx⟩ := hP
    obtain ⟨t, rfl⟩ := is_int.mp hk
    refine wpAny_dictSet_pairs (knd := intKind Γ.prog Γ.w) (k := K) (by show Value.isInt K (.int K t) = true; simp [Value.isInt]) hd (fun h' hd' hs' => ?_) (by rw [hx.length]; exact hs)
    exact hQ h' _ ⟨hn, _, hd', ivals_put hx K hv⟩ hs'
  move := fun {M N h h' D0 r} hP ho _ => by
    obtain ⟨hn, xs, ⟨o, es, ep, e, q⟩, hx⟩ := hP
    exact ⟨hn, xs, ⟨o, es, ep, ho _ e, q⟩, hx⟩
  new := fun {M h} hb => ⟨Nat.ne_of_gt hb, [], Heap.DictOf.new h, .nil⟩
  live := fun {M h D0 r} hP => let ⟨_, _, ⟨o, _, _, e, _⟩, _⟩ := hP; ⟨o, e⟩
  fin := fun {M N h D0 r} hP hn _ => by
    obtain ⟨hs, xs, ⟨o, es, ep, e, q⟩, hx⟩ := hP
    exact ⟨D0, rfl, hs, xs, ⟨o, es, ep, hd_get e hn, q⟩, hx⟩
def tupDK (Γ : Gl) : DK Γ KeyT where
  keyD := keyPy
  P := fun M h a r => RowIn Γ M h a r
  put := rowPut
  res := .tdict
  len := rowPut_length
  set := fun {A M s D0 r K kv v i Q} hu hm hP hk hv hs hQ => by
    obtain ⟨hn, ys, hd, hk2, hx⟩ := hP
    obtain ⟨a, rfl, hka⟩ := keyPy_is hk
    have hk' : IsTupleKey (mixKind Γ.prog Γ.w) s.heap K a := let ⟨o, its, n, e, q⟩ := hka; ⟨o, its, n, of_hideAll _ e, q⟩
    refine wpAny_dictSet_heap (knd := tKind Γ) (by exact hu) hk' hd (fun h' hd' hsb => ?_) (by rw [hx.length]; exact hs)
    have kp : KpX [D0] s.heap h' := sameBut_kpx hsb (by simp)
    have hdd : Sub (Hd M s.heap) (Hd M h') := kp.hd fun a q => by simp at q; subst q; exact hm
    have mv : ∀ K a, IsTupleKey (mixKind Γ.prog Γ.w) (Hd M s.heap) K a → IsTupleKey (mixKind Γ.prog Γ.w) (Hd M h') K a := fun K a ⟨o, its, n, e, q⟩ => ⟨o, its, n, hdd _ _ e, q⟩
    exact hQ h' _ ⟨hn, _, hd', stored_mem (P := fun K a => IsTupleKey (mixKind Γ.prog Γ.w) (Hd M h') K a) (fun x hx => mv _ _ (hk2 x hx)) (mv _ _ hka), vals_put hx K a hv⟩ hsb
  move := fun {M N h h' D0 r} hP ho hk => RowIn.move hP ho hk
  new := fun {M h} hb => ⟨Nat.ne_of_gt hb, [], Heap.DictOfH.new h, fun _ q => absurd q List.not_mem_nil, .nil⟩
  live := fun {M h D0 r} hP => let ⟨_, _, ⟨o, _, _, e, _⟩, _⟩ := hP; ⟨o, e⟩
  fin := fun {M N h D0 r} hP hn hsub => by
    obtain ⟨hs, ys, ⟨o, es, ep, ho, hx, hdt, he, hk, hnn⟩, hk2, hv⟩ := hP
    have hd : Sub (Hd M h) (Hd N h) := hd_less hsub
    refine ⟨D0, rfl, hs, ys, ⟨o, es, ep, hd_get ho hn, hx, hdt, he, fun z hz => ?_, hnn⟩, hv⟩
    obtain ⟨o', its, n, h1, q⟩ := hk2 z hz
    exact ⟨o', its, n, hd _ _ h1, q⟩
end
end Mine
namespace Mine
open PySem PySem.Calls PySem.Spec PyProof.Rows PySem.W

section
variable {Γ : Gl} {k : Nat} {nm : List (Str × NameKind)} {ρ : Ctx0}

theorem fn_len_tdict {r : Row} (hs : r.length ≤ 1000000) : Fn Γ k (.builtin "len") [.tdict r] (I r.length) := by
  intro A M s vs rm base live hvs Q hQ
  cases hvs with
  | cons iv q =>
    cases q
    obtain ⟨a, rfl, hn, xs, hd, hv⟩ := iv
    have e : xs.length = r.length := hv.length
    obtain ⟨o, es, ep, ho, hc, hdat, he, _, _⟩ := hd
    have ho' : s.heap.get? a = some o := hd_sub M s.heap _ _ ho
    have hT : s.TypeIs (.ref a) "dict" := ⟨o, ho', hc.1⟩
    have hm : MeetsIn Γ.prog Γ.w (Builtin.«dict.__len__» ⟨[.ref a], []⟩) (fun _ R s => s.heap.get? a = some o ∧ R (.ok (.ret (.int r.length s.toks))) { s with toks := s.toks + 1 }) := .of_wp fun A R s ⟨ho, h⟩ => by
      show wpAny _ _ (dictSize a >>= _) _ _ s
      unfold dictSize
      refine wpAny_bind (wpAny_bind (wpAny_dictEntries ho hdat (wpAny_pure ?_)))
      show wpAny _ _ (Builtin.Dict.pendingCount a >>= _) _ _ s
      refine wpAny_bind (wpAny_pendingCount_other (sys_ne hn) ?_)
      refine wpAny_ret_mkInt ?_
      have : es.size = r.length := by rw [size_of_entries he, e]
      rw [Nat.add_zero, this]; exact h
    refine Calls.call_function_entry kind_len plain_len entry_len (args_len1 _) ?_
    unfold Builtin.«len»
    refine wpAny_bind (m := oneArg "len" _) (wpAny_pure ?_)
    refine wpAny_bind (m := callSpecial? (.ref a) (Str.ofString "__len__")) (wpAny_callSpecial?_slot (name := Str.ofString "__len__") hT F.slot_dict_len
      (call_meetsIn F.slot_dict_len hT F.entry_dict_len (F.args_dict_len_1 _) hm ⟨ho', ?_⟩))
    refine wpAny_bind (wpAny_holding (wpAny_pure ?_))
    refine wpAny_bind (wpAny_letGo ?_)
    show wpAny _ _ (if ((r.length : Nat) : Int) < 0 then _ else _) _ _ _
    rw [if_neg (by omega)]
    show wpAny _ _ (if ((r.length : Nat) : Int) ≥ 2 ^ 63 then _ else _) _ _ _
    rw [if_neg (by omega)]
    exact wpAny_bind (wpAny_mkInt (wpAny_pure ⟨_, rfl, hQ _ s.heap _ (Sub.refl _) (is_int.mpr ⟨_, rfl⟩)⟩))

theorem argBest_le (bt : Nat → Nat → Bool) : ∀ n, argBest bt n ≤ n
  | 0 => Nat.le_refl _
  | n + 1 => by
    unfold argBest
    split
    · exact Nat.le_refl _
    · exact Nat.le_succ_of_le (argBest_le bt n)
theorem argBest_max (val : Nat → Int) : ∀ n i, i ≤ n → val i ≤ val (argBest (fun i j => decide (val i > val j)) n)
  | 0, i, h => by have : i = 0 := by omega
                  subst this; exact Int.le_refl _
  | n + 1, i, h => by
    unfold argBest
    split
    · rename_i h1
      have h1' := of_decide_eq_true h1
      by_cases q : i = n + 1
      · subst q; exact Int.le_refl _
      · have := argBest_max val n i (by omega)
        omega
    · rename_i h1
      have h1' : ¬ (val (n + 1) > val (argBest (fun i j => decide (val i > val j)) n)) := fun z => h1 (decide_eq_true z)
      by_cases q : i = n + 1
      · subst q; omega
      · exact argBest_max val n i (by omega)
theorem fn_max {ns : List Int} {m : Int} (hm : m ∈ ns) (hle : ∀ x ∈ ns, x ≤ m) : Fn Γ k (.builtin "max") [.py (.list (ns.map PyData.int))] (I m) := by
  intro A M s vs rm base live hvs Q hQ
  cases hvs with
  | cons iv q =>
    cases q
    obtain ⟨a, ws, rfl, hl, q⟩ := is_list.mp iv
    have hl' : s.heap.IsList a ws := isList_sub (hd_sub M s.heap) hl
    have e := q.length
    rw [Array.length_toList, List.length_map] at e
    have pos : 0 < ns.length := List.length_pos_of_mem hm
    have hval : ∀ i v, ws[i]? = some v → ∃ t, v = Value.int (ns.getD i 0) t := fun i v hv => by
      obtain ⟨d, hd, r⟩ := q.getL (by rw [Array.getElem?_toList]; exact hv)
      rw [List.getElem?_map] at hd
      cases e2 : ns[i]? with
      | none => rw [e2] at hd; cases hd
      | some n =>
        rw [e2] at hd; cases hd
        obtain ⟨t, rfl⟩ := is_int.mp r
        exact ⟨t, by simp [e2]⟩
    refine call_max_walk (wpAny_pyIter_list hl' ?_)
    have lt : a < s.heap.objs.size := by obtain ⟨o, e, _⟩ := hl'; exact Heap.lt_size e
    have hh : A.in1.handled = none := rm.handled
    refine ⟨s.heap.objs.size, _, _, _, _, _, _, rfl, Walks.list hh s.heap.objs.size a (Nat.ne_of_lt lt) ws, ⟨⟨_, Heap.get?_push_size _ rfl, rfl, rfl⟩, hl'.push _⟩, fun b hb => ?_, by rw [e]; exact pos, CmpOf.ints_gt (fun i => ns.getD i 0) hval, fun v h' tk hP kk => ?_⟩
    · show @LT.lt Nat _ b _
      simp only [List.mem_cons, List.not_mem_nil, or_false] at hb
      rcases hb with rfl | rfl
      · first | (rw [size_push']; exact Nat.lt_succ_self _) | (simp)
      · first | (rw [size_push']; exact Nat.lt_succ_of_lt lt) | (simp; exact Nat.lt_succ_of_lt lt)
    · obtain ⟨t, rfl⟩ := hval _ _ hP
      refine hQ _ h' tk (fun b o hb => kk b o (fun z => ?_) ((sub_push _ _) b o hb)) (is_int.mpr ⟨t, ?_⟩)
      · simp at z; subst z; exact not_live_size ⟨o, hb⟩
      · congr 1
        show ns.getD (argBest (fun i j => decide (ns.getD i 0 > ns.getD j 0)) (ws.size - 1)) 0 = m
        generalize hB : argBest (fun i j => decide (ns.getD i 0 > ns.getD j 0)) (ws.size - 1) = B
        have hBl : B < ns.length := by
          have := argBest_le (fun i j => decide (ns.getD i 0 > ns.getD j 0)) (ws.size - 1)
          omega
        have mem : ns.getD B 0 ∈ ns := by
          rw [List.getD_eq_getElem?_getD, List.getElem?_eq_getElem hBl]
          exact List.getElem_mem hBl
        obtain ⟨j, hj⟩ := List.mem_iff_getElem?.mp hm
        have hjl : j < ns.length := (List.getElem?_eq_some_iff.mp hj).1
        have h1 := argBest_max (fun i => ns.getD i 0) (ws.size - 1) j (by omega)
        have h2 : ns.getD j 0 = m := by rw [List.getD_eq_getElem?_getD, hj]; rfl
        have h3 := hle _ mem
        have h4 : ns.getD j 0 ≤ ns.getD B 0 := by rw [← hB]; exact h1
        omega
end
end Mine
namespace Mine
open PySem PySem.Calls PySem.Spec PyProof.Rows PySem.W

section
variable {Γ : Gl} {k : Nat} {nm : List (Str × NameKind)} {ρ : Ctx0}

theorem ev_and2 {e₁ e₂ : PySem.Expr} {pos : Pos} {b c : Bool} (h1 : Ev Γ k nm ρ e₁ (Bo b)) (h2 : b = true → Ev Γ k nm ρ e₂ (Bo c)) : Ev Γ k nm ρ (.BoolOp .And [e₁, e₂] pos) (Bo (b && c)) := by
  intro A env M s p Q hQ
  refine BoolOp_and (h1 A env M s p _ fun v h' tk k' iv => ?_)
  obtain rfl := is_bool.mp iv
  refine wpAny_truthy_bool ?_
  cases b with
  | false => exact hQ _ h' tk k' (is_bool.mpr rfl)
  | true => exact BoolOp_one (h2 rfl A env M _ (p.keeps k') _ fun w h'' tk' k'' iw => hQ w h'' tk' (k'.trans k'') (by simpa using iw))
theorem ev_or2 {e₁ e₂ : PySem.Expr} {pos : Pos} {b c : Bool} (h1 : Ev Γ k nm ρ e₁ (Bo b)) (h2 : b = false → Ev Γ k nm ρ e₂ (Bo c)) : Ev Γ k nm ρ (.BoolOp .Or [e₁, e₂] pos) (Bo (b || c)) := by
  intro A env M s p Q hQ
  refine BoolOp_or (h1 A env M s p _ fun v h' tk k' iv => ?_)
  obtain rfl := is_bool.mp iv
  refine wpAny_truthy_bool ?_
  cases b with
  | true => exact hQ _ h' tk k' (is_bool.mpr rfl)
  | false => exact BoolOp_one (h2 rfl A env M _ (p.keeps k') _ fun w h'' tk' k'' iw => hQ w h'' tk' (k'.trans k'') (by simpa using iw))


theorem Pre.more {A : Around} {env : Env} {M : List Addr} {s : Shared} (p : Pre Γ k nm ρ A env M s) {wr : List Addr} {h : Heap} {tk : Nat} (x : Sub s.heap h) (n : ∀ b ∈ wr, ¬ Live s.heap b) (l : ∀ b ∈ wr, Live h b) : Pre Γ k nm ρ A env (wr ++ M) { s with heap := h, toks := tk } :=
  ⟨p.rm, p.en, p.base.trans x, fun a m => (List.mem_append.mp m).elim (l a) fun m => (p.live a m).sub x, fun y e hy => let ⟨w, r, i⟩ := p.names y e hy; ⟨w, r.keeps x, i.keeps (hd_fresh x n)⟩, fun y c' e => (p.cells y c' e).sub x⟩

/-- {} -/
theorem ev_dict0 {pos : Pos} (ok : Γ.Ok) : Ev Γ k nm ρ (.Dict [] [] pos) (.tdict []) := by
  intro A env M s p Q hQ
  show wpAny _ A (do standAt pos; dictDisplay []) _ _ s
  refine wpAny_bind (wpAny_standAt ?_)
  have e : dictDisplay [] = (alloc { cls := .type "dict", data := .dict #[] } >>= fun a => pure (.ref a)) := by
    first | rfl | (unfold dictDisplay; rfl)
  rw [e]
  refine wpAny_bind (wpAny_alloc (wpAny_pure ?_))
  have hP := (tupDK Γ).new (M := M) (h := s.heap) (ok.big p.base)
  have nD : s.heap.objs.size ∉ M := fun m => not_live_size (p.live _ m)
  exact hQ _ _ s.toks (sub_push _ _) ((tupDK Γ).fin hP nD fun _ m => m)

/-- {key: value}, the key a tuple of texts and ints -/
theorem ev_dict1 {pos : Pos} {ke ve : PySem.Expr} {K : KeyT} {i : Int} (ok : Γ.Ok) (hk : Ev Γ k nm ρ ke (.py (keyPy K))) (hv : Ev Γ k nm ρ ve (I i)) : Ev Γ k nm ρ (.Dict [some ke] [ve] pos) (.tdict [(K, i)]) := by
  intro A env M s p Q hQ
  refine wpAny_Dict_any (by rfl) (by rfl) (by simp) (by simp) ?_
  have hP := (tupDK Γ).new (M := s.heap.objs.size :: M) (h := s.heap) (ok.big p.base)
  have nD : s.heap.objs.size ∉ M := fun m => not_live_size (p.live _ m)
  generalize hD : s.heap.objs.size = D0 at *
  have lD : Live (s.heap.push { cls := .type "dict", data := .dict #[] }) D0 := by rw [← hD]; exact ⟨_, Heap.get?_push_size _ rfl⟩
  have p1 := p.more (wr := [D0]) (tk := s.toks) (sub_push s.heap { cls := .type "dict", data := .dict #[] }) (fun b hb q => by simp at hb; subst hb; exact not_live_size (hD ▸ q)) fun b hb => by simp at hb; subst hb; exact lD
  refine evalPairs_cons (hk A env ([D0] ++ M) _ p1 _ fun kv h1 tk1 k1 ik => ?_)
  refine wpAny_bind (hv A env ([D0] ++ M) _ (p1.keeps k1) _ fun vv h2 tk2 k2 iv => ?_)
  refine wpAny_bind (wpAny_standAt (wpAny_pure (evalPairs_nil ?_)))
  unfold storeAll
  rw [List.forIn_cons]
  have k12 : Sub (s.heap.push { cls := .type "dict", data := .dict #[] }) h2 := Sub.trans k1 k2
  refine wpAny_bind (wpAny_bind ((tupDK Γ).set (s := { s with heap := h2, toks := tk2 }) (M := [D0] ++ M) (p.rm.u 0) (.head _) ((tupDK Γ).move hP (fun o e => k12 _ _ e) (hd_sub_sub k12)) (ik.keeps (hd_sub_sub k2)) (is_int.mp iv) (by exact Nat.zero_le _) fun h3 tk3 hP3 hs3 => wpAny_pure ?_))
  show wpAny _ _ (forIn [] _ _) _ _ _
  rw [List.forIn_nil]
  refine wpAny_pure (hQ _ h3 tk3 (fun b o e => ?_) ((tupDK Γ).fin hP3 nD fun b m => .tail _ m))
  have e1 := k12 b o (sub_push _ _ b o e)
  have hs3' : Heap.SameBut D0 h2 h3 := hs3
  exact (hs3'.2 b fun z => by subst z; exact not_live_size ⟨o, hD ▸ e⟩).trans e1

end

section
variable {Γ : Gl} {k : Nat} {nm : List (Str × NameKind)} {ρ : Ctx0} {xs : List Str} {A : Around} {env : Env} {h₀ : Heap} {X : List Addr} {F : Addr} {M : List Addr} {μ : Mu} {s : Shared} {rest : List Stmt} {Q : Flow → Shared → Prop} {pos : Pos}
/-- x, y = e1, e2 -/
theorem x_assign_pair {x y : Str} {xp yp tp vp : Pos} {kk jj : Nat} {e1 e2 : PySem.Expr} {d1 d2 : PyData} (f : FS Γ k nm xs A env h₀ X F M ρ μ s) (h1 : Ev Γ k nm ρ e1 (.py d1)) (h2 : Ev Γ k nm ρ e2 (.py d2)) (hx : x ∈ xs) (hy : y ∈ xs)
    (hm : ∀ z, muName μ = some z → z ≠ x ∧ z ≠ y)
    (hsw : ∀ env, EnvIs nm env → swappedStores [.Tuple [.Name x xp, .Name y yp] kk tp] (.Tuple [e1, e2] jj vp) env = pure none) 
    (hss : ∀ env, EnvIs nm env → swapsWithSole [.Tuple [.Name x xp, .Name y yp] kk tp] (.Tuple [e1, e2] jj vp) pos.line env = pure false) 
    (he : ∀ env, starEach [e1, e2] env = (false, eval e1 env) :: starEach [e2] env := by intro _; rfl) (he2 : ∀ env, starEach [e2] env = (false, eval e2 env) :: starEach [] env := by intro _; rfl)
    (h : ∀ h' tk, KpX (F :: X) s.heap h' → FS Γ k nm xs A env h₀ X F M ((y, .py d2) :: (x, .py d1) :: ρ) μ { s with heap := h', toks := tk } → wpAny (model Γ.prog Γ.w) A (execs rest env) Q E0 { s with heap := h', toks := tk }) :
    wpAny (model Γ.prog Γ.w) A (execs (.Assign [.Tuple [.Name x xp, .Name y yp] kk tp] (.Tuple [e1, e2] jj vp) pos :: rest) env) Q E0 s := by
  refine wpAny_execs_cons (Assign_Tuple ?_ (hss env f.pre.en) (hsw env f.pre.en))
  refine ev_tuple (ps := [d1, d2]) (evs_cons h1 (evs_cons h2 evs_nil he2) he) rfl (by simp only [List.length_cons, List.length_nil]; exact Nat.le_of_ble_eq_true rfl) A env M s f.pre _ fun v h1' tk1 k1 iv => ?_
  refine (f.sub (tk := tk1) k1).as (as_pair hx hy) (fun z hz => ?_) iv fun h2' tk2 k2 f2 => h h2' tk2 (kfx (k1.kpx.trans k2)) f2
  obtain ⟨q1, q2⟩ := hm z hz
  have b1 : (z == y) = false := beq_eq_false_iff_ne.mpr q2
  have b2 : (z == x) = false := beq_eq_false_iff_ne.mpr q1
  rw [List.lookup_cons, b1, List.lookup_cons, b2]
  rfl
end
end Mine
namespace Mine
open PySem PySem.Calls PySem.Spec PyProof.Rows PySem.W

/-- a plain dict, as it lies -/
def DRaw (h : Heap) (d : Addr) (es : Array DictEntry) (ep : Nat) : Prop := ∃ o, h.get? d = some o ∧ o.cls = .type "dict" ∧ o.data = .dict es ep
section
variable {prog : Program} {w : World} {A : Around} {E : Value → Shared → Prop} {s : Shared}

theorem lt_of_item {α : Type} {es : Array α} {i : Nat} {e : α} (hx : es[i]? = some e) : i < es.size := by
  rcases Nat.lt_or_ge i es.size with h | h
  · exact h
  · rw [Array.getElem?_eq_none h] at hx; cases hx

theorem raw_values_next {it d : Addr} {i ep : Nat} {es : Array DictEntry} {e : DictEntry} {Q : Option Value → Shared → Prop} (hit : s.heap.IsValIter it d i es.size ep)
    (hm : DRaw s.heap d es ep) (hx : es[i]? = some e)
    (hQ : ∀ h', h'.IsValIter it d (i + 1) es.size ep → Heap.SameBut it s.heap h' → Q (some e.val) { s with heap := h' }) :
    wpAny (model prog w) A (pyNext (.ref it)) Q E s := by
  obtain ⟨⟨cls, dc, dat, sl⟩, ho, hc, hd⟩ := id hit
  obtain ⟨⟨cls2, dc2, dat2, sl2⟩, hod, hcd, hdd⟩ := id hm
  simp only at hc hd hcd hdd
  subst hc hd hcd hdd
  have hT := hit.typeIs
  have hlt := lt_of_item hx
  obtain ⟨hp, g, dr, tk, os⟩ := s
  unfold pyNext
  refine wpAny_bind (wpAny_attempt (wpAny_callSpecial?_slot (name := Str.ofString "__next__") hit.typeIs F.slot_dict_valueiterator_next
    (wpAny_call_entry F.slot_dict_valueiterator_next hit.typeIs F.entry_dict_valueiterator_next ?_ (F.args_dict_valueiterator_next_1 _))))
  repeat (any_goals (first | assumption | with_reducible apply wpAny_typeNameOfWhole_valiter hT | with_reducible apply wpAny_isOneOf_valiter hT | wp_step))
  simp only [show ¬ ((i : Int) < 0) from by omega, if_false, Int.toNat_natCast, hx]
  repeat (any_goals (first | assumption | with_reducible apply wpAny_typeNameOfWhole_valiter hT | with_reducible apply wpAny_isOneOf_valiter hT | wp_step))
  refine ⟨_, rfl, wpAny_pure (hQ _ ⟨_, Heap.get?_update_self _ ho rfl, rfl, ?_⟩ (Heap.SameBut.update ..))⟩
  show Data.fields #[.ref d, rawInt ((i : Int) + 1), .int es.size 0, .int ep 0] = _
  rfl
theorem raw_values_end {it d : Addr} {i ep : Nat} {es : Array DictEntry} {Q : Option Value → Shared → Prop} (hh : A.handled = none) (hit : s.heap.IsValIter it d i es.size ep)
    (hm : DRaw s.heap d es ep) (hx : es[i]? = none)
    (hQ : ∀ h', Heap.ExtBut it s.heap h' → Q none { s with heap := h' }) :
    wpAny (model prog w) A (pyNext (.ref it)) Q E s := by
  obtain ⟨⟨cls, dc, dat, sl⟩, ho, hc, hd⟩ := id hit
  obtain ⟨⟨cls2, dc2, dat2, sl2⟩, hod, hcd, hdd⟩ := id hm
  simp only at hc hd hcd hdd
  subst hc hd hcd hdd
  have hT := hit.typeIs
  obtain ⟨hp, g, dr, tk, os⟩ := s
  unfold pyNext
  refine wpAny_bind (wpAny_attempt (wpAny_callSpecial?_slot (name := Str.ofString "__next__") hit.typeIs F.slot_dict_valueiterator_next
    (wpAny_call_entry F.slot_dict_valueiterator_next hit.typeIs F.entry_dict_valueiterator_next ?_ (F.args_dict_valueiterator_next_1 _))))
  repeat (any_goals (first | assumption | with_reducible apply wpAny_typeNameOfWhole_valiter hT | with_reducible apply wpAny_isOneOf_valiter hT | wp_step))
  simp only [show ¬ ((i : Int) < 0) from by omega, if_false, Int.toNat_natCast, hx]
  repeat (any_goals (first | assumption | with_reducible apply wpAny_typeNameOfWhole_valiter hT | with_reducible apply wpAny_isOneOf_valiter hT | wp_step))
  refine wpAny_raiseNew_none hh ?_
  refine wpAny_bind (wpAny_isInstance (T := "StopIteration") (b := true) ⟨_, Heap.get?_push_size _ rfl, rfl⟩ isSubtype_stop ?_)
  exact wpAny_pure (hQ _ (((Heap.SameBut.update ..).extBut.push _).push _))
theorem raw_items_end {it d : Addr} {i ep : Nat} {es : Array DictEntry} {ok ov : Value} {Q : Option Value → Shared → Prop} (hh : A.handled = none) (hit : IsItemIter s.heap it d i es.size ep ok ov)
    (hm : DRaw s.heap d es ep) (hx : es[i]? = none)
    (hQ : ∀ h', Heap.ExtBut it s.heap h' → Q none { s with heap := h' }) :
    wpAny (model prog w) A (pyNext (.ref it)) Q E s := by
  obtain ⟨⟨cls2, dc2, dat2, sl2⟩, hod, hcd, hdd⟩ := id hm
  simp only at hcd hdd
  subst hcd hdd
  have hT : s.TypeIs (.ref it) "dict_itemiterator" := ⟨_, hit, rfl⟩
  have hit' : s.heap.get? it = some _ := hit
  obtain ⟨hp, g, dr, tk, os⟩ := s
  unfold pyNext
  refine wpAny_bind (wpAny_attempt (wpAny_callSpecial?_slot (name := Str.ofString "__next__") hT F.slot_dict_itemiterator_next
    (wpAny_call_entry F.slot_dict_itemiterator_next hT F.entry_dict_itemiterator_next ?_ (F.args_dict_itemiterator_next_1 _))))
  repeat (any_goals (first | assumption | with_reducible apply wpAny_typeNameOfWhole_itemiter hT | with_reducible apply wpAny_isOneOf_itemiter hT | wp_step))
  simp only [show ¬ ((i : Int) < 0) from by omega, if_false, Int.toNat_natCast, hx]
  repeat (any_goals (first | assumption | with_reducible apply wpAny_typeNameOfWhole_itemiter hT | with_reducible apply wpAny_isOneOf_itemiter hT | wp_step))
  refine wpAny_raiseNew_none hh ?_
  refine wpAny_bind (wpAny_isInstance (T := "StopIteration") (b := true) ⟨_, Heap.get?_push_size _ rfl, rfl⟩ isSubtype_stop ?_)
  exact wpAny_pure (hQ _ (((Heap.SameBut.update ..).extBut.push _).push _))
theorem raw_pair {it d : Addr} {i n ep : Nat} {key val ok ov : Value} {Q : Value → Shared → Prop} (hit : IsItemIter s.heap it d i n ep ok ov)
    (hQ : ∀ h', IsItemIterOut h' it d i n ep key val s.heap.objs.size → h'.get? s.heap.objs.size = some { cls := .type "tuple", data := .seq #[key, val] } → h'.objs.size = s.heap.objs.size + 1 →
      (∀ b o, b ≠ it → s.heap.get? b = some o → h'.get? b = some o) → Q (.ref s.heap.objs.size) { s with heap := h' }) :
    wpAny (model prog w) A (Builtin.Dict_items.pairFromOwner (.ref it) 6 key val) Q E s := by
  unfold Builtin.Dict_items.pairFromOwner
  have lt : @LT.lt Nat _ it s.heap.objs.size := Heap.lt_size hit
  have hne : s.heap.objs.size ≠ it := Nat.ne_of_gt lt
  refine wpAny_bind (wpAny_newTuple ?_)
  have e0 : IsItemIter (s.heap.push { cls := .type "tuple", data := .seq #[key, val] }) it d i n ep ok ov := Heap.get?_push_of_some _ hit
  have t0 : (s.heap.push { cls := .type "tuple", data := .seq #[key, val] }).get? s.heap.objs.size = some { cls := .type "tuple", data := .seq #[key, val] } := Heap.get?_push_size _ rfl
  have z0 : (s.heap.push { cls := .type "tuple", data := .seq #[key, val] }).objs.size = s.heap.objs.size + 1 := size_push' _ _
  have k0 : ∀ b o, b ≠ it → s.heap.get? b = some o → (s.heap.push { cls := .type "tuple", data := .seq #[key, val] }).get? b = some o := fun b o _ e => Heap.get?_push_of_some _ e
  generalize (s.heap.push { cls := .type "tuple", data := .seq #[key, val] }) = h0 at *
  refine wpAny_bind ?_
  unfold Builtin.Dict_items.ownedTupleIsFree
  refine wpAny_bind (wpAny_field (s := { s with heap := h0 }) e0 rfl (x := .none) rfl (wpAny_pure ?_))
  simp only [if_true]
  refine wpAny_bind (wpAny_field (s := { s with heap := h0 }) e0 rfl (x := ok) rfl ?_)
  refine wpAny_bind (wpAny_field (s := { s with heap := h0 }) e0 rfl (x := ov) rfl ?_)
  refine wpAny_bind (wpAny_setField_rec (s := { s with heap := h0 }) e0 (by simp) fun h1 e1 s1 => ?_)
  have s1' : Heap.SameBut it h0 h1 := s1
  have e1' : IsItemIter h1 it d i n ep key ov := e1
  refine wpAny_bind (wpAny_setField_rec (s := { s with heap := h1 }) e1' (by simp) fun h2 e2 s2 => ?_)
  have s2' : Heap.SameBut it h1 h2 := s2
  have e2' : IsItemIter h2 it d i n ep key val := e2
  refine wpAny_bind (wpAny_setField_rec (s := { s with heap := h2 }) e2' (by simp) fun h3 e3 s3 => ?_)
  have s3' : Heap.SameBut it h2 h3 := s3
  have e3' : IsItemIterOut h3 it d i n ep key val s.heap.objs.size := e3
  refine wpAny_bind (wpAny_setField_rec (s := { s with heap := h3 }) e3' (by simp) fun h4 e4 s4 => ?_)
  have s4' : Heap.SameBut it h3 h4 := s4
  have e4' : IsItemIterOut h4 it d i n ep key val s.heap.objs.size := e4
  have kk : ∀ b o, b ≠ it → h0.get? b = some o → h4.get? b = some o := fun b o hb e => s4'.extBut b o hb (s3'.extBut b o hb (s2'.extBut b o hb (s1'.extBut b o hb e)))
  refine wpAny_bind (wpAny_letGo (wpAny_pure (hQ h4 e4' (kk _ _ hne t0) ?_ fun b o hb e => kk b o hb (k0 b o hb e))))
  rw [s4'.1, s3'.1, s2'.1, s1'.1, z0]
theorem raw_items_next {it d : Addr} {i ep : Nat} {es : Array DictEntry} {e : DictEntry} {ok ov : Value} {Q : Option Value → Shared → Prop} (hit : IsItemIter s.heap it d i es.size ep ok ov)
    (hm : DRaw s.heap d es ep) (hx : es[i]? = some e)
    (hQ : ∀ h', IsItemIterOut h' it d (i + 1) es.size ep e.key e.val s.heap.objs.size →
      h'.get? s.heap.objs.size = some { cls := .type "tuple", data := .seq #[e.key, e.val] } → h'.objs.size = s.heap.objs.size + 1 →
      (∀ b o, b ≠ it → s.heap.get? b = some o → h'.get? b = some o) → Q (some (.ref s.heap.objs.size)) { s with heap := h' }) :
    wpAny (model prog w) A (pyNext (.ref it)) Q E s := by
  obtain ⟨⟨cls2, dc2, dat2, sl2⟩, hod, hcd, hdd⟩ := id hm
  simp only at hcd hdd
  subst hcd hdd
  have hT : s.TypeIs (.ref it) "dict_itemiterator" := ⟨_, hit, rfl⟩
  have hit' : s.heap.get? it = some _ := hit
  have hlt := lt_of_item hx
  obtain ⟨hp, g, dr, tk, os⟩ := s
  unfold pyNext
  refine wpAny_bind (wpAny_attempt (wpAny_callSpecial?_slot (name := Str.ofString "__next__") hT F.slot_dict_itemiterator_next
    (wpAny_call_entry F.slot_dict_itemiterator_next hT F.entry_dict_itemiterator_next ?_ (F.args_dict_itemiterator_next_1 _))))
  repeat (any_goals (first | assumption | with_reducible apply wpAny_typeNameOfWhole_itemiter hT | with_reducible apply wpAny_isOneOf_itemiter hT | wp_step))
  simp only [show ¬ ((i : Int) < 0) from by omega, if_false, Int.toNat_natCast, hx]
  refine wpAny_bind ?_
  refine wpAny_bind (wpAny_typeNameOfWhole_itemiter hT (wpAny_pure ?_))
  refine wpAny_bind (wpAny_isOneOf_itemiter hT ?_)
  show wpAny _ _ (setField (.ref it) 3 (rawInt ((i : Int) + 1)) >>= _) _ _ _
  refine wpAny_bind (wpAny_setField_rec hit (by simp) fun h1 e1 s1 => ?_)
  have s1' : Heap.SameBut it hp h1 := s1
  have e1' : IsItemIter h1 it d (i + 1) es.size ep ok ov := e1
  have hT1 : Shared.TypeIs ⟨h1, g, dr, tk, os⟩ (.ref it) "dict_itemiterator" := ⟨_, e1', rfl⟩
  refine wpAny_bind (wpAny_holding ?_)
  refine wpAny_bind (wpAny_isOneOf_itemiter hT1 ?_)
  refine wpAny_bind (wpAny_isOneOf_itemiter hT1 ?_)
  show wpAny _ _ (Builtin.Dict_items.pairFromOwner (.ref it) 6 e.key e.val) _ _ ⟨h1, g, dr, tk, os⟩
  have z1 : h1.objs.size = hp.objs.size := s1'.1
  refine raw_pair e1' fun h2 e2 t2 z2 k2 => ?_
  have hQ' := hQ h2
  simp only [z1] at e2 t2 z2
  refine wpAny_pure ⟨_, rfl, wpAny_pure ?_⟩
  show Q (some (.ref h1.objs.size)) _
  rw [z1]
  exact hQ h2 e2 t2 z2 fun b o hb eo => k2 b o hb (s1'.extBut b o hb eo)
end
end Mine
namespace Mine
open PySem PySem.Calls PySem.Spec PyProof.Rows PySem.W

section
variable {Γ : Gl} {k : Nat} {nm : List (Str × NameKind)} {ρ : Ctx0}

theorem row_raw {h : Heap} {d : Addr} {r : Row} (x : RowAt Γ h d r) : d ≠ sysModules ∧ ∃ (es : Array DictEntry) (ep : Nat) (o : Obj), h.get? d = some o ∧ o.cls = .type "dict" ∧ o.dict = none ∧ o.data = .dict es ep ∧ es.size = r.length ∧
    ∀ (i : Nat) (kv : KeyT × Int), r[i]? = some kv → ∃ e : DictEntry, es[i]? = some e ∧ Is Γ h e.key (.py (keyPy kv.1)) ∧ IntV e.val kv.2 := by
  obtain ⟨hs, xs, ⟨o, es, ep, ho, hx, hd, he, hk, hn⟩, hv⟩ := x
  refine ⟨hs, es, ep, o, ho, hx.1, hx.2.1, hd, by rw [size_of_entries he, All2.length hv], fun i kv hi => ?_⟩
  obtain ⟨y, hy, h1, h2⟩ := hv.get hi
  refine ⟨entryOfKey (tKind Γ) y, by rw [entry_at he, hy]; rfl, ?_, h2⟩
  have := hk y (List.mem_of_getElem? hy)
  rw [h1] at this
  exact is_keyPy this

theorem fs_noDict {s : Shared} {d : Addr} {o : Obj} (ho : s.heap.get? d = some o) (hn : o.dict = none) : ∀ a, Value.ref d = .ref a → ∃ ob, s.heap.get? a = some ob ∧ ob.dict = none := fun a e => by
  cases e; exact ⟨o, ho, hn⟩

section
variable {prog : Program} {w : World} {A : Around} {E : Value → Shared → Prop} {s : Shared} {env : Env}
theorem raw_items {d : Addr} (hs : d ≠ sysModules) {Q : Value → Shared → Prop} (hT : s.TypeIs (.ref d) "dict")
    (h : Q (.ref s.heap.objs.size) { s with heap := s.heap.push { cls := .type "dict_items", data := .fields #[.ref d] } }) : wpAny (model prog w) A (call (.builtin "dict.items") [.ref d]) Q E s := by
  have hm : MeetsIn prog w (Builtin.«dict.items» ⟨[.ref d], []⟩) (fun _ R s => s.TypeIs (.ref d) "dict" ∧
      R (.ok (.ret (.ref s.heap.objs.size))) { s with heap := s.heap.push { cls := .type "dict_items", data := .fields #[.ref d] } }) := .of_wp fun A R s ⟨hT, h⟩ => by
    unfold Builtin.«dict.items»
    refine wpAny_bind ?_
    unfold Builtin.Dict.noArgs
    refine wpAny_bind (wpAny_notOrdered_dict hT ?_)
    show wpAny _ _ (pure d) _ _ s
    refine wpAny_pure ?_
    show wpAny _ _ (Builtin.Dict.showsAll d >>= _) _ _ s
    unfold Builtin.Dict.showsAll
    rw [if_neg (by rw [sys_ne hs]; exact Bool.false_ne_true)]
    refine wpAny_bind (wpAny_pure ?_)
    exact wpAny_bind (wpAny_newObj_type (wpAny_pure ⟨_, rfl, h⟩))
  exact call_meetsIn PySem.F.slot_dict_items hT PySem.F.entry_dict_items (PySem.F.args_dict_items_1 _) hm ⟨hT, h⟩
theorem raw_values {d : Addr} (hs : d ≠ sysModules) {Q : Value → Shared → Prop} (hT : s.TypeIs (.ref d) "dict")
    (h : Q (.ref s.heap.objs.size) { s with heap := s.heap.push { cls := .type "dict_values", data := .fields #[.ref d] } }) : wpAny (model prog w) A (call (.builtin "dict.values") [.ref d]) Q E s := by
  have hm : MeetsIn prog w (Builtin.«dict.values» ⟨[.ref d], []⟩) (fun _ R s => s.TypeIs (.ref d) "dict" ∧
      R (.ok (.ret (.ref s.heap.objs.size))) { s with heap := s.heap.push { cls := .type "dict_values", data := .fields #[.ref d] } }) := .of_wp fun A R s ⟨hT, h⟩ => by
    refine wpAny_bind ?_
    unfold Builtin.Dict.noArgs
    refine wpAny_bind (wpAny_notOrdered_dict hT ?_)
    show wpAny _ _ (pure d) _ _ s
    refine wpAny_pure ?_
    show wpAny _ _ (Builtin.Dict.showsAll d >>= _) _ _ s
    unfold Builtin.Dict.showsAll
    rw [if_neg (by rw [sys_ne hs]; exact Bool.false_ne_true)]
    refine wpAny_bind (wpAny_pure ?_)
    exact wpAny_bind (wpAny_newObj_type (wpAny_pure ⟨_, rfl, h⟩))
  exact call_meetsIn PySem.F.slot_dict_values hT PySem.F.entry_dict_values (PySem.F.args_dict_values_1 _) hm ⟨hT, h⟩
theorem raw_iter_items {v d : Addr} {es : Array DictEntry} {ep : Nat} {Q : Value → Shared → Prop} (hv : s.heap.IsItemsView v d) (hm : DRaw s.heap d es ep)
    (hQ : Q (.ref s.heap.objs.size) { s with heap := s.heap.push { cls := .type "dict_itemiterator", data := .fields #[.none, .bool false, .ref d, .int 0 0, .int es.size 0, .int ep 0, .none, .none] } }) :
    wpAny (model prog w) A (pyIter (.ref v)) Q E s := by
  obtain ⟨ov, hov, hcv, hdv⟩ := id hv
  obtain ⟨o, ho, hc, hdat⟩ := id hm
  refine wpAny_pyIter_slot hv.typeIs F.slot_dict_items_iter (wpAny_call_entry F.slot_dict_items_iter hv.typeIs F.entry_dict_items_iter ?_ (F.args_dict_items_iter_1 _))
  unfold Builtin.«dict_items.__iter__»
  refine wpAny_bind (wpAny_pure ?_)
  refine wpAny_bind ?_
  unfold Builtin.Dict_items.dictOf
  refine wpAny_bind (wpAny_field hov hdv (x := .ref d) rfl (wpAny_pure ?_))
  refine wpAny_bind ?_
  unfold Builtin.Dict_items.newIterator
  refine wpAny_bind (wpAny_dictEntries ho hdat ?_)
  refine wpAny_bind (wpAny_dictEpoch ho hdat ?_)
  have hown : Builtin.Dict_items.ownsTuple "dict_itemiterator" = true := by decide
  simp only [hown, if_true]
  refine wpAny_newObj_type (wpAny_pure ⟨_, rfl, "dict_itemiterator", _, ⟨_, Heap.get?_push_size _ rfl, rfl⟩, F.slot_dict_itemiterator_next.lookup, ?_⟩)
    (by simp only [sizeOk, Builtin.Dict_items.ownedTupleFields, List.size_toArray, List.length_append, List.length_cons, List.length_nil, sizeLine_eq]; omega)
  simpa [rawInt, Builtin.Dict_items.ownedTupleFields] using hQ
theorem raw_iter_values {v d : Addr} {es : Array DictEntry} {ep : Nat} {Q : Value → Shared → Prop} (hv : s.heap.IsValuesView v d) (hm : DRaw s.heap d es ep)
    (hQ : Q (.ref s.heap.objs.size) { s with heap := s.heap.push { cls := .type "dict_valueiterator", data := .fields #[.ref d, .int 0 0, .int es.size 0, .int ep 0] } }) :
    wpAny (model prog w) A (pyIter (.ref v)) Q E s := by
  obtain ⟨ov, hov, hcv, hdv⟩ := id hv
  obtain ⟨o, ho, hc, hdat⟩ := id hm
  refine wpAny_pyIter_slot hv.typeIs F.slot_dict_values_iter (wpAny_call_entry F.slot_dict_values_iter hv.typeIs F.entry_dict_values_iter ?_ (F.args_dict_values_iter_1 _))
  unfold Builtin.«dict_values.__iter__»
  refine wpAny_bind (wpAny_pure ?_)
  refine wpAny_bind ?_
  unfold Builtin.Dict_items.dictOf
  refine wpAny_bind (wpAny_field hov hdv (x := .ref d) rfl (wpAny_pure ?_))
  refine wpAny_bind ?_
  unfold Builtin.Dict_items.newIterator
  refine wpAny_bind (wpAny_dictEntries ho hdat ?_)
  refine wpAny_bind (wpAny_dictEpoch ho hdat ?_)
  have hown : Builtin.Dict_items.ownsTuple "dict_valueiterator" = false := by decide
  simp only [hown, Bool.false_eq_true, if_false]
  refine wpAny_newObj_type (wpAny_pure ⟨_, rfl, "dict_valueiterator", _, ⟨_, Heap.get?_push_size _ rfl, rfl⟩, F.slot_dict_valueiterator_next.lookup, ?_⟩)
  simpa [rawInt] using hQ
end
end
end Mine
namespace Mine
open PySem PySem.Calls PySem.Spec PyProof.Rows PySem.W

theorem entry_itemiter_iter : entryFor table "dict_itemiterator.__iter__" = some Builtin.«dict_keyiterator.__iter__» :=
  entryFor_alias (id' := "dict_keyiterator.__iter__") (by kernel_rfl) rfl (by decide +kernel) (by kernel_rfl)

section
variable {Γ : Gl} {k : Nat} {nm : List (Str × NameKind)} {ρ : Ctx0}

abbrev pairD (kv : KeyT × Int) : D := .py (.tuple [keyPy kv.1, .int kv.2])
theorem map_get {α β : Type} {f : α → β} {l : List α} {i : Nat} {b : β} (h : (l.map f)[i]? = some b) : ∃ a, l[i]? = some a ∧ b = f a := by
  rw [List.getElem?_map] at h
  cases e : l[i]? with
  | none => rw [e] at h; cases h
  | some a => rw [e] at h; cases h; exact ⟨a, rfl, rfl⟩

theorem src_values {A : Around} (hh : A.handled = none) {x : Str} {pos : Pos} {I d : Addr} {base : Heap} {es : Array DictEntry} {ep : Nat} {r : Row} (hne : d ≠ I) (hsz : es.size = r.length)
    (hes : ∀ (i : Nat) (kv : KeyT × Int), r[i]? = some kv → ∃ e : DictEntry, es[i]? = some e ∧ Is Γ base e.key (.py (keyPy kv.1)) ∧ IntV e.val kv.2) :
    Src Γ A (.Name x pos) I base [I, d] [I] (r.map fun kv => Mine.I kv.2) (fun i h => h.IsValIter I d i es.size ep ∧ DRaw h d es ep) where
  sub := fun b hb => by simp at hb; simp [hb]
  frame := fun i h h' st hk => by
    obtain ⟨⟨o, ho, q⟩, ⟨o2, ho2, q2⟩⟩ := st
    exact ⟨⟨o, hk I (by simp) _ ho, q⟩, ⟨o2, hk d (by simp) _ ho2, q2⟩⟩
  alive := fun i h st b hb => by simp at hb; subst hb; obtain ⟨⟨o, ho, _⟩, _⟩ := st; exact ⟨o, ho⟩
  step := by
    intro i s M dd Q hd st lm wm sb hQ
    obtain ⟨kv, hkv, rfl⟩ := map_get hd
    obtain ⟨e, he, _, hv⟩ := hes i kv hkv
    refine raw_values_next st.1 st.2 he fun h' hi hs => ⟨e.val, rfl, goName ?_⟩
    have hs' : Heap.SameBut I s.heap h' := hs
    obtain ⟨o2, ho2, q2⟩ := st.2
    exact hQ e.val h' s.toks (is_int.mpr hv) ⟨hi, o2, (hs'.2 d hne).trans ho2, q2⟩ (sameBut_kpx hs' (by simp))
  done := fun s Q st hQ => by
    rw [List.length_map, ← hsz] at st
    refine raw_values_end hh st.1 st.2 (by simp) fun h' hx => hQ h' s.toks fun b o n e => hx b o (fun q => n (by simp [q])) e
  self := fun i s Q st hQ => wpAny_pyIter_valiter st.1 hQ
theorem src_items {A : Around} (hh : A.handled = none) {elts : List PySem.Expr} {kk : Nat} {pos : Pos} {I d : Addr} {base : Heap} {es : Array DictEntry} {ep : Nat} {r : Row} (hne : d ≠ I) (hsz : es.size = r.length)
    (hes : ∀ (i : Nat) (kv : KeyT × Int), r[i]? = some kv → ∃ e : DictEntry, es[i]? = some e ∧ Is Γ base e.key (.py (keyPy kv.1)) ∧ IntV e.val kv.2) :
    Src Γ A (.Tuple elts kk pos) I base [I, d] [I] (r.map pairD) (fun i h => (∃ ok ov, IsItemIter h I d i es.size ep ok ov) ∧ DRaw h d es ep) where
  sub := fun b hb => by simp at hb; simp [hb]
  frame := fun i h h' st hk => by
    obtain ⟨⟨ok, ov, ho⟩, ⟨o2, ho2, q2⟩⟩ := st
    exact ⟨⟨ok, ov, hk I (by simp) _ ho⟩, ⟨o2, hk d (by simp) _ ho2, q2⟩⟩
  alive := fun i h st b hb => by simp at hb; subst hb; obtain ⟨⟨ok, ov, ho⟩, _⟩ := st; exact ⟨_, ho⟩
  step := by
    intro i s M dd Q hd st lm wm sb hQ
    obtain ⟨kv, hkv, rfl⟩ := map_get hd
    obtain ⟨e, he, hk, hv⟩ := hes i kv hkv
    obtain ⟨⟨ok, ov, hi⟩, o2, ho2, q2⟩ := st
    refine raw_items_next hi ⟨o2, ho2, q2⟩ he fun h1 e1 t1 z1 k1 => ⟨.ref s.heap.objs.size, rfl, ?_⟩
    refine wpAny_letOwnedTupleGo_items (s := { s with heap := h1 }) e1 fun h2 e2 s2 => ?_
    have s2' : Heap.SameBut I h1 h2 := s2
    have kp : KpX [I] s.heap h2 := fun b o n eo => (s2'.2 b (fun q => n (by simp [q]))).trans (k1 b o (fun q => n (by simp [q])) eo)
    have hne2 : s.heap.objs.size ≠ I := Nat.ne_of_gt (Heap.lt_size hi)
    have t2 : h2.get? s.heap.objs.size = some { cls := .type "tuple", data := .seq #[e.key, e.val] } := (s2'.2 _ hne2).trans t1
    refine hQ _ h2 s.toks (is_tuple.mpr ⟨_, #[e.key, e.val], rfl, ⟨_, hd_get t2 (fun m => not_live_size (lm _ m)), rfl, _, rfl⟩, ?_⟩) ⟨⟨_, _, e2⟩, o2, kp _ _ (fun q => hne (by simpa using q)) ho2, q2⟩ kp
    exact .cons (hk.keeps (sb.trans (kp.hd wm))) (.cons (is_int.mpr hv) .nil)
  done := fun s Q st hQ => by
    rw [List.length_map, ← hsz] at st
    obtain ⟨⟨ok, ov, hi⟩, hd⟩ := st
    refine raw_items_end hh hi hd (by simp) fun h' hx => hQ h' s.toks fun b o n e => hx b o (fun q => n (by simp [q])) e
  self := fun i s Q st hQ => by
    obtain ⟨⟨ok, ov, hi⟩, hd⟩ := st
    have hT : s.TypeIs (.ref I) "dict_itemiterator" := ⟨_, hi, rfl⟩
    refine wpAny_pyIter_slot hT F.slot_dict_itemiterator_iter (wpAny_call_entry F.slot_dict_itemiterator_iter hT entry_itemiter_iter ?_ (F.args_dict_itemiterator_iter_1 _))
    show wpAny _ _ (ret (.ref I)) _ _ s
    exact wpAny_pure ⟨_, rfl, "dict_itemiterator", _, hT, F.slot_dict_itemiterator_next.lookup, hQ⟩

theorem itr_items {elts : List PySem.Expr} {kk : Nat} {pos ap cp : Pos} {e : PySem.Expr} {r : Row} (h : Ev Γ k nm ρ e (.tdict r))
    (hbase : ∀ env, attributeBase e "items" env (eval e env) = eval e env) (hline : (ap.endLine == cp.line) = true) : Itr Γ k nm ρ (.Tuple elts kk pos) (.Call (.Attribute e "items" ap) [] [] cp) (r.map pairD) := by
  intro A env M s p Q hQ
  refine wpAny_Call_method (T := "dict") (id := "dict.items") (hbase env) rfl hline F.plainAttrs_dict F.slot_dict_items F.type_dict_items (h A env M s p _ fun v h1 tk1 k1 iv => ?_)
  obtain ⟨d, rfl, hrow⟩ := iv
  obtain ⟨hs, es, ep, o, ho, hc, hdn, hdat, hsz, hes⟩ := row_raw hrow
  have ho1 : h1.get? d = some o := hd_sub M h1 _ _ ho
  refine ⟨⟨o, ho1, hc⟩, fs_noDict (s := { s with heap := h1, toks := tk1 }) ho1 hdn, ?_⟩
  show wpAny _ _ (callWith cp (.builtin "dict.items") [.ref d] [] []) _ _ _
  refine Calls.callWith_builtin rfl (PySem.evalArgs_none ?_)
  refine raw_items (s := { s with heap := h1, toks := tk1 }) hs ⟨o, ho1, hc⟩ ?_
  have k2 : Sub h1 (h1.push { cls := .type "dict_items", data := .fields #[.ref d] }) := sub_push _ _
  have hvw : (h1.push { cls := .type "dict_items", data := .fields #[.ref d] }).IsItemsView h1.objs.size d := ⟨_, Heap.get?_push_size _ rfl, rfl, rfl⟩
  refine raw_iter_items (s := { s with heap := h1.push { cls := .type "dict_items", data := .fields #[.ref d] }, toks := tk1 }) hvw ⟨o, k2 _ _ ho1, hc, hdat⟩ ?_
  show Q (.ref (h1.push { cls := .type "dict_items", data := .fields #[.ref d] }).objs.size) { s with heap := (h1.push { cls := .type "dict_items", data := .fields #[.ref d] }).push _, toks := tk1 }
  generalize h1.push { cls := .type "dict_items", data := .fields #[.ref d] } = h2 at *
  have k3 : Sub h2 (h2.push { cls := .type "dict_itemiterator", data := .fields #[.none, .bool false, .ref d, .int 0 0, .int es.size 0, .int ep 0, .none, .none] }) := sub_push _ _
  have kall := Sub.trans k1 k2
  have dl : @LT.lt Nat _ d h2.objs.size := Heap.lt_size (k2 _ _ ho1)
  refine hQ h2.objs.size [h2.objs.size, d] [h2.objs.size] _ _ tk1 (src_items p.rm.handled (Nat.ne_of_lt dl) hsz fun i kv hi => ?_) ⟨⟨.none, .none, Heap.get?_push_size _ rfl⟩, o, k3 _ _ (k2 _ _ ho1), hc, hdat⟩ (kall.trans k3) (fun b hb q => ?_) (fun b hb => ?_)
  · obtain ⟨en, a1, a2, a3⟩ := hes i kv hi
    exact ⟨en, a1, a2.keeps (hd_fresh (k2.trans k3) fun b hb q => by
      simp at hb; subst hb
      exact not_live_size (q.sub k2)), a3⟩
  · simp at hb; subst hb; exact not_live_size (q.sub kall)
  · simp at hb
    rcases hb with rfl | rfl
    · exact .inl (by simp)
    · exact .inr ⟨o, hd_sub_sub (k2.trans k3) _ _ ho⟩
theorem itr_values {x : Str} {pos ap cp : Pos} {e : PySem.Expr} {r : Row} (h : Ev Γ k nm ρ e (.tdict r))
    (hbase : ∀ env, attributeBase e "values" env (eval e env) = eval e env) (hline : (ap.endLine == cp.line) = true) : Itr Γ k nm ρ (.Name x pos) (.Call (.Attribute e "values" ap) [] [] cp) (r.map fun kv => Mine.I kv.2) := by
  intro A env M s p Q hQ
  refine wpAny_Call_method (T := "dict") (id := "dict.values") (hbase env) rfl hline F.plainAttrs_dict F.slot_dict_values F.type_dict_values (h A env M s p _ fun v h1 tk1 k1 iv => ?_)
  obtain ⟨d, rfl, hrow⟩ := iv
  obtain ⟨hs, es, ep, o, ho, hc, hdn, hdat, hsz, hes⟩ := row_raw hrow
  have ho1 : h1.get? d = some o := hd_sub M h1 _ _ ho
  refine ⟨⟨o, ho1, hc⟩, fs_noDict (s := { s with heap := h1, toks := tk1 }) ho1 hdn, ?_⟩
  show wpAny _ _ (callWith cp (.builtin "dict.values") [.ref d] [] []) _ _ _
  refine Calls.callWith_builtin rfl (PySem.evalArgs_none ?_)
  refine raw_values (s := { s with heap := h1, toks := tk1 }) hs ⟨o, ho1, hc⟩ ?_
  have k2 : Sub h1 (h1.push { cls := .type "dict_values", data := .fields #[.ref d] }) := sub_push _ _
  have hvw : (h1.push { cls := .type "dict_values", data := .fields #[.ref d] }).IsValuesView h1.objs.size d := ⟨_, Heap.get?_push_size _ rfl, rfl, rfl⟩
  refine raw_iter_values (s := { s with heap := h1.push { cls := .type "dict_values", data := .fields #[.ref d] }, toks := tk1 }) hvw ⟨o, k2 _ _ ho1, hc, hdat⟩ ?_
  show Q (.ref (h1.push { cls := .type "dict_values", data := .fields #[.ref d] }).objs.size) { s with heap := (h1.push { cls := .type "dict_values", data := .fields #[.ref d] }).push _, toks := tk1 }
  generalize h1.push { cls := .type "dict_values", data := .fields #[.ref d] } = h2 at *
  have k3 : Sub h2 (h2.push { cls := .type "dict_valueiterator", data := .fields #[.ref d, .int 0 0, .int es.size 0, .int ep 0] }) := sub_push _ _
  have kall := Sub.trans k1 k2
  have dl : @LT.lt Nat _ d h2.objs.size := Heap.lt_size (k2 _ _ ho1)
  refine hQ h2.objs.size [h2.objs.size, d] [h2.objs.size] _ _ tk1 (src_values p.rm.handled (Nat.ne_of_lt dl) hsz fun i kv hi => ?_) ⟨⟨_, Heap.get?_push_size _ rfl, rfl, rfl⟩, o, k3 _ _ (k2 _ _ ho1), hc, hdat⟩ (kall.trans k3) (fun b hb q => ?_) (fun b hb => ?_)
  · obtain ⟨en, a1, a2, a3⟩ := hes i kv hi
    exact ⟨en, a1, a2.keeps (hd_fresh (k2.trans k3) fun b hb q => by
      simp at hb; subst hb
      exact not_live_size (q.sub k2)), a3⟩
  · simp at hb; subst hb; exact not_live_size (q.sub kall)
  · simp at hb
    rcases hb with rfl | rfl
    · exact .inl (by simp)
    · exact .inr ⟨o, hd_sub_sub (k2.trans k3) _ _ ho⟩
end
end Mine
namespace Mine
open PySem PySem.Calls PySem.Spec PyProof.Rows PySem.W

section
variable {Γ : Gl} {k : Nat} {nm : List (Str × NameKind)} {ρ : Ctx0}
/-- isinstance(e, tuple) of an int -/
theorem ev_int_no_tuple {pp tp pos : Pos} {e : PySem.Expr} {i : Int} (ok : Γ.Ok) (g1 : Glo Γ "isinstance" (.builtin "isinstance")) (g2 : Glo Γ "tuple" (.type "tuple")) (h : Ev Γ k nm ρ e (I i))
    (hk1 : nm.lookup ("isinstance" : Str) = some .globalImplicit := by rfl) (hk2 : nm.lookup ("tuple" : Str) = some .globalImplicit := by rfl)
    (he : ∀ env, starEach [e, .Name "tuple" tp] env = (false, eval e env) :: starEach [.Name "tuple" tp] env := by intro _; rfl) :
    Ev Γ k nm ρ (.Call (.Name "isinstance" pp) [e, .Name "tuple" tp] [] pos) (Bo false) := by
  intro A env M s p Q hQ
  refine Call_ (load_glo ok p.en p.base g1 hk1 (by decide +kernel) ?_) (by rfl)
  refine callWith_builtin1 (args_cons (h A env M s p _ fun v h' tk k' iv => args_cons (load_glo ok p.en (p.base.trans k') g2 hk2 (by decide +kernel) (args_nil ?_)) rfl) (he env)) (he env) (by rfl)
  obtain ⟨t, rfl⟩ := is_int.mp iv
  exact call_isinstance (isinstance_false_int (by decide +kernel) F.isi_meta_tuple F.sub_int_tuple) (hQ _ h' _ k' (is_bool.mpr rfl))
end

section
variable {Γ : Gl} {k : Nat} {nm : List (Str × NameKind)} {ρ : Ctx0} {xs : List Str} {A : Around} {env : Env} {h₀ : Heap} {X : List Addr} {F : Addr} {M : List Addr} {μ : Mu} {s : Shared} {rest : List Stmt} {Q : Flow → Shared → Prop} {pos : Pos}

theorem FS.peek_py {x : Str} {ps : List PyData} (f : FS Γ k nm xs A env h₀ X F M ρ (.list x (ps.map D.py)) s) : Pre Γ k nm ((x, .py (.list ps)) :: ρ) A env (M.filter (· != F)) s := by
  have hd : Sub (Hd M s.heap) (Hd (M.filter (· != F)) s.heap) := hd_less fun b hb => (List.mem_filter.mp hb).1
  have hF : F ∉ M.filter (· != F) := fun q => by simpa using (List.mem_filter.mp q).2
  refine ⟨f.pre.rm, f.pre.en, f.pre.base, fun a m => f.pre.live a (List.mem_filter.mp m).1, fun y e hy => ?_, f.pre.cells⟩
  rw [List.lookup_cons] at hy
  cases hb : y == x with
  | false =>
    rw [hb] at hy
    obtain ⟨w, r, i⟩ := f.pre.names y e hy
    exact ⟨w, r, i.keeps hd⟩
  | true =>
    rw [hb] at hy; cases hy
    obtain ⟨r1, ys, hpl, hi⟩ := f.mu
    obtain ⟨o, ho, r⟩ := hpl.isList
    rw [eq_of_beq hb]
    exact ⟨_, r1, is_list.mpr ⟨F, ys, rfl, ⟨o, hd_get ho hF, r⟩, (all2_py hi).imp fun _ _ q => q.keeps hd⟩⟩

theorem mem_off {M : List Addr} {F : Addr} (nF : F ∉ M) : ∀ b ∈ M, b ∈ (F :: M).filter (· != F) := fun b hb => List.mem_filter.mpr ⟨.tail _ hb, by
  simpa using fun q : b = F => nF (q ▸ hb)⟩
theorem x_return_dict {x : Str} {xp : Pos} {r : Row} (f : FS Γ k nm xs A env h₀ X F (F :: M) ρ (.dict x r) s) (nF : F ∉ M)
    (nx : (x == ("__classdict__" : Str)) = false) (dx : (x == ("__debug__" : Str)) = false)
    (h : ∀ v h' tk, Sub s.heap h' → Is Γ (Hd M h') v (.tdict r) → Q (.ret v) { s with heap := h', toks := tk }) :
    wpAny (model Γ.prog Γ.w) A (execs (.Return (some (.Name x xp)) pos :: rest) env) Q E0 s := by
  refine wpAny_execs_cons (wpAny_Return_some (ev_name (ρ := (x, .tdict r) :: ρ) (d := .tdict r) (by simp) nx dx A env _ s f.peek_dict _ fun v h1 tk1 k1 iv => ?_))
  exact h v h1 tk1 k1 (iv.keeps (hd_less (mem_off nF)))
theorem x_return_py {x : Str} {xp : Pos} {ps : List PyData} (f : FS Γ k nm xs A env h₀ X F (F :: M) ρ (.list x (ps.map D.py)) s) (nF : F ∉ M)
    (nx : (x == ("__classdict__" : Str)) = false) (dx : (x == ("__debug__" : Str)) = false)
    (h : ∀ v h' tk, Sub s.heap h' → Is Γ (Hd M h') v (.py (.list ps)) → Q (.ret v) { s with heap := h', toks := tk }) :
    wpAny (model Γ.prog Γ.w) A (execs (.Return (some (.Name x xp)) pos :: rest) env) Q E0 s := by
  refine wpAny_execs_cons (wpAny_Return_some (ev_name (ρ := (x, .py (.list ps)) :: ρ) (d := .py (.list ps)) (by simp) nx dx A env _ s f.peek_py _ fun v h1 tk1 k1 iv => ?_))
  exact h v h1 tk1 k1 (iv.keeps (hd_less (mem_off nF)))

/-- x += e, ints -/
theorem x_add {x : Str} {xp : Pos} {e : PySem.Expr} {i j : Int} (f : FS Γ k nm xs A env h₀ X F M ρ μ s) (hx0 : ρ.lookup x = some (I i)) (he : Ev Γ k nm ρ e (I j)) (hx : x ∈ xs) (hm : muName μ ≠ some x)
    (nx : (x == ("__classdict__" : Str)) = false)
    (h : ∀ h' tk, KpX (F :: X) s.heap h' → FS Γ k nm xs A env h₀ X F M ((x, I (i + j)) :: ρ) μ { s with heap := h', toks := tk } → wpAny (model Γ.prog Γ.w) A (execs rest env) Q E0 { s with heap := h', toks := tk }) :
    wpAny (model Γ.prog Γ.w) A (execs (.AugAssign (.Name x xp) .Add e pos :: rest) env) Q E0 s := by
  obtain ⟨w, rw1, iw⟩ := f.pre.names x _ hx0
  obtain ⟨t, rfl⟩ := is_int.mp iw
  refine wpAny_execs_cons (wpAny_AugAssign_Name (load_reach f.pre.en rw1 nx (he A env M s f.pre _ fun v h1 tk1 k1 iv => ?_)))
  obtain ⟨u, rfl⟩ := is_int.mp iv
  refine P.iadd_int ?_
  refine (f.sub (tk := tk1 + 1) k1).store hx hm (is_int.mpr ⟨_, rfl⟩) fun h2 tk2 k2 f2 => h h2 tk2 (kfx (k1.kpx.trans k2)) f2

/-- ρ' says no more than ρ -/
def Wk (ρ : Ctx0) : Ctx0 → Prop
  | [] => True
  | (x, d) :: r => ρ.lookup x = some d ∧ Wk ρ r
theorem Wk.look {ρ : Ctx0} : ∀ {ρ' : Ctx0}, Wk ρ ρ' → ∀ x d, ρ'.lookup x = some d → ρ.lookup x = some d
  | [], _, x, d, h => by simp at h
  | (y, e) :: r, ⟨h1, h2⟩, x, d, h => by
    rw [List.lookup_cons] at h
    cases hb : x == y with
    | true => rw [hb] at h; cases h; rw [eq_of_beq hb]; exact h1
    | false => rw [hb] at h; exact h2.look x d h
theorem FS.wk {ρ' : Ctx0} (f : FS Γ k nm xs A env h₀ X F M ρ μ s) (h : Wk ρ ρ') : FS Γ k nm xs A env h₀ X F M ρ' μ s := f.weak h.look

theorem x_if_at {ρ' : Ctx0} {M' : List Addr} {t : PySem.Expr} {body orelse : List Stmt} {b : Bool} (f : FS Γ k nm xs A env h₀ X F M ρ μ s) (p : Pre Γ k nm ρ' A env M' s) (ht : Et Γ k nm ρ' t b)
    (h1 : b = true → ∀ h' tk, Sub s.heap h' → FS Γ k nm xs A env h₀ X F M ρ μ { s with heap := h', toks := tk } → wpAny (model Γ.prog Γ.w) A (execs body env) (fun fl s' => match fl with | .next => wpAny (model Γ.prog Γ.w) A (execs rest env) Q E0 s' | fl => Q fl s') E0 { s with heap := h', toks := tk })
    (h2 : b = false → ∀ h' tk, Sub s.heap h' → FS Γ k nm xs A env h₀ X F M ρ μ { s with heap := h', toks := tk } → wpAny (model Γ.prog Γ.w) A (execs orelse env) (fun fl s' => match fl with | .next => wpAny (model Γ.prog Γ.w) A (execs rest env) Q E0 s' | fl => Q fl s') E0 { s with heap := h', toks := tk }) :
    wpAny (model Γ.prog Γ.w) A (execs (.If t body orelse pos :: rest) env) Q E0 s := by
  refine wpAny_execs_cons (wpAny_If (ht A env M' s p _ fun h' tk k' => ?_))
  cases b with
  | true => exact h1 rfl h' tk k' (f.sub k')
  | false => exact h2 rfl h' tk k' (f.sub k')
end
end Mine
namespace Mine
open PySem PySem.Calls PySem.Spec PyProof.Rows PySem.W

/-- what a comprehension's names must look like: ns are the names of its frame that it reads -/
def cxB (scope : Scope) (nmC : List (Str × NameKind)) (ns bn : List Str) : Bool :=
  ns.all (fun x => scope.names.contains (x, .free) && (nmC.lookup x == some .cell || nmC.lookup x == some .free)) && scope.names.all (fun x => x.2 != .free || ns.contains x.1) && bn.all fun x => !ns.contains x

theorem lookup_names {ρ : Ctx0} {x : Str} {d : D} (h : ρ.lookup x = some d) : x ∈ ρ.map (·.1) := by
  induction ρ with
  | nil => simp at h
  | cons p r ih =>
    obtain ⟨y, e⟩ := p
    rw [List.lookup_cons] at h
    cases hb : x == y with
    | true => rw [eq_of_beq hb]; exact .head _
    | false => rw [hb] at h; exact .tail _ (ih h)
theorem names_lookup {ρ : Ctx0} {x : Str} (h : x ∈ ρ.map (·.1)) : ∃ d, ρ.lookup x = some d := by
  induction ρ with
  | nil => simp at h
  | cons p r ih =>
    obtain ⟨y, e⟩ := p
    rw [List.lookup_cons]
    cases hb : x == y with
    | true => exact ⟨e, rfl⟩
    | false =>
      refine ih ?_
      rw [List.map_cons] at h
      rcases List.mem_cons.mp h with q | q
      · subst q; rw [beq_self_eq_true] at hb; cases hb
      · exact q
theorem names_none {ρ : Ctx0} {x : Str} (h : x ∉ ρ.map (·.1)) : ρ.lookup x = none := by
  cases e : ρ.lookup x with
  | none => rfl
  | some d => exact absurd (lookup_names e) h
theorem cx_c {nm : List (Str × NameKind)} {scope : Scope} {ρ ρc : Ctx0} {bn : List Str} (hW : Wk ρ ρc) (hB : cxB scope (relNames nm scope.names) (ρc.map (·.1)) bn = true) :
    ∀ x d, ρc.lookup x = some d → ρ.lookup x = some d ∧ (x, NameKind.free) ∈ scope.names ∧ ((relNames nm scope.names).lookup x = some .cell ∨ (relNames nm scope.names).lookup x = some .free) := fun x d h => by
  unfold cxB at hB
  simp only [Bool.and_eq_true] at hB
  have := List.all_eq_true.mp hB.1.1 x (lookup_names h)
  simp only [Bool.and_eq_true, Bool.or_eq_true, beq_iff_eq, List.contains_iff_mem] at this
  exact ⟨hW.look x d h, this.1, this.2⟩
theorem cx_f {nm : List (Str × NameKind)} {scope : Scope} {ρ ρc : Ctx0} {bn : List Str} (hW : Wk ρ ρc) (hB : cxB scope (relNames nm scope.names) (ρc.map (·.1)) bn = true) : ∀ n, (n, NameKind.free) ∈ scope.names → ∃ d, ρ.lookup n = some d := fun n h => by
  unfold cxB at hB
  simp only [Bool.and_eq_true] at hB
  have := List.all_eq_true.mp hB.1.2 _ h
  simp only [bne_self_eq_false, Bool.false_or, List.contains_iff_mem] at this
  obtain ⟨d, hd⟩ := names_lookup this
  exact ⟨d, hW.look n d hd⟩
theorem cx_n {nm : List (Str × NameKind)} {scope : Scope} {ρc bs : Ctx0} {bn : List Str} (hB : cxB scope (relNames nm scope.names) (ρc.map (·.1)) bn = true) (hb : bs.map (·.1) = bn) : ∀ x, (bs.lookup x).isSome = true → ρc.lookup x = none := fun x h => by
  unfold cxB at hB
  simp only [Bool.and_eq_true] at hB
  obtain ⟨d, hd⟩ := Option.isSome_iff_exists.mp h
  have := List.all_eq_true.mp hB.2 x (hb ▸ lookup_names hd)
  refine names_none fun q => ?_
  have q' : (ρc.map (·.1)).contains x = true := List.contains_iff_mem.mpr q
  rw [q'] at this
  cases this

theorem flatMap_filter {α : Type} (ds : List α) (p : α → Bool) (g : α → PyData) : (ds.flatMap fun d => if p d then [D.py (g d)] else []) = ((ds.filter p).map g).map D.py := by
  induction ds with
  | nil => rfl
  | cons a ds ih =>
    rw [List.flatMap_cons, ih, List.filter_cons]
    cases p a <;> rfl
theorem flatMap_len {α : Type} (ds : List α) (p : α → Bool) (g : α → D) : (ds.flatMap fun d => if p d then [g d] else []).length ≤ ds.length := by
  induction ds with
  | nil => exact Nat.le_refl _
  | cons a ds ih =>
    rw [List.flatMap_cons, List.length_append, List.length_cons]
    cases p a with
    | true => simp only [if_true, List.length_singleton]; omega
    | false => simp only [Bool.false_eq_true, if_false, List.length_nil]; omega

section
variable {Γ : Gl} {k : Nat} {nm : List (Str × NameKind)} {ρ : Ctx0}

/-- one for-part, data as results -/
theorem evp_lc1 {xs bn : List Str} {elt target iter : PySem.Expr} {ifs : List PySem.Expr} {scope : Scope} {pos : Pos} (ρc : Ctx0)
    {α : Type} {ds : List α} {enc : α → D} {bs : α → Ctx0} {p : α → Bool} {g : α → PyData}
    (hS : scopeOkB nm scope xs = true) (hW : Wk ρ ρc) (hB : cxB scope (relNames nm scope.names) (ρc.map (·.1)) bn = true) (hbn : ∀ d, (bs d).map (·.1) = bn)
    (hs0 : ∀ env x, foldedSetIterable iter env x = pure x)
    (hit : Itr Γ k nm ρ target iter (ds.map enc)) (hbs : ∀ d ∈ ds, As Γ k (relNames nm scope.names) xs target (enc d) (bs d))
    (htest : ∀ d ∈ ds, Ets Γ k (relNames nm scope.names) (bs d ++ ρc) ifs (p d)) (helt : ∀ d ∈ ds, p d = true → Ev Γ k (relNames nm scope.names) (bs d ++ ρc) elt (.py (g d)))
    (hsz : ds.length ≤ 1000000) :
    EvP Γ k nm ρ (.ListComp elt [⟨target, iter, ifs, 0⟩] scope pos) ((ds.filter p).map g) :=
  evp_lc (ScopeOk.of hS) (cx_c hW hB) (cx_f hW hB) hs0 (fun g h => by simp at h) hit hbs (fun d hd => cx_n hB (hbn d)) htest (fun d hd hp => bk_emit rfl (helt d hd hp)) (Nat.le_trans (flatMap_len ds p _) (small_line' hsz)) (flatMap_filter ds p g)
where small_line' {n : Nat} (h : n ≤ 1000000) : n ≤ sizeLine := by rw [sizeLine_eq]; omega

theorem evp_ev {e : PySem.Expr} {ds : List PyData} (h : EvP Γ k nm ρ e ds) : Ev Γ k nm ρ e (.py (.list ds)) := fun A env M s p Q hQ =>
  h A env M s p Q fun a ys h' tk k' hl na hi => hQ _ h' tk k' (is_list.mpr ⟨a, ys, rfl, let ⟨o, e, r⟩ := hl.isList; ⟨o, hd_get e na, r⟩, hi⟩)

theorem lc1_len {n : Nat} (h : n ≤ 1000000) : n ≤ sizeLine := by rw [sizeLine_eq]; omega
theorem cx_n2 {bs2 : Ctx0} {ρ1 : Ctx0} {ns bn2 : List Str} (h : (bn2.all fun x => !ns.contains x) = true) (hb : bs2.map (·.1) = bn2) (hr : ρ1.map (·.1) = ns) : ∀ x, (bs2.lookup x).isSome = true → ρ1.lookup x = none := fun x hx => by
  obtain ⟨d, hd⟩ := Option.isSome_iff_exists.mp hx
  have := List.all_eq_true.mp h x (hb ▸ lookup_names hd)
  refine names_none fun q => ?_
  have q' : ns.contains x = true := List.contains_iff_mem.mpr (hr ▸ q)
  rw [q'] at this
  cases this
theorem flatMap_two {α β : Type} (ds : List α) (es : α → List β) (p : α → β → Bool) (g : α → β → PyData) :
    (ds.flatMap fun d => if true = true then ((es d).flatMap fun e => if p d e then [D.py (g d e)] else []) else []) = (ds.flatMap fun d => ((es d).filter (p d)).map (g d)).map D.py := by
  induction ds with
  | nil => rfl
  | cons a ds ih =>
    rw [List.flatMap_cons, List.flatMap_cons, List.map_append, ← ih, ← flatMap_filter]
    rfl

/-- two for-parts, data as results -/
theorem evp_lc2 {xs bn bn2 : List Str} {elt target iter target2 iter2 : PySem.Expr} {ifs2 : List PySem.Expr} {scope : Scope} {pos : Pos} (ρc : Ctx0)
    {α β : Type} {ds : List α} {enc : α → D} {bs : α → Ctx0} {es : α → List β} {enc2 : β → D} {bs2 : β → Ctx0} {p : α → β → Bool} {g : α → β → PyData}
    (hS : scopeOkB nm scope xs = true) (hW : Wk ρ ρc) (hB : cxB scope (relNames nm scope.names) (ρc.map (·.1)) bn = true) (hbn : ∀ d, (bs d).map (·.1) = bn)
    (hbn2 : ∀ d, (bs2 d).map (·.1) = bn2) (hB2 : (bn2.all fun x => !(bn ++ ρc.map (·.1)).contains x) = true)
    (hs0 : ∀ env x, foldedSetIterable iter env x = pure x) (hs2 : ∀ env x, foldedSetIterable iter2 env x = pure x)
    (hit : Itr Γ k nm ρ target iter (ds.map enc)) (hbs : ∀ d ∈ ds, As Γ k (relNames nm scope.names) xs target (enc d) (bs d))
    (hit2 : ∀ d ∈ ds, Itr Γ k (relNames nm scope.names) (bs d ++ ρc) target2 iter2 ((es d).map enc2)) (hbs2 : ∀ d ∈ ds, ∀ e ∈ es d, As Γ k (relNames nm scope.names) xs target2 (enc2 e) (bs2 e))
    (htest : ∀ d ∈ ds, ∀ e ∈ es d, Ets Γ k (relNames nm scope.names) (bs2 e ++ (bs d ++ ρc)) ifs2 (p d e))
    (helt : ∀ d ∈ ds, ∀ e ∈ es d, p d e = true → Ev Γ k (relNames nm scope.names) (bs2 e ++ (bs d ++ ρc)) elt (.py (g d e)))
    (hsz : (ds.flatMap fun d => ((es d).filter (p d)).map (g d)).length ≤ 1000000) :
    EvP Γ k nm ρ (.ListComp elt [⟨target, iter, [], 0⟩, ⟨target2, iter2, ifs2, 0⟩] scope pos) (ds.flatMap fun d => ((es d).filter (p d)).map (g d)) :=
  evp_lc (p := fun _ => true) (f := fun d => (es d).flatMap fun e => if p d e then [D.py (g d e)] else []) (ScopeOk.of hS) (cx_c hW hB) (cx_f hW hB) hs0 (fun g h => by simp at h; subst h; exact ⟨rfl, hs2⟩) hit hbs (fun d hd => cx_n hB (hbn d)) (fun d hd => ets_nil)
    (fun d hd _ => bk_nest (f := fun e => [D.py (g d e)]) rfl (fun g h => by simp at h) (hit2 d hd) (hbs2 d hd) (fun e he => cx_n2 hB2 (hbn2 e) (by rw [List.map_append, hbn d])) (htest d hd) (fun e he hp => bk_emit rfl (helt d hd e he hp)))
    (by rw [flatMap_two]; rw [List.length_map]; exact lc1_len hsz) (flatMap_two ds es p g)

theorem blockKind_fn {env : Env} (en : EnvIs nm env) : env.blockKind = .function := by
  unfold Env.blockKind
  rw [en.kind]
  rfl
theorem swap_lc {t : Str} {tp p : Pos} {elt : PySem.Expr} {gs : List Comprehension} {scope : Scope} {line : Nat} {b : Bool}
    (hb : ((nm.lookup t == some .local) && (tp.line == p.line) && !(scope.names.any fun (n, k) => n == t && (k == .local || k == .cell))) = b) : ∀ env, EnvIs nm env → swapsWith (.ListComp elt gs scope p) (some (.Name t tp)) line env = pure b := fun env en => by
  show (pure (env.blockKind == .function && env.kindOf t == some .local && tp.line == p.line && !(scope.names.any fun (n, k) => n == t && (k == .local || k == .cell))) : Sem Bool) = pure b
  rw [blockKind_fn en, en.kindOf, ← hb]
  rfl
end
end Mine
namespace Mine
open PySem PySem.Calls PySem.Spec PyProof.Rows PySem.W

abbrev pairPy (p : Int × Int) : PyData := .tuple [.int p.1, .int p.2]
theorem lay_map {α : Type} {f : α → PyData} (h : ∀ a, (f a).canLay0 = true) : ∀ l : List α, PyData.canLayAll0 (l.map f) = true
  | [] => by simp [PyData.canLayAll0]
  | a :: l => by simp [PyData.canLayAll0, h a, lay_map h l]
theorem depth_map {α : Type} {f : α → PyData} {n : Nat} (h : ∀ a, (f a).depth ≤ n) : ∀ l : List α, PyData.depthAll (l.map f) ≤ n
  | [] => by simp [PyData.depthAll]
  | a :: l => by
    simp only [List.map_cons, PyData.depthAll]
    have := depth_map h l
    have := h a
    omega
theorem lay_int (i : Int) : (PyData.int i).canLay0 = true := by simp [PyData.canLay0]
theorem lay_pair (p : Int × Int) : (pairPy p).canLay0 = true := by simp [PyData.canLay0, PyData.canLayAll0]
theorem depth_int (i : Int) : (PyData.int i).depth ≤ 0 := by simp [PyData.depth]
theorem depth_pair (p : Int × Int) : (pairPy p).depth ≤ 1 := by simp [PyData.depth, PyData.depthAll]
theorem eqv_int (i j : Int) : PyData.eqv (.int i) (.int j) = decide (i = j) := by
  simp only [PyData.eqv]
  by_cases h : i = j
  · subst h; simp
  · simp [h]
theorem eqv_pair (p q : Int × Int) : PyData.eqv (pairPy p) (pairPy q) = decide (p = q) := by
  simp only [PyData.eqv, PyData.eqvAll, Bool.and_true]
  obtain ⟨a, b⟩ := p
  obtain ⟨c, d⟩ := q
  by_cases h : a = c <;> by_cases h2 : b = d <;> simp [h, h2]
theorem eqv_nil (xs : List PyData) : PyData.eqv (.list xs) (.list []) = xs.isEmpty := by
  cases xs <;> simp [PyData.eqv, PyData.eqvAll]
theorem eqvAll_map {α : Type} [DecidableEq α] {f : α → PyData} (h : ∀ a b, PyData.eqv (f a) (f b) = decide (a = b)) : ∀ l m : List α, PyData.eqvAll (l.map f) (m.map f) = decide (l = m)
  | [], [] => by simp [PyData.eqvAll]
  | [], b :: m => by simp [PyData.eqvAll]
  | a :: l, [] => by simp [PyData.eqvAll]
  | a :: l, b :: m => by
    simp only [List.map_cons, PyData.eqvAll, h a b, eqvAll_map h l m, List.cons.injEq, Bool.decide_and]
theorem any_map {α : Type} [DecidableEq α] {f : α → PyData} (h : ∀ a b, PyData.eqv (f a) (f b) = decide (a = b)) (l : List α) (q : α) : ((l.map f).any fun y => PyData.eqv y (f q)) = decide (q ∈ l) := by
  induction l with
  | nil => simp
  | cons a l ih =>
    simp only [List.map_cons, List.any_cons, ih, h a q, List.mem_cons, Bool.decide_or]
    congr 1
    exact decide_eq_decide.mpr eq_comm

theorem any_pairs (l : List (Int × Int)) (q : Int × Int) : ((l.map pairPy).any fun y => PyData.eqv y (pairPy q)) = decide (q ∈ l) := by
  rw [any_map eqv_pair]
  exact decide_eq_decide.mpr Iff.rfl

section
variable {Γ : Gl} {k : Nat}
theorem cm_in_pairs {q : Int × Int} {l : List (Int × Int)} : Cm Γ k .In (.py (pairPy q)) (.py (.list (l.map pairPy))) (decide (q ∈ l)) := by
  rw [← any_pairs]
  exact cm_in_list (lay_map lay_pair l) (lay_pair q) (Nat.le_trans (depth_pair q) (by decide))
theorem cm_notIn_pairs {q : Int × Int} {l : List (Int × Int)} : Cm Γ k .NotIn (.py (pairPy q)) (.py (.list (l.map pairPy))) (!decide (q ∈ l)) := by
  rw [← any_pairs]
  exact cm_notIn_list (lay_map lay_pair l) (lay_pair q) (Nat.le_trans (depth_pair q) (by decide))
theorem cm_in_pair {x : Int} {p : Int × Int} : Cm Γ k .In (I x) (.py (pairPy p)) (decide (x ∈ [p.1, p.2])) := by
  rw [← any_map eqv_int]
  exact cm_in_tuple (xs := [.int p.1, .int p.2]) (lay_map lay_int [p.1, p.2]) (lay_int x) (Nat.le_trans (depth_int x) (by decide))
theorem cm_notIn_pair {x : Int} {p : Int × Int} : Cm Γ k .NotIn (I x) (.py (pairPy p)) (!decide (x ∈ [p.1, p.2])) := by
  rw [← any_map eqv_int]
  exact cm_notIn_tuple (xs := [.int p.1, .int p.2]) (lay_map lay_int [p.1, p.2]) (lay_int x) (Nat.le_trans (depth_int x) (by decide))
theorem cm_ne_nil {α : Type} {f : α → PyData} {l : List α} (h1 : ∀ a, (f a).canLay0 = true) (h2 : ∀ a, (f a).depth ≤ 50) : Cm Γ k .NotEq (.py (.list (l.map f))) (.py (.list [])) (!l.isEmpty) := by
  have := cm_ne (Γ := Γ) (k := k) (d := .list (l.map f)) (e := .list []) (by simp only [PyData.canLay0]; exact lay_map h1 l) (by simp [PyData.canLay0, PyData.canLayAll0]) (by simp only [PyData.depth]; have := depth_map h2 l; omega)
  rw [eqv_nil] at this
  simpa using this
theorem cm_eq_ints {l m : List Int} : Cm Γ k .Eq (.py (.list (l.map PyData.int))) (.py (.list (m.map PyData.int))) (decide (l = m)) := by
  have := cm_eq (Γ := Γ) (k := k) (d := .list (l.map PyData.int)) (e := .list (m.map PyData.int)) (by simp only [PyData.canLay0]; exact lay_map lay_int l) (by simp only [PyData.canLay0]; exact lay_map lay_int m) (by simp only [PyData.depth]; have := depth_map depth_int l; omega)
  simp only [PyData.eqv] at this
  rwa [eqvAll_map eqv_int] at this
theorem cm_ne_bool {b c : Bool} : Cm Γ k .NotEq (Bo b) (Bo c) (b != c) := by
  have := cm_ne (Γ := Γ) (k := k) (d := .bool b) (e := .bool c) (by simp [PyData.canLay0]) (by simp [PyData.canLay0]) (by simp [PyData.depth])
  simp only [PyData.eqv] at this
  exact this
end
end Mine
namespace Mine
open PySem PySem.Calls PySem.Spec PyProof.Rows PySem.W

def bodyAt (p : Program) (i : Nat) : List Stmt := match p.main.body[i]? with
  | some (.FunctionDef _ _ b ..) => b
  | _ => []
def paramsAt (p : Program) (i : Nat) : Arguments := match p.main.body[i]? with
  | some (.FunctionDef _ a ..) => a
  | _ => ⟨[], [], none, [], [], none, []⟩
def scopeAt (p : Program) (i : Nat) : Scope := match p.main.body[i]? with
  | some (.FunctionDef _ _ _ _ _ _ s ..) => s
  | _ => { kind := .function, names := [], isGenerator := false, isCoroutine := false }
abbrev P01 : Program := PySem.Challenge.pw_id0003_01

section
variable {Γ : Gl} {k : Nat}
abbrev DefIn (Γ : Gl) (p : Program) (i : Nat) (name : Str) (a : Addr) : Prop := DefAt Γ a name (paramsAt p i) (bodyAt p i) (scopeAt p i)

def rowSum (r : Row) : Int := r.foldl (fun a kv => a + kv.2) 0
theorem rowSum_take {r : Row} {i : Nat} {kv : KeyT × Int} (h : r[i]? = some kv) : rowSum (r.take (i + 1)) = rowSum (r.take i) + kv.2 := by
  unfold rowSum
  rw [List.take_add_one, h, Option.toList_some, List.foldl_append]
  rfl

theorem fn_count {a : Addr} {r : Row} (ok : Γ.Ok) (d : DefIn Γ P01 2 "count_calls" a) : Fn Γ (k + 1) (.ref a) [.tdict r] (I (rowSum r)) := by
  refine fn_def (ps := ["callers"]) (xs := ["nc", "calls"]) ok d (by decide +kernel) rfl (fun pm cd doc vs hl => ?_) fun A env h₀ X M s f Q hQ => ?_
  · match vs, hl with
    | [v], _ => rfl
  · refine x_assign (x := "nc") f (ev_int (i := 0)) (by simp) (by simp [muName]) (fun _ _ => by rfl) fun h1 tk1 k1 f1 => ?_
    refine x_for (items := r) (enc := fun kv => I kv.2) (bs := fun kv => [("calls", I kv.2)]) (ρf := fun i => [("nc", I (rowSum (r.take i))), ("callers", .tdict r)]) (μf := fun _ => .none) f1
      (itr_values (ev_name rfl) (fun _ => rfl) rfl) (fun kv _ => as_name (by simp)) (fun _ _ _ _ h => nomatch h) (fun _ _ => rfl) (fun i kv hi M' s' f2 Q' hQ' => ?_) fun h3 tk3 k3 f3 => ?_
    · refine x_add f2 (x := "nc") (i := rowSum (r.take i)) (j := kv.2) rfl (ev_name rfl) (by simp) (by simp [muName]) (by decide +kernel) fun h4 tk4 k4 f4 => ?_
      exact wpAny_execs_nil (hQ' h4 tk4 k4 (f4.wk ⟨by rw [rowSum_take hi]; rfl, rfl, trivial⟩))
    · refine x_return f3 (ev_name (d := I (rowSum r)) (by simp)) fun v h5 tk5 k5 iv => hQ v h5 tk5 (f3.old.trans k5) iv

def rowCopy (r : Row) : Row := r.foldl (fun acc kv => rowPut acc kv.1 kv.2) []
def rowStep (acc : Row) (kv : KeyT × Int) : Row := if rowHas acc kv.1 then rowPut acc kv.1 (rowGet acc kv.1 + kv.2) else rowPut acc kv.1 kv.2
def rowAdd (r1 r2 : Row) : Row := r2.foldl rowStep (rowCopy r1)
theorem foldl_take {α β : Type} {g : β → α → β} {b : β} {l : List α} {i : Nat} {a : α} (h : l[i]? = some a) : (l.take (i + 1)).foldl g b = g ((l.take i).foldl g b) a := by
  rw [List.take_add_one, h, Option.toList_some, List.foldl_append]
  rfl
theorem foldl_len {α β : Type} {g : List β → α → List β} (hg : ∀ r a, (g r a).length ≤ r.length + 1) : ∀ (l : List α) (b : List β), (l.foldl g b).length ≤ b.length + l.length
  | [], b => Nat.le_refl _
  | a :: l, b => by
    have h1 := foldl_len hg l (g b a)
    have h2 := hg b a
    simp only [List.foldl_cons, List.length_cons]
    omega
theorem rowCopy_len (r : Row) : (rowCopy r).length ≤ r.length := by
  have := foldl_len (g := fun (acc : Row) (kv : KeyT × Int) => rowPut acc kv.1 kv.2) (fun r a => rowPut_length r a.1 a.2) r []
  simpa [rowCopy] using this
theorem rowStep_len (r : Row) (a : KeyT × Int) : (rowStep r a).length ≤ r.length + 1 := by
  unfold rowStep
  split <;> exact rowPut_length _ _ _
theorem small_line {n : Nat} (h : n ≤ 1000000) : n ≤ sizeLine := by rw [sizeLine_eq]; omega

theorem fn_add {a : Addr} {r1 r2 : Row} (ok : Γ.Ok) (g1 : Glo Γ "isinstance" (.builtin "isinstance")) (g2 : Glo Γ "tuple" (.type "tuple")) (hs : r1.length + r2.length ≤ 1000000) (d : DefIn Γ P01 1 "add_callers" a) : Fn Γ (k + 1) (.ref a) [.tdict r1, .tdict r2] (.tdict (rowAdd r1 r2)) := by
  refine fn_def (ps := ["target", "source"]) (xs := ["new_callers", "func", "caller"]) ok d (by decide +kernel) rfl (fun pm cd doc vs hl => ?_) fun A env h₀ X M s f Q hQ => ?_
  · match vs, hl with
    | [v, w], _ => rfl
  · refine x_new_dict (x := "new_callers") f (ok.big f.pre.base) (by simp) (by rfl) fun D0 h1 tk1 nD f1 => ?_
    refine x_for (items := r1) (enc := pairD) (bs := fun kv => [("caller", I kv.2), ("func", .py (keyPy kv.1))]) (ρf := fun i => [("target", .tdict r1), ("source", .tdict r2)]) (μf := fun i => .dict "new_callers" (rowCopy (r1.take i))) f1
      (itr_items (ev_name rfl) (fun _ => rfl) rfl) (fun kv _ => as_pair (by simp) (by simp)) (fun kv _ i x hx => by cases hx; rfl) (fun _ _ => rfl) (fun i kv hi M' s' f2 Q' hQ' => ?_) fun h3 tk3 k3 f3 => ?_
    · refine x_dset f2 (y := "func") (z := "caller") (K := kv.1) (i := kv.2) rfl rfl (small_line ?_) (by decide +kernel) (by decide +kernel) (by decide +kernel) (by decide +kernel) (by decide +kernel) (by decide +kernel) fun h4 tk4 k4 f4 => ?_
      · have h1 := rowCopy_len (r1.take i)
        have h2 : (r1.take i).length ≤ r1.length := by rw [List.length_take]; exact Nat.min_le_right _ _
        omega
      · refine wpAny_execs_nil (hQ' h4 tk4 k4 ?_)
        have e : rowCopy (r1.take (i + 1)) = rowPut (rowCopy (r1.take i)) kv.1 kv.2 := foldl_take hi
        rw [e]
        exact f4.wk ⟨rfl, rfl, trivial⟩
    · rw [List.take_length] at f3
      refine x_for (items := r2) (enc := pairD) (bs := fun kv => [("caller", I kv.2), ("func", .py (keyPy kv.1))]) (ρf := fun i => [("target", .tdict r1), ("source", .tdict r2)]) (μf := fun i => .dict "new_callers" ((r2.take i).foldl rowStep (rowCopy r1))) f3
        (itr_items (ev_name rfl) (fun _ => rfl) rfl) (fun kv _ => as_pair (by simp) (by simp)) (fun kv _ i x hx => by cases hx; rfl) (fun _ _ => rfl) (fun i kv hi M' s' f2 Q' hQ' => ?_) fun h4 tk4 k4 f4 => ?_
      · have e : (r2.take (i + 1)).foldl rowStep (rowCopy r1) = rowStep ((r2.take i).foldl rowStep (rowCopy r1)) kv := foldl_take hi
        have hlen : ((r2.take i).foldl rowStep (rowCopy r1)).length ≤ 1000000 := by
          have h1 := foldl_len rowStep_len (r2.take i) (rowCopy r1)
          have h2 := rowCopy_len r1
          have h3 : (r2.take i).length ≤ r2.length := by rw [List.length_take]; exact Nat.min_le_right _ _
          omega
        simp only [e] at hQ'
        generalize (r2.take i).foldl rowStep (rowCopy r1) = acc at *
        refine x_if_at (b := rowHas acc kv.1) f2 f2.peek_dict (et_cmp (ev_name (x := "func") (d := .py (keyPy kv.1)) rfl) (ev_name (x := "new_callers") (d := .tdict acc) rfl) cm_in_tdict) (fun hb h5 tk5 k5 f5 => ?_) fun hb h5 tk5 k5 f5 => ?_
        · refine x_if f5 (et_of_ev (ev_int_no_tuple ok g1 g2 (ev_name (x := "caller") (d := I kv.2) rfl))) (fun e => nomatch e) fun _ h6 tk6 k6 f6 => ?_
          refine x_daug f6 (y := "func") (z := "caller") (K := kv.1) (i := kv.2) rfl rfl (small_line hlen) hb (by decide +kernel) (by decide +kernel) (by decide +kernel) (by decide +kernel) (by decide +kernel) (by decide +kernel) fun h7 tk7 k7 f7 => ?_
          have e2 : rowStep acc kv = rowPut acc kv.1 (rowGet acc kv.1 + kv.2) := by unfold rowStep; rw [if_pos hb]
          rw [← e2] at f7
          exact wpAny_execs_nil (wpAny_execs_nil (wpAny_execs_nil (hQ' h7 tk7 (((k5.trans k6).kpx).trans k7) (f7.wk ⟨rfl, rfl, trivial⟩))))
        · refine x_dset f5 (y := "func") (z := "caller") (K := kv.1) (i := kv.2) rfl rfl (small_line hlen) (by decide +kernel) (by decide +kernel) (by decide +kernel) (by decide +kernel) (by decide +kernel) (by decide +kernel) fun h7 tk7 k7 f7 => ?_
          have e2 : rowStep acc kv = rowPut acc kv.1 kv.2 := by unfold rowStep; rw [hb]; rfl
          rw [← e2] at f7
          exact wpAny_execs_nil (wpAny_execs_nil (hQ' h7 tk7 (k5.kpx.trans k7) (f7.wk ⟨rfl, rfl, trivial⟩)))
      · rw [List.take_length] at f4
        exact x_return_dict f4 nD (by decide +kernel) (by decide +kernel) fun v h5 tk5 k5 iv => hQ v h5 tk5 (f4.old.trans k5) iv
end
end Mine
namespace Mine
open PySem PySem.Calls PySem.Spec PyProof.Rows PySem.W

/-- the built-in names -/
structure BG (Γ : Gl) : Prop where
  len : Glo Γ "len" (.builtin "len")
  range : Glo Γ "range" (.type "range")
  dict : Glo Γ "dict" (.type "dict")
  tuple : Glo Γ "tuple" (.type "tuple")
  sorted : Glo Γ "sorted" (.builtin "sorted")
  sum : Glo Γ "sum" (.builtin "sum")
  max : Glo Γ "max" (.builtin "max")
  abs : Glo Γ "abs" (.builtin "abs")
  enumerate : Glo Γ "enumerate" (.type "enumerate")
  isinstance : Glo Γ "isinstance" (.builtin "isinstance")

theorem mem_upFrom {a : Int} {n : Nat} {x : Int} (h : x ∈ upFrom a n) : a ≤ x ∧ x < a + n := by
  unfold upFrom at h
  obtain ⟨i, hi, rfl⟩ := List.mem_map.mp h
  have := List.mem_range.mp hi
  omega

section
variable {Γ : Gl} {k : Nat} {nm : List (Str × NameKind)} {ρ : Ctx0}

theorem cm_eq_nil' {xs : List PyData} (h1 : PyData.canLayAll0 xs = true) (h2 : PyData.depthAll xs ≤ 50) : Cm Γ k .Eq (.py (.list xs)) (.py (.list [])) xs.isEmpty := by
  have := cm_eq (Γ := Γ) (k := k) (d := .list xs) (e := .list []) (by simpa only [PyData.canLay0] using h1) (by simp [PyData.canLay0, PyData.canLayAll0]) (by simp only [PyData.depth]; omega)
  rwa [eqv_nil] at this
theorem ev_nil {pos : Pos} : Ev Γ k nm ρ (.List [] pos) (.py (.list [])) := ev_list (ps := []) evs_nil rfl (Nat.zero_le _)

/-- a call of a built-in on one argument -/
theorem ev_b1 {x : Str} {ppos pos : Pos} {id : String} {e : PySem.Expr} {d r : D} (ok : Γ.Ok) (g : Glo Γ x (.builtin id)) (h : Ev Γ k nm ρ e d) (hf : Fn Γ k (.builtin id) [d] r)
    (hk : nm.lookup x = some .globalImplicit := by rfl) (hd : (x == ("__debug__" : Str)) = false := by decide +kernel)
    (he : ∀ env, starEach [e] env = (false, eval e env) :: starEach [] env := by intro _; rfl) : Ev Γ k nm ρ (.Call (.Name x ppos) [e] [] pos) r :=
  ev_call ok g (evs_cons h evs_nil he) hf hk hd he (fun _ => rfl) (.inl ⟨_, rfl⟩)
/-- a call of a type on one argument -/
theorem ev_t1 {x : Str} {ppos pos : Pos} {id : String} {e : PySem.Expr} {d r : D} (ok : Γ.Ok) (g : Glo Γ x (.type id)) (h : Ev Γ k nm ρ e d) (hf : Fn Γ k (.type id) [d] r)
    (hk : nm.lookup x = some .globalImplicit := by rfl) (hd : (x == ("__debug__" : Str)) = false := by decide +kernel)
    (he : ∀ env, starEach [e] env = (false, eval e env) :: starEach [] env := by intro _; rfl) : Ev Γ k nm ρ (.Call (.Name x ppos) [e] [] pos) r :=
  ev_call ok g (evs_cons h evs_nil he) hf hk hd he (fun _ => rfl) (.inr (.inl ⟨_, rfl⟩))
theorem ev_len {ppos pos : Pos} {e : PySem.Expr} {ds : List PyData} (ok : Γ.Ok) (b : BG Γ) (h : Ev Γ k nm ρ e (.py (.list ds))) (hs : ds.length ≤ 1000000)
    (hk : nm.lookup ("len" : Str) = some .globalImplicit := by rfl) (he : ∀ env, starEach [e] env = (false, eval e env) :: starEach [] env := by intro _; rfl) : Ev Γ k nm ρ (.Call (.Name "len" ppos) [e] [] pos) (I ds.length) :=
  ev_b1 ok b.len h (fn_len_py hs) hk (by decide +kernel) he

theorem small_nat {n : Nat} (h : n ≤ 1000000) : smallInt (n : Int) := ⟨by omega, by omega⟩
theorem small_of {i : Int} (h1 : -1000000 ≤ i) (h2 : i ≤ 1000000) : smallInt i := ⟨by omega, by omega⟩
theorem flatMap_le {α β : Type} {m : Nat} (l : List α) (f : α → List β) (h : ∀ a ∈ l, (f a).length ≤ m) : (l.flatMap f).length ≤ l.length * m := by
  induction l with
  | nil => simp
  | cons a l ih =>
    rw [List.flatMap_cons, List.length_append, List.length_cons, Nat.add_mul, Nat.one_mul]
    have h1 := h a (.head _)
    have h2 := ih fun b hb => h b (.tail _ hb)
    omega
theorem ev_lenM {α : Type} {l : List α} {g : α → PyData} {ppos pos : Pos} {e : PySem.Expr} (ok : Γ.Ok) (b : BG Γ) (h : Ev Γ k nm ρ e (.py (.list (l.map g)))) (hs : l.length ≤ 1000000)
    (hk : nm.lookup ("len" : Str) = some .globalImplicit := by rfl) (he : ∀ env, starEach [e] env = (false, eval e env) :: starEach [] env := by intro _; rfl) : Ev Γ k nm ρ (.Call (.Name "len" ppos) [e] [] pos) (I l.length) :=
  ev_eq (ev_len ok b h (by rw [List.length_map]; exact hs) hk he) (by rw [List.length_map])
theorem itr_rangeN {x : Str} {pos ppos cpos : Pos} {e : PySem.Expr} {n : Nat} (ok : Γ.Ok) (g : Glo Γ "range" (.type "range")) (h : Ev Γ k nm ρ e (I (n : Int))) (hn : n ≤ 1000000)
    (hk : nm.lookup ("range" : Str) = some .globalImplicit := by rfl) (he : ∀ env, starEach [e] env = [(false, eval e env)] := by intro _; rfl) :
    Itr Γ k nm ρ (.Name x pos) (.Call (.Name "range" ppos) [e] [] cpos) ((upFrom 0 n).map I) := itr_range ok g h (small_nat hn) hk he
abbrev atP (lot : List (Int × Int)) (i : Int) : Int × Int := lot.getD i.toNat (0, 0)
theorem at_map {lot : List (Int × Int)} {i : Int} (h0 : 0 ≤ i) (h1 : i < lot.length) : (lot.map pairPy)[i.toNat]? = some (pairPy (atP lot i)) := by
  have hl : i.toNat < lot.length := by omega
  rw [List.getElem?_map, List.getElem?_eq_getElem hl]
  simp [atP, List.getD_eq_getElem?_getD, List.getElem?_eq_getElem hl]
/-- lot[j] -/
theorem ev_at {x y : Str} {xp yp sp : Pos} {lot : List (Int × Int)} {i : Int} (hx : ρ.lookup x = some (.py (.list (lot.map pairPy)))) (hy : ρ.lookup y = some (I i)) (h0 : 0 ≤ i) (h1 : i < lot.length) (hs : lot.length ≤ 1000)
    (nx : (x == ("__classdict__" : Str)) = false := by decide +kernel) (dx : (x == ("__debug__" : Str)) = false := by decide +kernel) (ny : (y == ("__classdict__" : Str)) = false := by decide +kernel) (dy : (y == ("__debug__" : Str)) = false := by decide +kernel) :
    Ev Γ k nm ρ (.Subscript (.Name x xp) (.Name y yp) sp) (.py (pairPy (atP lot i))) :=
  ev_sub (ev_name hx nx dx) (ev_name hy ny dy) (su_list h0 (at_map h0 h1) (by omega))
theorem su_fst {p : Int × Int} : Su Γ k (.py (pairPy p)) (I 0) (I p.1) := su_tuple_nat (i := 0) rfl (by simp)
theorem su_snd {p : Int × Int} : Su Γ k (.py (pairPy p)) (I 1) (I p.2) := su_tuple_nat (i := 1) rfl (by simp)

def apart (p q : Int × Int) : Bool := !decide (p.1 ∈ [q.1, q.2]) && (!decide (p.2 ∈ [q.1, q.2]) && true)
def meetsL (lot : List (Int × Int)) : List Int := (upFrom 0 lot.length).flatMap fun j => (upFrom 0 j.toNat).filter fun i => apart (atP lot j) (atP lot i)
def meetsF (lot : List (Int × Int)) : Bool := (meetsL lot).isEmpty

theorem fn_meets {a : Addr} {lot : List (Int × Int)} (ok : Γ.Ok) (b : BG Γ) (hs : lot.length ≤ 100) (d : DefIn Γ P01 7 "_law_meets" a) : Fn Γ (k + 1) (.ref a) [.py (.list (lot.map pairPy))] (Bo (meetsF lot)) := by
  refine fn_def (ps := ["lot"]) (xs := []) ok d (by decide +kernel) rfl (fun pm cd doc vs hl => ?_) fun A env h₀ X M s f Q hQ => ?_
  · match vs, hl with
    | [v], _ => rfl
  · have e1 : ((upFrom 0 lot.length).flatMap fun j => ((upFrom 0 j.toNat).filter fun i => apart (atP lot j) (atP lot i)).map fun _ => PyData.int 1) = (meetsL lot).map fun _ => PyData.int 1 := by
      unfold meetsL; rw [List.map_flatMap]
    have e2 : meetsF lot = ((meetsL lot).map fun _ => PyData.int 1).isEmpty := by unfold meetsF; rw [List.isEmpty_map]
    refine x_return (d := Bo (meetsF lot)) f (ev_eq (ev_cmp (evp_ev (evp_lc2 (ρc := [("lot", .py (.list (lot.map pairPy)))]) (xs := ["j", "k"]) (bn := ["j"]) (bn2 := ["k"]) (ds := upFrom 0 lot.length) (enc := I) (bs := fun j => [("j", I j)])
      (es := fun j => upFrom 0 j.toNat) (enc2 := I) (bs2 := fun i => [("k", I i)]) (p := fun j i => apart (atP lot j) (atP lot i)) (g := fun _ _ => .int 1)
      (by rfl) ⟨rfl, trivial⟩ (by rfl) (fun _ => rfl) (fun _ => rfl) (by rfl) (fun _ _ => rfl) (fun _ _ => rfl)
      ?_ (fun j _ => as_name (by simp)) (fun j hj => ?_) (fun j hj i hi => as_name (by simp)) (fun j hj i hi => ?_) (fun j hj i hi hp => ev_int) ?_)) ev_nil (cm_eq_nil' ?_ ?_)) ?_) fun v h' tk k' iv => hQ v h' tk (f.old.trans k') iv
    · exact itr_rangeN ok b.range (ev_lenM ok b (ev_name rfl) (by omega)) (by omega)
    · have hb := mem_upFrom hj
      exact itr_range ok b.range (ev_name rfl) (small_of (by omega) (by omega))
    · have hb := mem_upFrom hj
      have hc := mem_upFrom hi
      refine ets_one (et_boolop (ea_and (et_cmp (ev_sub (ev_at (lot := lot) (i := j) rfl rfl (by omega) (by omega) (by omega)) (ev_int (i := 0)) su_fst) (ev_at (lot := lot) (i := i) rfl rfl (by omega) (by omega) (by omega)) cm_notIn_pair)
        fun _ => ea_and (et_cmp (ev_sub (ev_at (lot := lot) (i := j) rfl rfl (by omega) (by omega) (by omega)) (ev_int (i := 1)) su_snd) (ev_at (lot := lot) (i := i) rfl rfl (by omega) (by omega) (by omega)) cm_notIn_pair) fun _ => ea_and_nil))
    · rw [e1, List.length_map]
      unfold meetsL
      refine Nat.le_trans (flatMap_le (m := 100) _ _ fun j hj => ?_) (by rw [upFrom_length]; omega)
      have hb := mem_upFrom hj
      refine Nat.le_trans (List.length_filter_le ..) ?_
      rw [upFrom_length]
      omega
    · rw [e1]; exact lay_map (fun _ => lay_int 1) _
    · rw [e1]; exact Nat.le_trans (depth_map (fun _ => depth_int 1) _) (by decide)
    · rw [e1, e2]
end
end Mine
namespace Mine
open PySem PySem.Calls PySem.Spec PyProof.Rows PySem.W

theorem flatMap_take {α β : Type} {F : α → List β} {l : List α} {i : Nat} {a : α} (h : l[i]? = some a) : (l.take (i + 1)).flatMap F = (l.take i).flatMap F ++ F a := by
  rw [List.take_add_one, h, Option.toList_some, List.flatMap_append]
  simp
theorem flatMap_take_le {α β : Type} {F : α → List β} (l : List α) (i : Nat) : ((l.take i).flatMap F).length ≤ (l.flatMap F).length := by
  have h := List.take_append_drop i l
  have e : (l.flatMap F).length = ((l.take i).flatMap F).length + ((l.drop i).flatMap F).length := by
    rw [← List.length_append, ← List.flatMap_append, h]
  omega

section
variable {Γ : Gl} {k : Nat} {nm : List (Str × NameKind)} {ρ : Ctx0} {xs : List Str} {A : Around} {env : Env} {h₀ : Heap} {X : List Addr} {F : Addr} {M : List Addr} {μ : Mu} {s : Shared} {rest : List Stmt} {Q : Flow → Shared → Prop} {pos : Pos}

/-- a for loop that appends to a list under change -/
theorem x_for_app {α : Type} {items : List α} {enc : α → D} {bs : α → Ctx0} {y : Str} {pre : List PyData} {G : α → List PyData} {target iter : PySem.Expr} {body : List Stmt}
    (f : FS Γ k nm xs A env h₀ X F M ρ (.list y (pre.map D.py)) s) (hit : Itr Γ k nm ρ target iter (items.map enc)) (hbs : ∀ a ∈ items, As Γ k nm xs target (enc a) (bs a)) (hm : ∀ a ∈ items, (bs a).lookup y = none)
    (hs0 : ∀ env x, foldedSetIterable iter env x = pure x)
    (hbody : ∀ a ∈ items, ∀ M' s' pre', pre'.length ≤ pre.length + (items.flatMap G).length → FS Γ k nm xs A env h₀ X F M' (bs a ++ ρ) (.list y (pre'.map D.py)) s' → ∀ Q' : Flow → Shared → Prop,
      (∀ h' tk, KpX (F :: X) s'.heap h' → FS Γ k nm xs A env h₀ X F M' ρ (.list y ((pre' ++ G a).map D.py)) { s' with heap := h', toks := tk } → Q' .next { s' with heap := h', toks := tk }) → wpAny (model Γ.prog Γ.w) A (execs body env) Q' E0 s')
    (h : ∀ h' tk, KpX (F :: X) s.heap h' → FS Γ k nm xs A env h₀ X F M ρ (.list y ((pre ++ items.flatMap G).map D.py)) { s with heap := h', toks := tk } → wpAny (model Γ.prog Γ.w) A (execs rest env) Q E0 { s with heap := h', toks := tk }) :
    wpAny (model Γ.prog Γ.w) A (execs (.For target iter body [] pos :: rest) env) Q E0 s := by
  refine x_for (items := items) (enc := enc) (bs := bs) (ρf := fun _ => ρ) (μf := fun i => .list y ((pre ++ (items.take i).flatMap G).map D.py)) (by simpa using f) hit hbs (fun a ha i x hx => by cases hx; exact hm a ha) hs0 (fun i a hi M' s' f2 Q' hQ' => ?_) fun h' tk kp f3 => ?_
  · refine hbody a (List.mem_of_getElem? hi) M' s' _ ?_ f2 Q' fun h' tk kp f3 => hQ' h' tk kp ?_
    · rw [List.length_append]
      have := flatMap_take_le (F := G) items i
      omega
    · rw [flatMap_take hi, ← List.append_assoc]
      exact f3
  · rw [List.take_length] at f3
    exact h h' tk kp f3
end

section
variable {Γ : Gl} {k : Nat} {nm : List (Str × NameKind)} {ρ : Ctx0}
theorem itr_one_five {x : Str} {pos ppos cpos p1 p2 : Pos} {k1 k2 : Nat} (ok : Γ.Ok) (g : Glo Γ "range" (.type "range")) (hk : nm.lookup ("range" : Str) = some .globalImplicit := by rfl) :
    Itr Γ k nm ρ (.Name x pos) (.Call (.Name "range" ppos) [.Constant (.int 1) k1 p1, .Constant (.int 5) k2 p2] [] cpos) ((upFrom 1 4).map I) :=
  itr_range2 (a := 1) (b := 5) ok g ev_int ev_int ⟨by decide, by decide⟩ ⟨by decide, by decide⟩ hk

end
end Mine
namespace Mine
open PySem PySem.Calls PySem.Spec PyProof.Rows PySem.W

def four : List Int := upFrom 1 4
def iFold (ps : List (Int × Int)) : List (Int × Int) := ps.foldl (fun r p => iPut r p.1 p.2) []
abbrev ringPy (q : List Int) : PyData := .tuple (q.map PyData.int)
def roundOk (a b c d : Int) : Bool := (((iFold ([a, b, c, d].map fun t => (t, (1 : Int)))).length : Int) == 4) && (decide (a < d) && true)
def roundD (a b c d : Int) : List (List Int) := if roundOk a b c d then [[0, a, b, c, d]] else []
def roundsL : List (List Int) := four.flatMap fun a => four.flatMap fun b => four.flatMap fun c => four.flatMap fun d => roundD a b c d

theorem iFold_len (ps : List (Int × Int)) (h : ps.length ≤ 1000000) : (iFold ps).length ≤ 1000000 := by
  have : (iFold ps).length ≤ ps.length := by
    have := foldl_len (g := fun (r : List (Int × Int)) (p : Int × Int) => iPut r p.1 p.2) (fun r a => iPut_length r a.1 a.2) ps []
    simpa [iFold] using this
  omega
theorem evp_eq {Γ : Gl} {k : Nat} {nm : List (Str × NameKind)} {ρ : Ctx0} {e : PySem.Expr} {ds es : List PyData} (h : EvP Γ k nm ρ e ds) (q : ds = es) : EvP Γ k nm ρ e es := q ▸ h
section
variable {Γ : Gl} {k : Nat} {nm : List (Str × NameKind)} {ρ : Ctx0} {xs : List Str} {A : Around} {env : Env} {h₀ : Heap} {X : List Addr} {F : Addr} {M : List Addr} {μ : Mu} {s : Shared} {rest : List Stmt} {Q : Flow → Shared → Prop} {pos : Pos}
theorem fs_inter (f : FS Γ k nm xs A env h₀ X F M ρ μ s) : interactive env = false := by
  unfold interactive
  rw [f.pre.en.kind]
  rfl

theorem fn_rounds {a : Addr} (ok : Γ.Ok) (b : BG Γ) (d : DefIn Γ P01 9 "_law_rounds" a) : Fn Γ (k + 1) (.ref a) [] (.py (.list (roundsL.map ringPy))) := by
  refine fn_def (ps := []) (xs := ["found", "a", "b", "c", "d"]) ok d (by decide +kernel) rfl (fun pm cd doc vs hl => ?_) fun A env h₀ X M s f Q hQ => ?_
  · match vs, hl with
    | [], _ => rfl
  · have inter := fs_inter f
    have le4 : ∀ {β : Type} (G : Int → List β) (m : Nat), (∀ a ∈ four, (G a).length ≤ m) → (four.flatMap G).length ≤ 4 * m := fun G m h => flatMap_le four G h
    refine x_new_list (x := "found") f (by simp) (by rfl) fun D0 h1 tk1 nD f1 => ?_
    refine x_for_app (items := four) (enc := I) (bs := fun a => [("a", I a)]) (pre := []) (G := fun a => four.flatMap fun b => four.flatMap fun c => four.flatMap fun d => (roundD a b c d).map ringPy) f1 (itr_one_five ok b.range) (fun a _ => as_name (by simp)) (fun _ _ => by rfl) (fun _ _ => rfl)
      (fun a ha M1 s1 pre1 l1 f1 Q1 hQ1 => ?_) fun h2 tk2 k2 f2 => ?_
    · refine x_for_app (items := four) (enc := I) (bs := fun b => [("b", I b)]) (pre := pre1) (G := fun b => four.flatMap fun c => four.flatMap fun d => (roundD a b c d).map ringPy) f1 (itr_one_five ok b.range) (fun a _ => as_name (by simp)) (fun _ _ => by rfl) (fun _ _ => rfl)
        (fun b' hb M2 s2 pre2 l2 f2 Q2 hQ2 => ?_) fun h3 tk3 k3 f3 => wpAny_execs_nil (hQ1 h3 tk3 k3 (f3.wk trivial))
      refine x_for_app (items := four) (enc := I) (bs := fun c => [("c", I c)]) (pre := pre2) (G := fun c => four.flatMap fun d => (roundD a b' c d).map ringPy) f2 (itr_one_five ok b.range) (fun a _ => as_name (by simp)) (fun _ _ => by rfl) (fun _ _ => rfl)
        (fun c hc M3 s3 pre3 l3 f3 Q3 hQ3 => ?_) fun h3 tk3 k3 f3 => wpAny_execs_nil (hQ2 h3 tk3 k3 (f3.wk ⟨rfl, trivial⟩))
      refine x_for_app (items := four) (enc := I) (bs := fun d => [("d", I d)]) (pre := pre3) (G := fun d => (roundD a b' c d).map ringPy) f3 (itr_one_five ok b.range) (fun a _ => as_name (by simp)) (fun _ _ => by rfl) (fun _ _ => rfl)
        (fun d hd M4 s4 pre4 l4 f4 Q4 hQ4 => ?_) fun h3 tk3 k3 f3 => wpAny_execs_nil (hQ3 h3 tk3 k3 (f3.wk ⟨rfl, rfl, trivial⟩))
      have hlen : pre4.length ≤ 1000 := by
        have e4 := upFrom_length 1 4
        have b4 : ∀ d ∈ four, ((roundD a b' c d).map ringPy).length ≤ 1 := fun d _ => by unfold roundD; rw [List.length_map]; split <;> simp
        have b3 : ∀ c ∈ four, (four.flatMap fun d => (roundD a b' c d).map ringPy).length ≤ 4 * 1 := fun c _ => le4 _ 1 fun d _ => by unfold roundD; rw [List.length_map]; split <;> simp
        have b2 : ∀ b' ∈ four, (four.flatMap fun c => four.flatMap fun d => (roundD a b' c d).map ringPy).length ≤ 4 * (4 * 1) := fun b' _ => le4 _ _ fun c _ => le4 _ 1 fun d _ => by unfold roundD; rw [List.length_map]; split <;> simp
        have b1 : ∀ a ∈ four, (four.flatMap fun b' => four.flatMap fun c => four.flatMap fun d => (roundD a b' c d).map ringPy).length ≤ 4 * (4 * (4 * 1)) := fun a _ => le4 _ _ fun b' _ => le4 _ _ fun c _ => le4 _ 1 fun d _ => by unfold roundD; rw [List.length_map]; split <;> simp
        have c4 := le4 _ 1 b4
        have c3 := le4 _ _ b3
        have c2 := le4 _ _ b2
        have c1 := le4 _ _ b1
        simp only [List.length_nil] at l1
        omega
      refine x_if (b := roundOk a b' c d) f4 (et_boolop (ea_and (et_cmp (d := I ((iFold ([a, b', c, d].map fun t => (t, (1 : Int)))).length : Int)) (ev_b1 ok b.len (ev_dict (intDK Γ) (ps := [a, b', c, d].map fun t => (t, (1 : Int))) ok b.dict (evp_eq (evp_lc1 (ρc := []) (xs := ["thing"]) (bn := ["thing"]) (ds := [a, b', c, d]) (enc := I) (bs := fun t => [("thing", I t)]) (p := fun _ => true) (g := fun t => .tuple [.int t, .int 1])
        (by rfl) trivial (by rfl) (fun _ => rfl) (fun _ _ => rfl) (itr_list (ev_list (ps := [.int a, .int b', .int c, .int d]) (evs_cons (ev_name rfl) (evs_cons (ev_name rfl) (evs_cons (ev_name rfl) (evs_cons (ev_name rfl) evs_nil)))) rfl (Nat.le_of_ble_eq_true rfl)) items_py (.inl ⟨_, _, rfl⟩)) (fun _ _ => as_name (by simp)) (fun _ _ => ets_nil)
        (fun t _ _ => ev_tuple (ps := [.int t, .int 1]) (evs_cons (ev_name rfl) (evs_cons ev_int evs_nil)) rfl (Nat.le_of_ble_eq_true rfl)) (by simp)) rfl) (by simp; exact lc1_len (by decide))) (fn_len_idict (r := iFold ([a, b', c, d].map fun t => (t, (1 : Int)))) (iFold_len _ (by simp)))) (ev_int (i := 4)) cm_eq_int) fun _ => ea_and (et_cmp (ev_name (d := I a) rfl) (ev_name (d := I d) rfl) cm_lt) fun _ => ea_and_nil)) (fun hb h5 tk5 k5 f5 => ?_) fun hb h5 tk5 k5 f5 => ?_
      · refine x_append f5 (ev_tuple (ps := [.int 0, .int a, .int b', .int c, .int d]) (evs_cons ev_int (evs_cons (ev_name rfl) (evs_cons (ev_name rfl) (evs_cons (ev_name rfl) (evs_cons (ev_name rfl) evs_nil))))) rfl (Nat.le_of_ble_eq_true rfl)) (by rw [List.length_map, sizeLine_eq]; omega) (by decide +kernel) (by decide +kernel) (fun _ => rfl) inter rfl (fun _ => rfl) (fun _ => rfl) fun h6 tk6 k6 f6 => ?_
        have e : roundD a b' c d = [[0, a, b', c, d]] := by unfold roundD; rw [hb]; rfl
        have f7 := f6.wk (ρ' := [("c", I c), ("b", I b'), ("a", I a)]) ⟨rfl, rfl, rfl, trivial⟩
        refine wpAny_execs_nil (wpAny_execs_nil (hQ4 h6 tk6 (k5.kpx.trans k6) ?_))
        rw [e, List.map_append]
        exact f7
      · have e : roundD a b' c d = [] := by unfold roundD; rw [hb]; rfl
        have f7 := f5.wk (ρ' := [("c", I c), ("b", I b'), ("a", I a)]) ⟨rfl, rfl, rfl, trivial⟩
        refine wpAny_execs_nil (wpAny_execs_nil (hQ4 h5 tk5 k5.kpx ?_))
        rw [e, List.map_nil, List.append_nil]
        exact f7
    · have e : (four.flatMap fun a => four.flatMap fun b => four.flatMap fun c => four.flatMap fun d => (roundD a b c d).map ringPy) = roundsL.map ringPy := by
        unfold roundsL
        simp only [List.map_flatMap]
      rw [List.nil_append, e] at f2
      exact x_return_py f2 nD (by decide +kernel) (by decide +kernel) fun v h5 tk5 k5 iv => hQ v h5 tk5 (f2.old.trans k5) iv
end
end Mine
namespace Mine
open PySem PySem.Calls PySem.Spec PyProof.Rows PySem.W

def sortP (p : Int × Int) : Int × Int := if p.1 ≤ p.2 then p else (p.2, p.1)
theorem sortP_perm (p : Int × Int) : [(sortP p).1, (sortP p).2].Perm [p.1, p.2] := by
  unfold sortP
  split
  · exact .refl _
  · exact .swap ..
theorem sortP_le (p : Int × Int) : [(sortP p).1, (sortP p).2].Pairwise (· ≤ ·) := by
  unfold sortP
  split
  · rename_i h; simpa using h
  · rename_i h; simp; omega

section
variable {Γ : Gl} {k : Nat} {nm : List (Str × NameKind)} {ρ : Ctx0}
theorem itr_listM {α : Type} {g : α → PyData} {l : List α} {target e : PySem.Expr} (h : Ev Γ k nm ρ e (.py (.list (l.map g))))
    (ht : (∃ x pos, target = .Name x pos) ∨ ((∃ es kk pos, target = .Tuple es kk pos) ∧ ∀ a, ∃ ps, g a = .tuple ps)) : Itr Γ k nm ρ target e (l.map fun a => .py (g a)) := by
  have := itr_list h items_py (target := target) (ht.imp id fun ⟨t1, t2⟩ => ⟨t1, fun d hd => by
    obtain ⟨y, hy, rfl⟩ := List.mem_map.mp hd
    obtain ⟨a, _, rfl⟩ := List.mem_map.mp hy
    obtain ⟨ps, hp⟩ := t2 a
    exact ⟨ps, by rw [hp]⟩⟩)
  rwa [List.map_map] at this
/-- tuple(sorted([two ints])) -/
theorem ev_sortP {tp sp p1 p2 : Pos} {e : PySem.Expr} {p : Int × Int} (ok : Γ.Ok) (b : BG Γ) (h : Ev Γ k nm ρ e (.py (.list ([p.1, p.2].map PyData.int))))
    (hk1 : nm.lookup ("tuple" : Str) = some .globalImplicit := by rfl) (hk2 : nm.lookup ("sorted" : Str) = some .globalImplicit := by rfl)
    (he : ∀ env, starEach [e] env = (false, eval e env) :: starEach [] env := by intro _; rfl) :
    Ev Γ k nm ρ (.Call (.Name "tuple" tp) [.Call (.Name "sorted" sp) [e] [] p1] [] p2) (.py (pairPy (sortP p))) :=
  ev_t1 ok b.tuple (ev_b1 ok b.sorted h (fn_sorted (sortP_perm p) (sortP_le p) (by simp)) hk2 (by decide +kernel) he) (fn_tuple (by simp; exact lc1_len (by decide))) hk1

def repl (low high : Int) (p : Int × Int) : Int × Int := (if p.1 == high then low else p.1, if p.2 == high then low else p.2)
def pushOne (lot : List (Int × Int)) (low high : Int) (p : Int × Int) : Int × Int :=
  if decide (high ∈ [p.1, p.2]) && (!decide (low ∈ [p.1, p.2]) && (!decide (sortP (repl low high p) ∈ lot) && true)) then sortP (repl low high p) else p

theorem fn_pushed {a : Addr} {lot : List (Int × Int)} {low high : Int} (ok : Γ.Ok) (b : BG Γ) (hs : lot.length ≤ 1000) (d : DefIn Γ P01 10 "_law_pushed" a) :
    Fn Γ (k + 1) (.ref a) [.py (.list (lot.map pairPy)), I low, I high] (.py (.list ((lot.map (pushOne lot low high)).map pairPy))) := by
  refine fn_def (ps := ["lot", "low", "high"]) (xs := ["found", "pair", "after"]) ok d (by decide +kernel) rfl (fun pm cd doc vs hl => ?_) fun A env h₀ X M s f Q hQ => ?_
  · match vs, hl with
    | [v, w, u], _ => rfl
  · have inter := fs_inter f
    have eG : ∀ l : List (Int × Int), (l.flatMap fun p => [pairPy (pushOne lot low high p)]) = (l.map (pushOne lot low high)).map pairPy := fun l => by
      induction l with
      | nil => rfl
      | cons p l ih => rw [List.flatMap_cons, ih]; rfl
    refine x_new_list (x := "found") f (by simp) (by rfl) fun D0 h1 tk1 nD f1 => ?_
    refine x_for_app (items := lot) (enc := fun p => .py (pairPy p)) (bs := fun p => [("pair", .py (pairPy p))]) (pre := []) (G := fun p => [pairPy (pushOne lot low high p)]) f1 (itr_listM (ev_name rfl) (.inl ⟨_, _, rfl⟩)) (fun a _ => as_name (by simp)) (fun _ _ => by rfl) (fun _ _ => rfl)
      (fun p hp M1 s1 pre1 l1 f1 Q1 hQ1 => ?_) fun h2 tk2 k2 f2 => ?_
    · rw [eG, List.length_map, List.length_map] at l1
      refine x_assign (x := "after") (d := .py (pairPy (sortP (repl low high p)))) f1 (ev_sortP ok b (evp_ev (evp_eq (evp_lc1 (ρc := [("high", I high), ("low", I low)]) (xs := ["thing"]) (bn := ["thing"]) (ds := [p.1, p.2]) (enc := I) (bs := fun t => [("thing", I t)]) (p := fun _ => true) (g := fun t => .int (if t == high then low else t))
        (by rfl) ⟨rfl, rfl, trivial⟩ (by rfl) (fun _ => rfl) (fun _ _ => rfl) (itr_tuple (ev_name (d := .py (pairPy p)) rfl)) (fun _ _ => as_name (by simp)) (fun _ _ => ets_nil)
        (fun t _ _ => ?_) (by simp)) rfl))) (by simp) (by intro q; cases q) (fun _ _ => by rfl) fun h3 tk3 k3 f3 => ?_
      · refine ev_ifexp (c := t == high) (et_cmp (ev_name (d := I t) rfl) (ev_name (d := I high) rfl) cm_eq_int) (fun hc => ?_) fun hc => ?_
        · rw [hc]; exact ev_name rfl
        · rw [hc]; exact ev_name rfl
      · refine x_append (d := .py (pairPy (pushOne lot low high p))) f3 (ev_ifexp (c := decide (high ∈ [p.1, p.2]) && (!decide (low ∈ [p.1, p.2]) && (!decide (sortP (repl low high p) ∈ lot) && true)))
          (et_boolop (ea_and (et_cmp (ev_name (d := I high) rfl) (ev_name (d := .py (pairPy p)) rfl) cm_in_pair) fun _ => ea_and (et_cmp (ev_name (d := I low) rfl) (ev_name (d := .py (pairPy p)) rfl) cm_notIn_pair) fun _ => ea_and (et_cmp (ev_name (d := .py (pairPy (sortP (repl low high p)))) rfl) (ev_name (d := .py (.list (lot.map pairPy))) rfl) cm_notIn_pairs) fun _ => ea_and_nil))
          (fun hc => ?_) fun hc => ?_) (by rw [List.length_map, sizeLine_eq]; simp at l1; omega) (by decide +kernel) (by decide +kernel) (fun _ => rfl) inter rfl (fun _ => rfl) (fun _ => rfl) fun h6 tk6 k6 f6 => ?_
        · unfold pushOne; rw [hc]; exact ev_name rfl
        · unfold pushOne; rw [hc]; exact ev_name rfl
        · have f7 := f6.wk (ρ' := [("lot", .py (.list (lot.map pairPy))), ("low", I low), ("high", I high)]) ⟨rfl, rfl, rfl, trivial⟩
          refine wpAny_execs_nil (hQ1 h6 tk6 (k3.trans k6) ?_)
          rw [List.map_append]
          exact f7
    · rw [eG] at f2
      exact x_return_py f2 nD (by decide +kernel) (by decide +kernel) fun v h5 tk5 k5 iv => hQ v h5 tk5 (f2.old.trans k5) iv
end
end Mine
namespace Mine
open PySem PySem.Calls PySem.Spec PyProof.Rows PySem.W

section
variable {prog : Program} {w : World} {A : Around} {E : Value → Shared → Prop} {s : Shared}
theorem setItem_plainI {l : Addr} {items : Array Value} {k : Int} {t : Tok} {v : Value} {Q : Unit → Shared → Prop} (hl : PlainL s.heap l items) (h0 : 0 ≤ k) (hfit : k < 2 ^ 63) (hn : k < items.size)
    (hQ : ∀ h', PlainL h' l (items.setIfInBounds k.toNat v) → Heap.SameBut l s.heap h' → Q () { s with heap := h' }) :
    wpAny (model prog w) A (setItem (.ref l) (.int k t) v) Q E s := by
  obtain ⟨⟨cls, dc, dat, sl⟩, ne, ho, hc, hdn, hd⟩ := hl
  simp only at hc hdn hd
  subst hc hdn hd
  have hT : s.TypeIs (.ref l) "list" := ⟨_, ho, rfl⟩
  unfold setItem
  refine wpAny_holding ?_
  first | refine wpAny_bind (wpAny_pure ?_) | skip
  refine wpAny_bind (wpAny_sequenceKey hT (by decide) ?_)
  refine wpAny_bind (wpAny_callSpecial?_slot (name := Str.ofString "__setitem__") hT slot_list_setitem (wpAny_call_entry slot_list_setitem hT entry_list_setitem ?_ (args_list_setitem _ _ _)))
  show wpAny _ _ (Builtin.List.listSubscript? (.int k t) >>= _) _ _ s
  refine wpAny_bind (wpAny_listSubscript_int (fitsIndex_of h0 hfit) ?_)
  clear hfit
  obtain ⟨j, rfl⟩ := Int.eq_ofNat_of_zero_le h0
  have hj : j < items.size := by omega
  show wpAny _ _ ((seqItemAt l j >>= fun r => pure (r.map (j, ·))) >>= _) _ _ s
  refine wpAny_bind (wpAny_bind (wpAny_seqItemAt ho rfl (wpAny_pure ?_)))
  rw [Array.getElem?_eq_getElem hj]
  show wpAny _ _ (setSeqItemAt l j v >>= _) _ _ s
  have hfin : PlainL (s.heap.update l (Obj.mapSeq (·.setIfInBounds j v))) l (items.setIfInBounds j v) := ⟨_, _, Heap.get?_update_self _ ho rfl, rfl, rfl, rfl⟩
  refine wpAny_bind (wpAny_setSeqItemAt ho rfl ?_)
  first
    | exact wpAny_bind (wpAny_pure (wpAny_pure ⟨.none, rfl, wpAny_pure (hQ _ hfin (Heap.SameBut.update ..))⟩))
    | exact wpAny_pure ⟨.none, rfl, wpAny_pure (hQ _ hfin (Heap.SameBut.update ..))⟩
theorem setItem_plain {l : Addr} {items : Array Value} {j : Nat} {t : Tok} {v : Value} {Q : Unit → Shared → Prop} (hl : PlainL s.heap l items) (hj : j < items.size) (hs : items.size ≤ 1000000)
    (hQ : ∀ h', PlainL h' l (items.setIfInBounds j v) → Heap.SameBut l s.heap h' → Q () { s with heap := h' }) :
    wpAny (model prog w) A (setItem (.ref l) (.int j t) v) Q E s :=
  setItem_plainI hl (Int.natCast_nonneg j) (by omega) (by omega) hQ
end

/-- a row reads as it does where dicts and tuples stand alike -/
theorem RowAt.lift {Γ : Gl} {h h' : Heap} {a : Addr} {r : Row} (x : RowAt Γ h a r) (k : ∀ b o, h.get? b = some o → o.cls ≠ .type "list" → h'.get? b = some o) : RowAt Γ h' a r := by
  obtain ⟨hs, xs, ⟨o, es, ep, ho, hx, hd, he, hk, hn⟩, hv⟩ := x
  have nl : o.cls ≠ .type "list" := by rw [hx.1]; exact fun q => by injection q with q; exact absurd q (by decide)
  refine ⟨hs, xs, ⟨o, es, ep, k _ _ ho nl, hx, hd, he, fun y hy => ?_, hn⟩, hv⟩
  obtain ⟨o', its, n, h1, h2, h3, h4⟩ := hk y hy
  exact ⟨o', its, n, k _ _ h1 (by rw [h2]; exact fun q => by injection q with q; exact absurd q (by decide)), h2, h3, h4⟩
theorem lift_hd {M N : List Addr} {h : Heap} {F : Addr} {ys : Array Value} (hF : PlainL h F ys) (hN : ∀ b ∈ N, b = F ∨ b ∈ M) : ∀ b o, (Hd M h).get? b = some o → o.cls ≠ .type "list" → (Hd N h).get? b = some o := fun b o e nl => by
  refine hd_get (of_hideAll _ e) fun m => ?_
  rcases hN b m with q | q
  · subst q
    obtain ⟨o', _, e', c, _⟩ := hF
    have := of_hideAll _ e
    rw [e'] at this; cases this
    exact nl c
  · exact hd_not e q
theorem isRow_lift {Γ : Gl} {h h' : Heap} {v : Value} {r : Row} (x : Is Γ h v (.tdict r)) (k : ∀ b o, h.get? b = some o → o.cls ≠ .type "list" → h'.get? b = some o) : Is Γ h' v (.tdict r) := let ⟨a, e, q⟩ := x; ⟨a, e, q.lift k⟩

section
variable {Γ : Gl} {k : Nat} {nm : List (Str × NameKind)} {ρ : Ctx0} {xs : List Str} {A : Around} {env : Env} {h₀ : Heap} {X : List Addr} {F : Addr} {M : List Addr} {μ : Mu} {s : Shared} {rest : List Stmt} {Q : Flow → Shared → Prop} {pos : Pos}

/-- x[y] = e, the rows under change -/
theorem x_setrow {x y : Str} {xp yp sp : Pos} {e : PySem.Expr} {rs : List Row} {r : Row} {i : Nat} (f : FS Γ k nm xs A env h₀ X F M ρ (.list x (rs.map D.tdict)) s) (he : Ev Γ k nm ((x, .rows rs) :: ρ) e (.tdict r)) (hy : ρ.lookup y = some (I (i : Int))) (hi : i < rs.length) (hs : rs.length ≤ 1000)
    (nx : (x == ("__classdict__" : Str)) = false) (dx : (x == ("__debug__" : Str)) = false) (ny : (y == ("__classdict__" : Str)) = false) (dy : (y == ("__debug__" : Str)) = false)
    (hsw : swapsWith e (some (.Subscript (.Name x xp) (.Name y yp) sp)) pos.line env = pure false)
    (h : ∀ h' tk, KpX (F :: X) s.heap h' → FS Γ k nm xs A env h₀ X F M ρ (.list x ((rs.set i r).map D.tdict)) { s with heap := h', toks := tk } → wpAny (model Γ.prog Γ.w) A (execs rest env) Q E0 { s with heap := h', toks := tk }) :
    wpAny (model Γ.prog Γ.w) A (execs (.Assign [.Subscript (.Name x xp) (.Name y yp) sp] e pos :: rest) env) Q E0 s := by
  refine wpAny_execs_cons (wpAny_Assign_Subscript (he A env _ s f.peek_rows _ fun v h1 tk1 k1 iv => ?_) hsw)
  have f1 := f.sub (tk := tk1) k1
  obtain ⟨r1, ys, hl, hit⟩ := f1.mu
  have iv' : Is Γ (Hd M h1) v (.tdict r) := isRow_lift iv (lift_hd hl fun b hb => by
    by_cases q : b = F
    · exact .inl q
    · exact .inr (List.mem_filter.mpr ⟨hb, by simpa using q⟩))
  refine wpAny_Name (load_reach f1.pre.en r1 nx ?_) dx
  obtain ⟨w, rw1, iw⟩ := f1.pre.names y _ hy
  obtain ⟨t, rfl⟩ := is_int.mp iw
  refine wpAny_Name (load_reach f1.pre.en rw1 ny ?_) dy
  have hz : ys.size = rs.length := by have := hit.length; rwa [Array.length_toList, List.length_map] at this
  refine setItem_plain hl (by omega) (by omega) fun h2 hl2 hs2 => ?_
  have kp : KpX [F] h1 h2 := sameBut_kpx hs2 (by simp)
  refine h h2 tk1 (fun b o n eo => kp b o (fun q => n (by simp at q; subst q; exact .head _)) (k1 b o eo)) (f1.upd (tk := tk1) hs2 hl2 ?_)
  have : (rs.set i r).map D.tdict = (rs.map D.tdict).set i (.tdict r) := List.map_set
  rw [this, Array.toList_setIfInBounds]
  exact hit.set iv' i

/-- return e, that looks at the rows under change -/
theorem x_return_at {ρ' : Ctx0} {M' : List Addr} {e : PySem.Expr} {d : D} (p : Pre Γ k nm ρ' A env M' s) (he : Ev Γ k nm ρ' e d) (hM : ∀ b ∈ M, b ∈ M')
    (h : ∀ v h' tk, Sub s.heap h' → Is Γ (Hd M h') v d → Q (.ret v) { s with heap := h', toks := tk }) :
    wpAny (model Γ.prog Γ.w) A (execs (.Return (some e) pos :: rest) env) Q E0 s :=
  wpAny_execs_cons (wpAny_Return_some (he A env M' s p _ fun v h1 tk1 k1 iv => h v h1 tk1 k1 (iv.keeps (hd_less hM))))

theorem FS.newmut2 {F0 D0 : Addr} {wr : List Addr} {x : Str} (f : FS Γ k nm xs A env h₀ X F0 M ρ .none s) (hx : x ∈ xs) (hρ : ρ.lookup x = none) {h1 : Heap} {tk : Nat} (k1 : Sub s.heap h1) (nD : ∀ b ∈ D0 :: wr, ¬ Live s.heap b) (lD : ∀ b ∈ D0 :: wr, Live h1 b) (hc : NewMu Γ (D0 :: wr ++ M) h1 D0 x μ)
    {Q : Unit → Shared → Prop} (hQ : ∀ h' tk', KpX X h1 h' → FS Γ k nm xs A env h₀ X D0 (D0 :: wr ++ M) ρ μ { s with heap := h', toks := tk' } → Q () { s with heap := h', toks := tk' }) :
    wpAny (model Γ.prog Γ.w) A (storeName env x (.ref D0)) Q E0 { s with heap := h1, toks := tk } := by
  have f1 := f.more (tk := tk) (wr := D0 :: wr) k1 nD lD
  have nDX : D0 ∉ X := fun q => nD D0 (.head _) (f.pre.live D0 (f.xm D0 q))
  refine store_raw (s := { s with heap := h1, toks := tk }) f1.pre f1.frm hx fun h' tk' kp lv ry rx fr => hQ h' tk' kp ?_
  have hd : Sub (Hd (D0 :: wr ++ M) h1) (Hd (D0 :: wr ++ M) h') := KpX.hd kp f1.xm
  refine ⟨⟨f1.pre.rm, f1.pre.en, f.gb.trans fun b o e => kp b o (fun q => f.bx b q ⟨o, e⟩) (f1.old b o e), fun a q => lv a (f1.pre.live a q), fun y e hy => ?_, fun y c e => lv c (f1.pre.cells y c e)⟩, fr, f1.xm, f.gb, fun b o e => kp b o (fun q => f.bx b q ⟨o, e⟩) (f1.old b o e), f.bx, .head _,
    fun z => nD D0 (.head _) (z.sub f.old), fun _ => ⟨nDX, fun y c e q => nD D0 (.head _) (q ▸ f.pre.cells y c e)⟩, ?_⟩
  · obtain ⟨w, r, i⟩ := f1.pre.names y e hy
    exact ⟨w, ry y w (fun q => by subst q; rw [hρ] at hy; cases hy) r, i.keeps hd⟩
  · cases μ with
    | none => exact hc.elim
    | list y ds =>
      obtain ⟨rfl, ys, ⟨o, n, e, q⟩, hi⟩ := hc
      exact ⟨rx, ys, ⟨o, n, kp _ _ nDX e, q⟩, hi.imp fun _ _ i => i.keeps hd⟩
    | dict y r =>
      obtain ⟨rfl, q⟩ := hc
      exact ⟨rx, q.move (fun o e => kp _ _ nDX e) hd⟩

theorem all2_rows {h h' : Heap} (k : ∀ b o, h.get? b = some o → o.cls ≠ .type "list" → h'.get? b = some o) : ∀ {vs : List Value} {rs : List Row}, All2 (Is Γ h) vs (rs.map D.tdict) → All2 (Is Γ h') vs (rs.map D.tdict)
  | _, [], .nil => .nil
  | _, _ :: _, .cons r q => .cons (isRow_lift r k) (all2_rows k q)

/-- a comprehension of new rows, stored at once -/
theorem x_new_rows {x : Str} {xp : Pos} {nmC : List (Str × NameKind)} {ys : List Str} {elt target iter : PySem.Expr} {ifs : List PySem.Expr} {gs : List Comprehension} {scope : Scope} {cpos : Pos} {ρc : Ctx0}
    (f : FS Γ k nm xs A env h₀ X F M ρ .none s) (hx : x ∈ xs) (hρ : ρ.lookup x = none)
    (hsw : ∀ env, EnvIs nm env → swapsWith (.ListComp elt (⟨target, iter, ifs, 0⟩ :: gs) scope cpos) (some (.Name x xp)) pos.line env = pure true)
    (ok : ScopeOk nm scope nmC ys)
    (hc : ∀ x d, ρc.lookup x = some d → ρ.lookup x = some d ∧ (x, NameKind.free) ∈ scope.names ∧ (nmC.lookup x = some .cell ∨ nmC.lookup x = some .free))
    (hfr : ∀ n, (n, NameKind.free) ∈ scope.names → ∃ d, ρ.lookup n = some d)
    (hs0 : ∀ env x, foldedSetIterable iter env x = pure x)
    (hnx : ∀ g, gs[0]? = some g → g.is_async = 0 ∧ ∀ env x, foldedSetIterable g.iter env x = pure x)
    {α : Type} {ds : List α} {enc : α → D} {bs : α → Ctx0} {p : α → Bool} {f' : α → List D} (hit : Itr Γ k nm ρ target iter (ds.map enc)) (hbs : ∀ d ∈ ds, As Γ k nmC ys target (enc d) (bs d)) (hfresh : ∀ d ∈ ds, ∀ x, ((bs d).lookup x).isSome = true → ρc.lookup x = none)
    (htest : ∀ d ∈ ds, Ets Γ k nmC (bs d ++ ρc) ifs (p d)) (hin : ∀ d ∈ ds, p d = true → Bk Γ k nmC ys elt (⟨target, iter, ifs, 0⟩ :: gs) scope cpos 1 (bs d ++ ρc) (f' d))
    (hsz : (ds.flatMap fun d => if p d then f' d else []).length ≤ sizeLine) {out : List Row} (hout : (ds.flatMap fun d => if p d then f' d else []) = out.map D.tdict)
    (h : ∀ D0 h' tk, D0 ∉ M → FS Γ k nm xs A env h₀ X D0 (D0 :: M) ρ (.list x (out.map D.tdict)) { s with heap := h', toks := tk } → wpAny (model Γ.prog Γ.w) A (execs rest env) Q E0 { s with heap := h', toks := tk }) :
    wpAny (model Γ.prog Γ.w) A (execs (.Assign [.Name x xp] (.ListComp elt (⟨target, iter, ifs, 0⟩ :: gs) scope cpos) pos :: rest) env) Q E0 s := by
  refine wpAny_execs_cons ?_
  rw [exec_Assign_Name_used _ _ _ _ (hsw env f.pre.en)]
  refine wpAny_bind (wpAny_standAt (wpAny_bind ?_))
  show wpAny _ A (do let _ ← comprehension (.ListComp elt (⟨target, iter, ifs, 0⟩ :: gs) scope cpos) scope env _ (newList []) false (eval iter env) (some (assign (.Name x xp) env))) _ _ s
  refine wpAny_bind (comp_top ok hc hfr hs0 hnx hit hbs hfresh htest hin hsz f.pre (use := some (assign (.Name x xp) env)) fun h2 tk C D0 zs kk nC nD ne hmm hl hi => ?_)
  obtain ⟨m, hmm⟩ := hmm
  show wpAny _ _ (assign (.Name x xp) env (.ref D0)) _ _ _
  have lC : Live h2 C := let ⟨o, _, _, e, _⟩ := hmm; ⟨o, e⟩
  have lD : Live h2 D0 := let ⟨o, _, e, _⟩ := hl; ⟨o, e⟩
  rw [hout] at hi
  have lCM : ∀ b ∈ M, b ≠ C := fun b q z => nC (z ▸ f.pre.live b q)
  refine wpAny_assign_Name (f.newmut2 (μ := .list x (out.map D.tdict)) (wr := [C]) (D0 := D0) hx hρ kk (fun b q => by
      simp only [List.mem_cons, List.not_mem_nil, or_false] at q
      rcases q with rfl | rfl <;> assumption) (fun b q => by
      simp only [List.mem_cons, List.not_mem_nil, or_false] at q
      rcases q with rfl | rfl <;> assumption) ⟨rfl, zs, hl, all2_rows (lift_hd hl fun b hb => by simpa using hb) hi⟩ fun h3 tk3 k3 f3 => ?_)
  have nCX : C ∉ X := fun q => lCM C (f.xm C q) rfl
  refine ⟨m, let ⟨o, es, ep, e, r⟩ := hmm; ⟨o, es, ep, k3 _ _ nCX e, r⟩, fun h' hs' => wpAny_pure (wpAny_pure ?_)⟩
  have kC : KpX [C] h3 h' := sameBut_kpx hs' (by simp)
  have nCl : ∀ a, Live s.heap a → a ∉ [C] := fun a q z => by simp at z; subst z; exact nC q
  have nDM : D0 ∉ M := fun q => nD (f.pre.live D0 q)
  refine h D0 h' tk3 nDM (f3.off (tk' := tk3) kC (fun b q => ?_) (fun b q => ?_) (fun b q => ?_) (fun b q z => ?_) (nCl _ ?_) (fun y c e => nCl c (f.pre.cells y c e)) (fun _ q => ?_) (fun a q => .tail _ (f.xm a q)) (.head _))
  · simp at q; subst q; simp
  · rcases List.mem_cons.mp q with q | q
    · subst q; exact .head _
    · exact .tail _ (.tail _ q)
  · have l3 : Live h3 b := f3.pre.live b (by
      rcases List.mem_cons.mp q with q | q
      · subst q; exact .head _
      · exact .tail _ (.tail _ q))
    obtain ⟨o, e⟩ := l3
    refine ⟨o, kC b o (fun z => ?_) e⟩
    simp at z; subst z
    rcases List.mem_cons.mp q with q | q
    · exact ne q
    · exact lCM b q rfl
  · simp at q; subst q; exact nC (z.sub f.old)
  · obtain ⟨m, ⟨o, _, _, e, _⟩⟩ := f.frm.ns; exact ⟨o, e⟩
  · simp at q; exact ne q.symm
end
end Mine
namespace Mine
open PySem PySem.Calls PySem.Spec PyProof.Rows PySem.W

def keyW (n : Int) : KeyT := [.inl "with", .inr n, .inl "pairs"]
def bump (rs : List Row) (i j : Int) : List Row := rs.set i.toNat (rowAdd (rs.getD i.toNat []) [(keyW j, 1)])
def stepR (rs : List Row) (p : Int × Int) : List Row := bump (bump rs p.1 p.2) p.2 p.1
def turnR (lot : List (Int × Int)) (rs : List Row) : List Row := lot.foldl stepR rs
def rowsF (lot : List (Int × Int)) : List Row := (upFrom 0 2).foldl (fun rs _ => turnR lot rs) (List.replicate 5 [])

structure RowsOk (N : Nat) (rs : List Row) : Prop where
  len : rs.length = 5
  each : ∀ r ∈ rs, r.length ≤ N
theorem rowAdd_len (r1 r2 : Row) : (rowAdd r1 r2).length ≤ r1.length + r2.length := by
  unfold rowAdd
  have h1 := foldl_len rowStep_len r2 (rowCopy r1)
  have h2 := rowCopy_len r1
  omega
theorem getD_mem {rs : List Row} {i : Nat} (h : i < rs.length) : rs.getD i [] ∈ rs := by
  rw [List.getD_eq_getElem?_getD, List.getElem?_eq_getElem h]
  exact List.getElem_mem h
theorem bump_ok {N : Nat} {rs : List Row} {i j : Int} (h : RowsOk N rs) (h0 : 0 ≤ i) (h5 : i < 5) : RowsOk (N + 1) (bump rs i j) := by
  refine ⟨by unfold bump; rw [List.length_set]; exact h.len, fun r hr => ?_⟩
  unfold bump at hr
  rcases List.mem_or_eq_of_mem_set hr with q | q
  · exact Nat.le_succ_of_le (h.each r q)
  · subst q
    have hi : i.toNat < rs.length := by rw [h.len]; omega
    have h1 := h.each _ (getD_mem hi)
    have h2 := rowAdd_len (rs.getD i.toNat []) [(keyW j, 1)]
    simp only [List.length_cons, List.length_nil] at h2
    omega
theorem RowsOk.mono {N N' : Nat} {rs : List Row} (h : RowsOk N rs) (q : N ≤ N') : RowsOk N' rs := ⟨h.len, fun r hr => Nat.le_trans (h.each r hr) q⟩
abbrev InFive (p : Int × Int) : Prop := 0 ≤ p.1 ∧ p.1 < 5 ∧ 0 ≤ p.2 ∧ p.2 < 5
theorem step_ok {N : Nat} {rs : List Row} {p : Int × Int} (h : RowsOk N rs) (hp : InFive p) : RowsOk (N + 2) (stepR rs p) := bump_ok (bump_ok h hp.1 hp.2.1) hp.2.2.1 hp.2.2.2
theorem turn_ok {lot : List (Int × Int)} (hl : ∀ p ∈ lot, InFive p) : ∀ {N : Nat} {rs : List Row}, RowsOk N rs → RowsOk (N + 2 * lot.length) (turnR lot rs) := by
  induction lot with
  | nil => intro N rs h; exact h
  | cons p lot ih =>
    intro N rs h
    have := ih (fun q hq => hl q (.tail _ hq)) (step_ok h (hl p (.head _)))
    refine this.mono ?_
    simp only [List.length_cons]
    omega
theorem start_ok : RowsOk 0 (List.replicate 5 []) := ⟨rfl, fun r hr => by rw [(List.mem_replicate.mp hr).2]; exact Nat.le_refl _⟩
theorem row_at {rs : List Row} {N : Nat} {i : Int} (h : RowsOk N rs) (h0 : 0 ≤ i) (h5 : i < 5) : rs[i.toNat]? = some (rs.getD i.toNat []) := by
  have hi : i.toNat < rs.length := by rw [h.len]; omega
  rw [List.getD_eq_getElem?_getD, List.getElem?_eq_getElem hi]
  rfl

section
variable {Γ : Gl} {k : Nat} {nm : List (Str × NameKind)} {ρ : Ctx0}
/-- a call of a def of the module -/
theorem ev_def {x name : Str} {params : Arguments} {body : List Stmt} {scope : Scope} {ppos pos : Pos} {a : Addr} {e : PySem.Expr} {es : List PySem.Expr} {ds : List D} {r : D} (ok : Γ.Ok) (g : Glo Γ x (.ref a)) (d : DefAt Γ a name params body scope) (hs : Evs Γ k nm ρ (e :: es) ds) (hf : Fn Γ k (.ref a) ds r)
    (hk : nm.lookup x = some .globalImplicit := by rfl) (hd : (x == ("__debug__" : Str)) = false := by decide +kernel)
    (he : ∀ env, starEach (e :: es) env = (false, eval e env) :: starEach es env := by intro _; rfl) (hpl : ∀ env, (backTo pos (starEach es env)).any (·.1) = false := by intro _; rfl) :
    Ev Γ k nm ρ (.Call (.Name x ppos) (e :: es) [] pos) r :=
  ev_call ok g hs hf hk hd he hpl (.inr (.inr (let ⟨o, fd, h1, h2⟩ := d.isFn; ⟨a, o, fd, rfl, h1, h2⟩)))

/-- add_callers(rows[x], {('with', y, 'pairs'): 1}) -/
theorem ev_bump {aA : Addr} {x y : Str} {p1 p2 p3 p4 p5 p6 p7 p8 p9 p10 p11 : Pos} {k1 k2 k3 k4 : Nat} {rs : List Row} {N : Nat} {i j : Int} (ok : Γ.Ok) (b : BG Γ) (g : Glo Γ "add_callers" (.ref aA)) (d : DefIn Γ P01 1 "add_callers" aA) (hr : RowsOk N rs) (hN : N ≤ 1000) (h0 : 0 ≤ i) (h5 : i < 5)
    (l0 : ρ.lookup ("rows" : Str) = some (.rows rs)) (l1 : ρ.lookup x = some (I i)) (l2 : ρ.lookup y = some (I j)) (hk : nm.lookup ("add_callers" : Str) = some .globalImplicit)
    (nx : (x == ("__classdict__" : Str)) = false) (dx : (x == ("__debug__" : Str)) = false) (ny : (y == ("__classdict__" : Str)) = false) (dy : (y == ("__debug__" : Str)) = false) :
    Ev Γ (k + 1) nm ρ (.Call (.Name "add_callers" p1) [.Subscript (.Name "rows" p2) (.Name x p3) p4, .Dict [some (.Tuple [.Constant (.str "with") k1 p5, .Name y p6, .Constant (.str "pairs") k2 p7] k3 p8)] [.Constant (.int 1) k4 p9] p10] [] p11)
      (.tdict (rowAdd (rs.getD i.toNat []) [(keyW j, 1)])) := by
  have hi : i.toNat < rs.length := by rw [hr.len]; omega
  refine ev_def ok g d (evs_cons (ev_sub (ev_name l0) (ev_name l1 nx dx) (su_rows h0 (row_at hr h0 h5) (by omega))) (evs_cons (ev_dict1 (K := keyW j) (i := 1) ok (ev_tuple (ps := [.str "with", .int j, .str "pairs"]) (evs_cons ev_str (evs_cons (ev_name l2 ny dy) (evs_cons ev_str evs_nil))) rfl (Nat.le_of_ble_eq_true rfl)) ev_int) evs_nil))
    (fn_add ok b.isinstance b.tuple ?_ d) hk
  have := hr.each _ (getD_mem hi)
  simp only [List.length_cons, List.length_nil]
  omega

theorem fn_rows {a aA aC : Addr} {lot : List (Int × Int)} (ok : Γ.Ok) (b : BG Γ) (hs : lot.length ≤ 100) (hl5 : ∀ p ∈ lot, InFive p) (gA : Glo Γ "add_callers" (.ref aA)) (dA : DefIn Γ P01 1 "add_callers" aA) (gC : Glo Γ "count_calls" (.ref aC)) (dC : DefIn Γ P01 2 "count_calls" aC) (d : DefIn Γ P01 8 "_law_rows" a) :
    Fn Γ (k + 2) (.ref a) [.py (.list (lot.map pairPy))] (.py (.list (((rowsF lot).map rowSum).map PyData.int))) := by
  refine fn_def (k := k + 1) (ps := ["lot"]) (xs := ["rows", "turn", "one", "other"]) ok d (by decide +kernel) rfl (fun pm cd doc vs hl => ?_) fun A env h₀ X M s f Q hQ => ?_
  · match vs, hl with
    | [v], _ => rfl
  · refine x_new_rows (x := "rows") (ys := ["thing"]) (ρc := []) (nmC := relNames (scopeAt P01 8).names _) (ds := upFrom 0 5) (enc := I) (bs := fun t => [("thing", I t)]) (p := fun _ => true) (f' := fun _ => [.tdict []]) (out := List.replicate 5 []) f (by simp) (by rfl) (swap_lc (by rfl)) (ScopeOk.of (by rfl)) (fun x d h => by simp at h) (cx_f (nm := (scopeAt P01 8).names) (ρc := []) (bn := []) trivial (by rfl)) (fun _ _ => rfl) (fun g h => by simp at h)
      (itr_rangeN (n := 5) ok b.range ev_int (by omega)) (fun _ _ => as_name (by simp)) (fun _ _ _ _ => rfl) (fun _ _ => ets_nil) (fun _ _ _ => bk_emit rfl (ev_dict0 ok)) (Nat.le_of_ble_eq_true rfl) rfl fun D0 h1 tk1 nD f1 => ?_
    have total : ∀ i, RowsOk (i * (2 * lot.length)) (((upFrom 0 2).take i).foldl (fun rs _ => turnR lot rs) (List.replicate 5 [])) := by
      intro i
      induction i with
      | zero => simpa using start_ok
      | succ i ih =>
        cases e : (upFrom 0 2)[i]? with
        | none =>
          have hi : (upFrom 0 2).length ≤ i := List.getElem?_eq_none_iff.mp e
          rw [List.take_of_length_le hi] at ih
          rw [List.take_of_length_le (by omega)]
          exact ih.mono (Nat.mul_le_mul_right _ (by omega))
        | some t =>
          rw [foldl_take e]
          refine (turn_ok hl5 ih).mono ?_
          rw [Nat.add_mul, Nat.one_mul]
          exact Nat.le_refl _
    refine x_for (items := upFrom 0 2) (enc := I) (bs := fun t => [("turn", I t)]) (ρf := fun _ => [("lot", .py (.list (lot.map pairPy)))]) (μf := fun i => .list "rows" ((((upFrom 0 2).take i).foldl (fun rs _ => turnR lot rs) (List.replicate 5 [])).map D.tdict)) f1 (itr_rangeN (n := 2) ok b.range ev_int (by omega)) (fun _ _ => as_name (by simp)) (fun _ _ _ x hx => by cases hx; rfl) (fun _ _ => rfl)
      (fun i t hi M1 s1 f2 Q1 hQ1 => ?_) fun h3 tk3 k3 f3 => ?_
    · have hi2 : i < 2 := by have := (List.getElem?_eq_some_iff.mp hi).1; rwa [upFrom_length] at this
      have ok1 := (total i).mono (N' := 400) (by
        have : i * (2 * lot.length) ≤ 1 * (2 * lot.length) := Nat.mul_le_mul_right _ (by omega)
        omega)
      have e1 : ((upFrom 0 2).take (i + 1)).foldl (fun rs _ => turnR lot rs) (List.replicate 5 []) = turnR lot (((upFrom 0 2).take i).foldl (fun rs _ => turnR lot rs) (List.replicate 5 [])) := foldl_take hi
      rw [e1] at hQ1
      generalize ((upFrom 0 2).take i).foldl (fun rs _ => turnR lot rs) (List.replicate 5 []) = rs0 at *
      refine x_for (items := lot) (enc := fun p => .py (pairPy p)) (bs := fun p => [("other", I p.2), ("one", I p.1)]) (ρf := fun _ => [("lot", .py (.list (lot.map pairPy)))]) (μf := fun j => .list "rows" ((turnR (lot.take j) rs0).map D.tdict)) (f2.wk ⟨rfl, trivial⟩) (itr_listM (ev_name rfl) (.inr ⟨⟨_, _, _, rfl⟩, fun _ => ⟨_, rfl⟩⟩)) (fun _ _ => as_pair (by simp) (by simp)) (fun _ _ _ x hx => by cases hx; rfl) (fun _ _ => rfl)
        (fun j p hj M2 s2 f3 Q2 hQ2 => ?_) fun h4 tk4 k4 f4 => ?_
      · have hp := hl5 p (List.mem_of_getElem? hj)
        have ok2 : RowsOk 600 (turnR (lot.take j) rs0) := by
          refine (turn_ok (fun q hq => hl5 q (List.mem_of_mem_take hq)) ok1).mono ?_
          rw [List.length_take]
          have := Nat.min_le_right j lot.length
          omega
        have e2 : turnR (lot.take (j + 1)) rs0 = stepR (turnR (lot.take j) rs0) p := foldl_take hj
        rw [e2] at hQ2
        generalize turnR (lot.take j) rs0 = rs at *
        have c1 : ((p.1.toNat : Nat) : Int) = p.1 := Int.toNat_of_nonneg hp.1
        have c2 : ((p.2.toNat : Nat) : Int) = p.2 := Int.toNat_of_nonneg hp.2.2.1
        refine x_setrow (x := "rows") (y := "one") (i := p.1.toNat) f3 (ev_bump (i := p.1) (j := p.2) ok b gA dA ok2 (by omega) hp.1 hp.2.1 rfl rfl rfl rfl (by decide +kernel) (by decide +kernel) (by decide +kernel) (by decide +kernel)) (by rw [c1]; rfl) (by rw [ok2.len]; omega) (by rw [ok2.len]; omega) (by decide +kernel) (by decide +kernel) (by decide +kernel) (by decide +kernel) (by rfl) fun h5 tk5 k5 f5 => ?_
        have ok3 : RowsOk 601 (bump rs p.1 p.2) := bump_ok ok2 hp.1 hp.2.1
        refine x_setrow (x := "rows") (y := "other") (i := p.2.toNat) (rs := bump rs p.1 p.2) f5 (ev_bump (i := p.2) (j := p.1) ok b gA dA ok3 (by omega) hp.2.2.1 hp.2.2.2 rfl rfl rfl rfl (by decide +kernel) (by decide +kernel) (by decide +kernel) (by decide +kernel)) (by rw [c2]; rfl) (by rw [ok3.len]; omega) (by rw [ok3.len]; omega) (by decide +kernel) (by decide +kernel) (by decide +kernel) (by decide +kernel) (by rfl) fun h6 tk6 k6 f6 => ?_
        exact wpAny_execs_nil (hQ2 h6 tk6 (k5.trans k6) (f6.wk ⟨rfl, trivial⟩))
      · rw [List.take_length] at f4
        exact wpAny_execs_nil (hQ1 h4 tk4 k4 f4)
    · have e : ((upFrom 0 2).take (upFrom 0 2).length).foldl (fun rs _ => turnR lot rs) (List.replicate 5 []) = rowsF lot := by rw [List.take_length]; rfl
      rw [e] at f3
      have okE : RowsOk 1000 (rowsF lot) := by
        have := total 2
        have e3 : (upFrom 0 2).take 2 = upFrom 0 2 := rfl
        rw [e3] at this
        exact this.mono (by omega)
      refine x_return_at f3.peek_rows (evp_ev (evp_eq (evp_lc1 (ρc := []) (xs := ["row"]) (bn := ["row"]) (ds := rowsF lot) (enc := D.tdict) (bs := fun r => [("row", .tdict r)]) (p := fun _ => true) (g := fun r => .int (rowSum r))
        (by rfl) trivial (by rfl) (fun _ => rfl) (fun _ _ => rfl) (itr_list (ev_name (d := .rows (rowsF lot)) rfl) items_rows (.inl ⟨_, _, rfl⟩)) (fun _ _ => as_name (by simp)) (fun _ _ => ets_nil)
        (fun r _ _ => ev_def ok gC dC (evs_cons (ev_name rfl) evs_nil) (fn_count ok dC)) (by rw [okE.len]; omega)) (by rw [List.map_map, List.filter_eq_self.mpr (fun _ _ => rfl)]; rfl))) (M := M) (mem_off nD) fun v h' tk k' iv => hQ v h' tk (f3.old.trans k') iv
end
end Mine
namespace Mine
open PySem PySem.Calls PySem.Spec PyProof.Rows PySem.W

abbrev Stand (os : List (Addr × Obj)) (h : Heap) : Prop := ∀ p ∈ os, h.get? p.1 = some p.2
/-- a def within a def, as it stands: its object f, its code's record, its cells -/
structure CloAt (os : List (Addr × Obj)) (f : Addr) (name qual : Str) (params : Arguments) (body : List Stmt) (scope : Scope) (cl : List (Str × Addr)) (c' : Addr) : Prop where
  fn : ∃ o doc pm ctv, (f, o) ∈ os ∧ o.data = .func (fnX name qual params body scope cl .none .none doc pm none (.ref c') ctv)
  code : ∃ oc vs t, (c', oc) ∈ os ∧ oc.data = .fields vs ∧ vs[1]? = some (.str qual t)
  cells : ∀ x c, cl.lookup x = some c → ∃ o, (c, o) ∈ os
/-- the free names of a closure, and what they hold -/
def CloHas (Γ : Gl) (os : List (Addr × Obj)) (cl : List (Str × Addr)) (scope : Scope) (h : Heap) (x : Str) (d : D) : Prop :=
  scope.names.lookup x = some .free ∧ ∃ c o v, cl.lookup x = some c ∧ (c, o) ∈ os ∧ o.data = .cell (some v) ∧ Is Γ h v d
def CloAll (Γ : Gl) (os : List (Addr × Obj)) (cl : List (Str × Addr)) (scope : Scope) (h : Heap) : Ctx0 → Prop
  | [] => True
  | (x, d) :: r => CloHas Γ os cl scope h x d ∧ CloAll Γ os cl scope h r
theorem CloAll.look {Γ : Gl} {os : List (Addr × Obj)} {cl : List (Str × Addr)} {scope : Scope} {h : Heap} : ∀ {ρ : Ctx0}, CloAll Γ os cl scope h ρ → ∀ x d, ρ.lookup x = some d → CloHas Γ os cl scope h x d
  | [], _, x, d, e => by simp at e
  | (y, d') :: r, ⟨h1, h2⟩, x, d, e => by
    rw [List.lookup_cons] at e
    cases hb : x == y with
    | true => rw [hb] at e; cases e; rw [eq_of_beq hb]; exact h1
    | false => rw [hb] at e; exact h2.look x d e

def cloOkB (scope : Scope) (ps xs : List Str) : Bool :=
  scope.kind == .function && !scope.isCoroutine && !scope.isGenerator && scope.names.all (fun x => x.2 != .cell) && xs.all (fun x => scope.names.lookup x == some .local) && ps.all (fun x => scope.names.lookup x == some .local) && decide ps.Nodup

theorem lookup_zip_rev {ps : List Str} {vs : List Value} (hn : ps.Nodup) (hl : vs.length = ps.length) {x : Str} {v : Value} (h : (x, v) ∈ ps.zip vs) : (ps.zip vs).reverse.lookup x = some v := by
  have hn2 : (((ps.zip vs).reverse).map (·.1)).Nodup := by
    rw [List.map_reverse, zip_names hl]
    exact (List.reverse_perm ps).nodup_iff.mpr hn
  have hm : (x, v) ∈ (ps.zip vs).reverse := List.mem_reverse.mpr h
  generalize (ps.zip vs).reverse = l at *
  induction l with
  | nil => cases hm
  | cons p r ih =>
    obtain ⟨y, w⟩ := p
    rw [List.map_cons, List.nodup_cons] at hn2
    rw [List.lookup_cons]
    rcases List.mem_cons.mp hm with q | q
    · cases q; rw [beq_self_eq_true]
    · have hne : (x == y) = false := beq_eq_false_iff_ne.mpr fun z => hn2.1 (z ▸ List.mem_map.mpr ⟨_, q, rfl⟩)
      rw [hne]
      exact ih hn2.2 q

section
variable {Γ : Gl} {k : Nat} {A : Around} {s : Shared} {M : List Addr} {os : List (Addr × Obj)} {f c' : Addr} {name qual : Str} {params : Arguments} {body : List Stmt} {scope : Scope} {cl : List (Str × Addr)}

theorem clo_call {ps xs : List Str} {vs : List Value} {ds : List D} {ρc : Ctx0} {h₀ : Heap} {Q : Value → Shared → Prop} (ok : Γ.Ok) (C : CloAt os f name qual params body scope cl c') (st : Stand os s.heap) (rm : Rm A (k + 1)) (base : Sub Γ.B s.heap)
    (hg : Sub Γ.B h₀) (ho : Sub h₀ s.heap) (live : ∀ a ∈ M, Live s.heap a) (hv : All2 (Is Γ (Hd M s.heap)) vs ds) (hl : ps.length = ds.length) (hk : cloOkB scope ps xs = true)
    (hbind : ∀ doc pm ctv, vs.length = ps.length → bindArgs (fnX name qual params body scope cl .none .none doc pm none (.ref c') ctv) ⟨vs, []⟩ = pure (ps.zip vs))
    (hc : CloAll Γ os cl scope (Hd M s.heap) ρc)
    (hbody : ∀ env h₁ tk X, env.cells = cl → (∀ a ∈ X, ¬ Live s.heap a) → Sub s.heap h₁ → FS Γ k scope.names xs (A.deeper env) env h₀ X env.locals (X ++ M) (ps.zip ds ++ ρc) .none { s with heap := h₁, toks := tk } →
      wpAny (model Γ.prog Γ.w) (A.deeper env) (execs body env) (fun fl s' => Q (match fl with | .ret v => v | _ => .none) s') E0 { s with heap := h₁, toks := tk }) :
    wpAny (model Γ.prog Γ.w) A (call (.ref f) vs) Q E0 s := by
  obtain ⟨o, doc, pm, ctv, hfo, hfd⟩ := C.fn
  obtain ⟨oc, cvs, ct, hco, hcd, hcv⟩ := C.code
  unfold cloOkB at hk
  simp only [Bool.and_eq_true, Bool.not_eq_true'] at hk
  obtain ⟨⟨⟨⟨⟨⟨k1, k2⟩, k3⟩, k4⟩, k5⟩, k6⟩, k7⟩ := hk
  have hkind : scope.kind = .function := eq_of_beq k1
  have hlen : vs.length = ps.length := by rw [hv.length, hl]
  have hnod : ps.Nodup := of_decide_eq_true k7
  have loc : ∀ x ∈ ps, scope.names.lookup x = some .local := fun x hx => by simpa using List.all_eq_true.mp k6 x hx
  refine wpAny_call (codeAny_call_def (fd := fnX name qual params body scope cl .none .none doc pm none (.ref c') ctv) (body := body) (binds := ps.zip vs) rm.room (st _ hfo) hfd (let ⟨mc, x, y⟩ := ok.lim; ⟨mc, x.keeps base, y⟩) ⟨c', oc, cvs, ct, rfl, st _ hco, hcd, hcv⟩ rfl (.of_eq (hbind doc pm ctv hlen))
    (fun x hx => by simpa using List.all_eq_true.mp k4 x hx) (fun x hx => ?_) (fun h₁ hns kk => ?_) k2 k3 hkind)
  · have : x.1 ∈ (ps.zip vs).map (·.1) := List.mem_map.mpr ⟨x, hx, rfl⟩
    rw [zip_names hlen] at this
    exact loc _ this
  · generalize hL : s.heap.objs.size = L at *
    have Llive : ¬ Live s.heap L := hL ▸ not_live_size
    have old : Sub s.heap h₁ := kk
    have Xn : ∀ a ∈ [L], ¬ Live s.heap a := fun a ha => by simp at ha; subst ha; exact Llive
    have env_eq : callEnv (fnX name qual params body scope cl .none .none doc pm none (.ref c') ctv) L f = envX qual scope L f (.ref c') cl := rfl
    rw [env_eq]
    refine wpAny_mono (hbody (envX qual scope L f (.ref c') cl) h₁ (s.toks + (ps.zip vs).length) [L] rfl Xn old ?_) (fun fl s' q => q) fun _ _ q => q.elim
    refine ⟨⟨rm.deeper _, ⟨hkind, rfl, rfl, rfl⟩, base.trans old, fun b hb => ?_, fun x e hx => ?_, fun x c e => ?_⟩, ⟨⟨_, hns⟩, .head _, fun x hx => .inl (by simpa using List.all_eq_true.mp k5 x hx)⟩, fun b hb => List.mem_append.mpr (.inl hb), hg, ho.trans old, fun a ha q => Xn a ha (q.sub ho), List.mem_append.mpr (.inl (.head _)), fun q => Llive (q.sub ho), fun h => absurd rfl h, trivial⟩
    · rcases List.mem_append.mp hb with q | q
      · simp at q; subst q; obtain ⟨o, _, _, e, _⟩ := hns; exact ⟨o, e⟩
      · exact (live b q).sub old
    · have hd := hd_fresh (M := M) old Xn
      cases hz : (ps.zip ds).lookup x with
      | some d =>
        have e2 : e = d := by
          rw [lookup_append_some hz] at hx
          exact (Option.some.inj hx).symm
        subst e2
        obtain ⟨v, hm, i⟩ := zip_look hv hz
        have hxp : x ∈ ps := by
          have : x ∈ (ps.zip vs).map (·.1) := List.mem_map.mpr ⟨_, hm, rfl⟩
          rwa [zip_names hlen] at this
        exact ⟨v, .inl ⟨loc x hxp, _, hns, lookup_zip_rev hnod hlen hm⟩, i.keeps hd⟩
      | none =>
        rw [lookup_append_none hz] at hx
        obtain ⟨hfree, c, oc, v, h1, h2, h3, h4⟩ := hc.look x e hx
        exact ⟨v, .inr ⟨.inr hfree, c, h1, oc, old _ _ (st _ h2), h3⟩, h4.keeps hd⟩
    · obtain ⟨o, ho⟩ := C.cells x c e
      exact ⟨o, old _ _ (st _ ho)⟩
where
  lookup_append_some {a b : Ctx0} {x : Str} {d : D} (h : a.lookup x = some d) : (a ++ b).lookup x = some d := by
    induction a with
    | nil => simp at h
    | cons p r ih =>
      obtain ⟨y, e⟩ := p
      rw [List.lookup_cons] at h
      rw [List.cons_append, List.lookup_cons]
      cases hb : x == y with
      | true => rw [hb] at h; exact h
      | false => rw [hb] at h; exact ih h
  lookup_append_none {a b : Ctx0} {x : Str} (h : a.lookup x = none) : (a ++ b).lookup x = b.lookup x := by
    induction a with
    | nil => rfl
    | cons p r ih =>
      obtain ⟨y, e⟩ := p
      rw [List.lookup_cons] at h
      rw [List.cons_append, List.lookup_cons]
      cases hb : x == y with
      | true => rw [hb] at h; cases h
      | false => rw [hb] at h; exact ih h
end
end Mine
namespace Mine
open PySem PySem.Calls PySem.Spec PyProof.Rows PySem.W

section
variable {Γ : Gl} {k : Nat} {nm : List (Str × NameKind)} {ρ : Ctx0} {xs : List Str} {A : Around} {env : Env} {h₀ : Heap} {X : List Addr} {F : Addr} {M : List Addr} {μ : Mu} {s : Shared} {rest : List Stmt} {Q : Flow → Shared → Prop} {pos : Pos}

/-- the list under change took a new content, other new objects came -/
theorem FS.updK {x : Str} {ds : List D} (f : FS Γ k nm xs A env h₀ X F M ρ (.list x ds) s) {h' : Heap} {tk : Nat} (kp : KpX [F] s.heap h') {zs : Array Value} {es : List D} (hl : PlainL h' F zs) (hi : All2 (Is Γ (Hd M s.heap)) zs.toList es) :
    FS Γ k nm xs A env h₀ X F M ρ (.list x es) { s with heap := h', toks := tk } := by
  have lF : Live h' F := let ⟨o, _, e, _⟩ := hl; ⟨o, e⟩
  have lv : ∀ a, Live s.heap a → Live h' a := fun a q => kp.live (fun b hb => by simp at hb; subst hb; exact lF) q
  have hd : Sub (Hd M s.heap) (Hd M h') := kp.hd fun a q => by simp at q; subst q; exact f.fm
  obtain ⟨fx1, fx2⟩ := f.fx (by simp)
  have n1 : env.locals ∉ [F] := fun q => by simp at q; exact fx1 (q ▸ f.frm.loc)
  have n2 : ∀ y c, env.cells.lookup y = some c → c ∉ [F] := fun y c e q => by simp at q; exact fx2 y c e q
  have oo : Sub h₀ h' := fun b o e => kp b o (fun q => by simp at q; subst q; exact f.bf ⟨o, e⟩) (f.old b o e)
  exact ⟨⟨f.pre.rm, f.pre.en, f.gb.trans oo, fun a q => lv a (f.pre.live a q), fun y e hy => let ⟨w, r, i⟩ := f.pre.names y e hy; ⟨w, reach_off kp n1 n2 r, i.keeps hd⟩, fun y c e => lv c (f.pre.cells y c e)⟩, frm_off f.frm kp n1 n2, f.xm, f.gb, oo, f.bx, f.fm, f.bf,
    fun _ => f.fx (by simp), reach_off kp n1 n2 f.mu.1, zs, hl, hi.imp fun _ _ i => i.keeps hd⟩
theorem FS.setF {F' : Addr} (f : FS Γ k nm xs A env h₀ X F M ρ .none s) (fm : F' ∈ M) (bf : ¬ Live h₀ F') : FS Γ k nm xs A env h₀ X F' M ρ .none s := ⟨f.pre, f.frm, f.xm, f.gb, f.old, f.bx, fm, bf, fun h => absurd rfl h, trivial⟩
/-- a list that is reached by a name is the object under change -/
theorem FS.withlist {x : Str} {ds : List D} {ys : Array Value} (f : FS Γ k nm xs A env h₀ X F M ρ .none s) (hFX : F ∉ X) (hFc : ∀ x c, env.cells.lookup x = some c → c ≠ F) (r : Reach s.heap env x (.ref F)) (hl : PlainL s.heap F ys) (hi : All2 (Is Γ (Hd M s.heap)) ys.toList ds) :
    FS Γ k nm xs A env h₀ X F M ρ (.list x ds) s := ⟨f.pre, f.frm, f.xm, f.gb, f.old, f.bx, f.fm, f.bf, fun _ => ⟨hFX, hFc⟩, r, ys, hl, hi⟩

theorem all2_ints {h : Heap} : ∀ {vs : List Value} {ns : List Int}, All2 IntV vs ns → All2 (Is Γ h) vs (ns.map I)
  | _, [], .nil => .nil
  | _, _ :: _, .cons r q => .cons (is_int.mpr r) (all2_ints q)
theorem ints_all2 {h : Heap} : ∀ {vs : List Value} {ns : List Int}, All2 (Is Γ h) vs (ns.map I) → All2 IntV vs ns
  | _, [], .nil => .nil
  | _, _ :: _, .cons r q => .cons (is_int.mp r) (ints_all2 q)

/-- x[y] = e, the ints under change -/
theorem x_setint {x y : Str} {xp yp sp : Pos} {e : PySem.Expr} {ns : List Int} {v : Int} {i : Nat} (f : FS Γ k nm xs A env h₀ X F M ρ (.list x (ns.map I)) s) (he : Ev Γ k nm ρ e (I v)) (hy : ρ.lookup y = some (I (i : Int))) (hi : i < ns.length) (hs : ns.length ≤ 1000)
    (nx : (x == ("__classdict__" : Str)) = false) (dx : (x == ("__debug__" : Str)) = false) (ny : (y == ("__classdict__" : Str)) = false) (dy : (y == ("__debug__" : Str)) = false)
    (hsw : swapsWith e (some (.Subscript (.Name x xp) (.Name y yp) sp)) pos.line env = pure false)
    (h : ∀ h' tk, KpX (F :: X) s.heap h' → FS Γ k nm xs A env h₀ X F M ρ (.list x ((ns.set i v).map I)) { s with heap := h', toks := tk } → wpAny (model Γ.prog Γ.w) A (execs rest env) Q E0 { s with heap := h', toks := tk }) :
    wpAny (model Γ.prog Γ.w) A (execs (.Assign [.Subscript (.Name x xp) (.Name y yp) sp] e pos :: rest) env) Q E0 s := by
  refine wpAny_execs_cons (wpAny_Assign_Subscript (he A env _ s f.pre _ fun w h1 tk1 k1 iv => ?_) hsw)
  have f1 := f.sub (tk := tk1) k1
  obtain ⟨r1, ys, hl, hit⟩ := f1.mu
  refine wpAny_Name (load_reach f1.pre.en r1 nx ?_) dx
  obtain ⟨u, rw1, iw⟩ := f1.pre.names y _ hy
  obtain ⟨t, rfl⟩ := is_int.mp iw
  refine wpAny_Name (load_reach f1.pre.en rw1 ny ?_) dy
  have hz : ys.size = ns.length := by have := hit.length; rwa [Array.length_toList, List.length_map] at this
  refine setItem_plain hl (by omega) (by omega) fun h2 hl2 hs2 => ?_
  have kp : KpX [F] h1 h2 := sameBut_kpx hs2 (by simp)
  refine h h2 tk1 (fun b o n eo => kp b o (fun q => n (by simp at q; subst q; exact .head _)) (k1 b o eo)) (f1.upd (tk := tk1) hs2 hl2 ?_)
  have : (ns.set i v).map I = (ns.map I).set i (I v) := List.map_set
  rw [this, Array.toList_setIfInBounds]
  exact hit.set iv i

/-- return -/
theorem x_return0 (h : Q (.ret .none) s) : wpAny (model Γ.prog Γ.w) A (execs (.Return none pos :: rest) env) Q E0 s := wpAny_execs_cons (wpAny_Return_none h)

/-- f(..) as a statement: f a closure that changes the ints under change -/
theorem x_clo {x g : Str} {gp cp : Pos} {fa : Addr} {os : List (Addr × Obj)} {e : PySem.Expr} {es : List PySem.Expr} {ds : List D} {ns ms : List Int} {ρ' : Ctx0} {M' : List Addr} (f : FS Γ k nm xs A env h₀ X F M ρ (.list x (ns.map I)) s) (hg : ρ.lookup g = some (.fn fa os)) (hfo : ∃ o fd, (fa, o) ∈ os ∧ o.data = .func fd)
    (p : Pre Γ k nm ρ' A env M' s) (hs : Evs Γ k nm ρ' (e :: es) ds)
    (hint : ∀ d ∈ ds, ∃ i, d = I i)
    (hcall : ∀ s' vs, Sub s.heap s'.heap → Rm A k → Sub Γ.B s'.heap → Stand os s'.heap → All2 (fun v d => ∀ h, Is Γ h v d) vs ds → (∃ ys, PlainL s'.heap F ys ∧ All2 IntV ys.toList ns) → ∀ Q' : Value → Shared → Prop,
      (∀ h' tk ys, KpX [F] s'.heap h' → PlainL h' F ys → All2 IntV ys.toList ms → Q' .none { s' with heap := h', toks := tk }) → wpAny (model Γ.prog Γ.w) A (call (.ref fa) vs) Q' E0 s')
    (ng : (g == ("__classdict__" : Str)) = false) (dg : (g == ("__debug__" : Str)) = false) (hi : interactive env = false)
    (hpl : (backTo cp (starEach es env)).any (·.1) = false := by rfl) (he : starEach (e :: es) env = (false, eval e env) :: starEach es env := by rfl)
    (h : ∀ h' tk, KpX (F :: X) s.heap h' → FS Γ k nm xs A env h₀ X F M ρ (.list x (ms.map I)) { s with heap := h', toks := tk } → wpAny (model Γ.prog Γ.w) A (execs rest env) Q E0 { s with heap := h', toks := tk }) :
    wpAny (model Γ.prog Γ.w) A (execs (.Expr (.Call (.Name g gp) (e :: es) [] cp) pos :: rest) env) Q E0 s := by
  obtain ⟨w, rw1, iw⟩ := f.pre.names g _ hg
  obtain ⟨rfl, so⟩ := iw
  obtain ⟨o, fd, hm, hfd⟩ := hfo
  have so' : Stand os s.heap := fun q hq => hd_sub M _ _ _ (so q hq)
  refine wpAny_execs_cons (wpAny_Expr ?_ hi (by rfl))
  refine Call_ (wpAny_Name (load_reach f.pre.en rw1 ng ?_) dg) (by rfl)
  refine callWith_F (by
    have e1 := so' _ hm
    obtain ⟨c, dd, dat, sl⟩ := o
    simp only at hfd
    subst hfd
    exact ⟨_, _, _, _, e1⟩) (hs A env M' s cp p _ fun vs h1 tk1 k1 iv => ?_) he hpl
  have f1 := f.sub (tk := tk1) k1
  refine ⟨?_, ?_⟩
  · have e1 := k1 _ _ (so' _ hm)
    obtain ⟨c, dd, dat, sl⟩ := o
    simp only at hfd
    subst hfd
    exact ⟨_, _, _, _, e1⟩
  · obtain ⟨r1, ys, hl, hit⟩ := f1.mu
    refine hcall { s with heap := h1, toks := tk1 } vs k1 f.pre.rm f1.pre.base (fun q hq => k1 _ _ (so' q hq)) ?_ ⟨ys, hl, ints_all2 hit⟩ _ fun h2 tk2 zs k2 hl2 hz => ?_
    · have : ∀ {vs : List Value} {ds : List D}, All2 (Is Γ (Hd M' h1)) vs ds → (∀ d ∈ ds, ∃ i, d = I i) → All2 (fun v d => ∀ h, Is Γ h v d) vs ds := by
        intro vs ds q
        induction q with
        | nil => intro _; exact .nil
        | cons r _ ih =>
          intro hd
          obtain ⟨i, hi⟩ := hd _ (.head _)
          subst hi
          exact .cons (fun h => is_int.mpr (is_int.mp r)) (ih fun d hd' => hd d (.tail _ hd'))
      exact this iv hint
    · exact h h2 tk2 (fun b o n eo => k2 b o (fun q => n (by simp at q; subst q; exact .head _)) (k1 b o eo)) (f1.updK (tk := tk2) k2 hl2 (all2_ints hz))
end

section
variable {Γ : Gl} {k : Nat} {nm : List (Str × NameKind)} {ρ : Ctx0}
/-- a call of a closure, that changes nothing -/
theorem ev_clo {g : Str} {gp cp : Pos} {fa : Addr} {os : List (Addr × Obj)} {e : PySem.Expr} {es : List PySem.Expr} {ds : List D} {r : D} (hg : ρ.lookup g = some (.fn fa os)) (hfo : ∃ o fd, (fa, o) ∈ os ∧ o.data = .func fd) (hs : Evs Γ k nm ρ (e :: es) ds)
    (hcall : ∀ A M s vs, Rm A k → Sub Γ.B s.heap → (∀ a ∈ M, Live s.heap a) → Stand os (Hd M s.heap) → All2 (Is Γ (Hd M s.heap)) vs ds → ∀ Q' : Value → Shared → Prop,
      (∀ v h' tk, Sub s.heap h' → Is Γ (Hd M h') v r → Q' v { s with heap := h', toks := tk }) → wpAny (model Γ.prog Γ.w) A (call (.ref fa) vs) Q' E0 s)
    (ng : (g == ("__classdict__" : Str)) = false := by decide +kernel) (dg : (g == ("__debug__" : Str)) = false := by decide +kernel)
    (hpl : ∀ env, (backTo cp (starEach es env)).any (·.1) = false := by intro _; rfl) (he : ∀ env, starEach (e :: es) env = (false, eval e env) :: starEach es env := by intro _; rfl) :
    Ev Γ k nm ρ (.Call (.Name g gp) (e :: es) [] cp) r := by
  intro A env M s p Q hQ
  obtain ⟨w, rw1, iw⟩ := p.names g _ hg
  obtain ⟨rfl, so⟩ := iw
  obtain ⟨o, fd, hm, hfd⟩ := hfo
  have so' : Stand os s.heap := fun q hq => hd_sub M _ _ _ (so q hq)
  refine Call_ (wpAny_Name (load_reach p.en rw1 ng ?_) dg) (by rfl)
  refine callWith_F (by
    have e1 := so' _ hm
    obtain ⟨c, dd, dat, sl⟩ := o
    simp only at hfd
    subst hfd
    exact ⟨_, _, _, _, e1⟩) (hs A env M s cp p _ fun vs h1 tk1 k1 iv => ⟨?_, ?_⟩) (he env) (hpl env)
  · have e1 := k1 _ _ (so' _ hm)
    obtain ⟨c, dd, dat, sl⟩ := o
    simp only at hfd
    subst hfd
    exact ⟨_, _, _, _, e1⟩
  · have p1 := p.keeps (tk := tk1) k1
    exact hcall A M { s with heap := h1, toks := tk1 } vs p.rm p1.base p1.live (fun q hq => hd_sub_sub k1 _ _ (so q hq)) iv _ fun v h2 tk2 k2 i2 => hQ v h2 tk2 (k1.trans k2) i2
end
end Mine
namespace Mine
open PySem PySem.Calls PySem.Spec PyProof.Rows PySem.W

def dBody : Option Stmt → List Stmt
  | some (.FunctionDef _ _ b ..) => b
  | _ => []
def dParams : Option Stmt → Arguments
  | some (.FunctionDef _ a ..) => a
  | _ => ⟨[], [], none, [], [], none, []⟩
def dScope : Option Stmt → Scope
  | some (.FunctionDef _ _ _ _ _ _ s ..) => s
  | _ => { kind := .function, names := [], isGenerator := false, isCoroutine := false }
theorem ar_eq {l r : Nat} : ((l : Int) + 1 == (r : Int)) = true ↔ l + 1 = r := by rw [beq_iff_eq]; omega
theorem ar_fdiv (l r : Nat) : ((l : Int) + r).fdiv (2 ^ (1 : Int).toNat) = (((l + r) / 2 : Nat) : Int) := by
  show ((l : Int) + r).fdiv 2 = _
  rw [Int.fdiv_eq_ediv_of_nonneg _ (by decide)]
  rfl
theorem ar_mid {l r m : Nat} (h1 : l < r) (h2 : ¬ l + 1 = r) (h3 : r - l ≤ m + 1) : l < (l + r) / 2 ∧ (l + r) / 2 < r ∧ (l + r) / 2 - l ≤ m ∧ r - (l + r) / 2 ≤ m := by omega
theorem ar_sh {l mid : Nat} (h : l < mid) : ((mid : Int) - l) * 1 = ((mid - l : Nat) : Int) := by omega
theorem ar_le {l mid r n : Nat} (h : mid < r) (hr : r ≤ n) (hn : n ≤ 100) : ((mid - l : Nat) : Int) ≤ 1000000 := by omega
theorem ar_abs {x : Int} (h0 : 0 ≤ x) (h1 : x < 2 ^ 20) : x.natAbs < 2 ^ 64 := by omega
theorem ar_no {l r : Nat} (h1 : l < r) (h2 : r - l ≤ 0) : False := Nat.not_lt.mpr (Nat.le_of_sub_eq_zero (Nat.le_zero.mp h2)) h1
def digDef : Option Stmt := (bodyAt P01 4)[1]?

def digUp (x : Int) (s : Nat) : Int := x.fdiv (2 ^ s)
def digLo (x : Int) (s : Nat) : Int := Builtin.bitXor x (digUp x s * 2 ^ s)
def dig : Nat → List Int → Int → Nat → Nat → List Int
  | 0, ns, _, _, _ => ns
  | m + 1, ns, x, l, r => if l + 1 = r then ns.set l x else dig m (dig m ns (digLo x ((l + r) / 2 - l)) l ((l + r) / 2)) (digUp x ((l + r) / 2 - l)) ((l + r) / 2) r
theorem dig_len : ∀ (m : Nat) (ns : List Int) (x : Int) (l r : Nat), (dig m ns x l r).length = ns.length
  | 0, ns, x, l, r => rfl
  | m + 1, ns, x, l, r => by
    unfold dig
    split
    · rw [List.length_set]
    · rw [dig_len m, dig_len m]
theorem digUp_small {x : Int} {s : Nat} (h0 : 0 ≤ x) (h1 : x < 2 ^ 20) : 0 ≤ digUp x s ∧ digUp x s < 2 ^ 20 ∧ 0 ≤ digUp x s * 2 ^ s ∧ digUp x s * 2 ^ s < 2 ^ 20 := by
  unfold digUp
  have hp : (0 : Int) < 2 ^ s := Int.pow_pos (by decide)
  have e : x.fdiv (2 ^ s) = x / 2 ^ s := Int.fdiv_eq_ediv_of_nonneg x (Int.le_of_lt hp)
  rw [e]
  have h2 : 0 ≤ x / 2 ^ s := Int.ediv_nonneg h0 (Int.le_of_lt hp)
  have h3 : x / 2 ^ s * 2 ^ s ≤ x := Int.ediv_mul_le x (Int.ne_of_gt hp)
  have h4 : x / 2 ^ s ≤ x / 2 ^ s * 2 ^ s := by
    have : (x / 2 ^ s) * 1 ≤ x / 2 ^ s * 2 ^ s := Int.mul_le_mul_of_nonneg_left hp h2
    rwa [Int.mul_one] at this
  have h5 : 0 ≤ x / 2 ^ s * 2 ^ s := Int.mul_nonneg h2 (Int.le_of_lt hp)
  exact ⟨h2, by omega, h5, by omega⟩

theorem bitAnd_nat {x y : Int} (hx : 0 ≤ x) (hy : 0 ≤ y) : Builtin.bitAnd x y = ((x.toNat &&& y.toNat : Nat) : Int) := by
  unfold Builtin.bitAnd
  rw [decide_eq_true hx, decide_eq_true hy]
theorem bitOr_nat {x y : Int} (hx : 0 ≤ x) (hy : 0 ≤ y) : Builtin.bitOr x y = ((x.toNat ||| y.toNat : Nat) : Int) := by
  unfold Builtin.bitOr Builtin.bitAnd
  have e1 : decide (0 ≤ Builtin.bitNot x) = false := decide_eq_false (by unfold Builtin.bitNot; omega)
  have e2 : decide (0 ≤ Builtin.bitNot y) = false := decide_eq_false (by unfold Builtin.bitNot; omega)
  rw [e1, e2]
  have f1 : Builtin.bitNot (Builtin.bitNot x) = x := by unfold Builtin.bitNot; omega
  have f2 : Builtin.bitNot (Builtin.bitNot y) = y := by unfold Builtin.bitNot; omega
  show Builtin.bitNot (Builtin.bitNot _) = _
  rw [f1, f2]
  unfold Builtin.bitNot
  omega
theorem bitXor_small {x y : Int} (hx : 0 ≤ x) (hx2 : x < 2 ^ 20) (hy : 0 ≤ y) (hy2 : y < 2 ^ 20) : 0 ≤ Builtin.bitXor x y ∧ Builtin.bitXor x y < 2 ^ 20 := by
  unfold Builtin.bitXor
  rw [bitAnd_nat hx hy, bitOr_nat hx hy]
  have h1 : x.toNat ||| y.toNat < 2 ^ 20 := Nat.or_lt_two_pow (by omega) (by omega)
  have h2 : x.toNat &&& y.toNat ≤ x.toNat := Nat.and_le_left
  have h3 : x.toNat ≤ x.toNat ||| y.toNat := Nat.left_le_or
  omega
theorem digLo_small {x : Int} {s : Nat} (h0 : 0 ≤ x) (h1 : x < 2 ^ 20) : 0 ≤ digLo x s ∧ digLo x s < 2 ^ 20 := by
  obtain ⟨_, _, a, b⟩ := digUp_small (s := s) h0 h1
  exact bitXor_small h0 h1 a b

/-- the def inner of _int2digits, as it stands, n = 1 -/
structure DigAt (os : List (Addr × Obj)) (f F c' cA cI cN : Addr) (qual : Str) (cl : List (Str × Addr)) : Prop where
  clo : CloAt os f "inner" qual (dParams digDef) (dBody digDef) (dScope digDef) cl c'
  off : ∀ p ∈ os, p.1 ≠ F
  la : cl.lookup ("a_digits" : Str) = some cA
  li : cl.lookup ("inner" : Str) = some cI
  ln : cl.lookup ("n" : Str) = some cN
  oa : ∃ o, (cA, o) ∈ os ∧ o.data = .cell (some (.ref F))
  oi : ∃ o, (cI, o) ∈ os ∧ o.data = .cell (some (.ref f))
  on : ∃ o t, (cN, o) ∈ os ∧ o.data = .cell (some (.int 1 t))

section
variable {Γ : Gl}
theorem stand_hd {os : List (Addr × Obj)} {h : Heap} {M : List Addr} (s : Stand os h) (n : ∀ p ∈ os, p.1 ∉ M) : Stand os (Hd M h) := fun p hp => hd_get (s p hp) (n p hp)

theorem inner_dig {os : List (Addr × Obj)} {f F c' cA cI cN : Addr} {qual : Str} {cl : List (Str × Addr)} (ok : Γ.Ok) (C : DigAt os f F c' cA cI cN qual cl) (bF : ¬ Live Γ.B F) : ∀ (m : Nat) (A : Around) (s : Shared) (x : Int) (l r : Nat) (ns : List Int) (ys : Array Value) (vs : List Value),
    Rm A (m + 1) → Sub Γ.B s.heap → Stand os s.heap → PlainL s.heap F ys → All2 IntV ys.toList ns → All2 (fun v d => ∀ h, Is Γ h v d) vs [I x, I l, I r] → 0 ≤ x → x < 2 ^ 20 → l < r → r - l ≤ m → r ≤ ns.length → ns.length ≤ 100 → ∀ Q : Value → Shared → Prop,
    (∀ h' tk zs, KpX [F] s.heap h' → PlainL h' F zs → All2 IntV zs.toList (dig m ns x l r) → Q .none { s with heap := h', toks := tk }) → wpAny (model Γ.prog Γ.w) A (call (.ref f) vs) Q E0 s := by
  intro m
  induction m with
  | zero => intro A s x l r ns ys vs _ _ _ _ _ _ _ _ h1 h2; exact (ar_no h1 h2).elim
  | succ m ih =>
    intro A s x l r ns ys vs rm base st hl hn hv hx0 hx1 hlr hm hr hns Q hQ
    have lF : Live s.heap F := let ⟨o, _, e, _⟩ := hl; ⟨o, e⟩
    obtain ⟨oA, hA1, hA2⟩ := C.oa
    obtain ⟨oI, hI1, hI2⟩ := C.oi
    obtain ⟨oN, tN, hN1, hN2⟩ := C.on
    have offF : ∀ p ∈ os, p.1 ∉ [F] := fun p hp q => C.off p hp (by simpa using q)
    refine clo_call (k := m + 1) (ps := ["x", "L", "R"]) (xs := ["mid", "shift", "upper", "lower"]) (ds := [I x, I l, I r]) (ρc := [("inner", .fn f os), ("n", I 1)]) (h₀ := Γ.B) (M := [F]) ok C.clo st rm base (Sub.refl _) base (fun a ha => by simp at ha; subst ha; exact lF)
      (hv.imp fun v d q => q _) rfl (by rfl) (fun doc pm ctv hl => ?_) ⟨⟨by rfl, cI, oI, _, C.li, hI1, hI2, rfl, stand_hd st offF⟩, ⟨by rfl, cN, oN, _, C.ln, hN1, hN2, is_int.mpr ⟨tN, rfl⟩⟩, trivial⟩ fun env h1 tk1 X hcl hX k1 f0 => ?_
    · match vs, hl with
      | [v, w, u], _ => rfl
    · have kF : PlainL h1 F ys := hl.keeps k1
      have st1 : Stand os h1 := fun p hp => k1 _ _ (st p hp)
      have fnF : ∃ o fd, (f, o) ∈ os ∧ o.data = .func fd := let ⟨o, _, _, _, q1, q2⟩ := C.clo.fn; ⟨o, _, q1, q2⟩
      have inter := fs_inter f0
      have f0' := f0.setF (F' := F) (by simp) bF
      have f1 := f0'.withlist (x := "a_digits") (ds := ns.map I) (ys := ys) (fun q => hX F q lF) (fun y c e => by rw [hcl] at e; obtain ⟨o, ho⟩ := C.clo.cells y c e; exact C.off _ ho)
        (.inr ⟨.inr (by rw [f0.pre.en.kindOf]; rfl), cA, by rw [hcl]; exact C.la, oA, st1 _ hA1, hA2⟩) kF (all2_ints hn)
      have fin : ∀ h' tk zs ms, KpX (F :: X) h1 h' → PlainL h' F zs → All2 IntV zs.toList ms → ms = dig (m + 1) ns x l r → Q .none { s with heap := h', toks := tk } := fun h' tk zs ms kk hl' hz e => by
        subst e
        refine hQ h' tk zs (fun b o n eo => kk b o (fun q => ?_) (k1 b o eo)) hl' hz
        rcases List.mem_cons.mp q with q | q
        · exact n (by simp [q])
        · exact hX b q ⟨o, eo⟩
      refine x_if (b := ((l : Int) + 1 == (r : Int))) f1 (et_cmp (ev_bin (ev_name (d := I l) rfl) ev_int bi_add) (ev_name (d := I r) rfl) cm_eq_int) (fun hb h2 tk2 k2 f2 => ?_) fun hb h2 tk2 k2 f2 => ?_
      · have hb' : l + 1 = r := ar_eq.mp hb
        refine x_setint (x := "a_digits") (y := "L") (v := x) (i := l) f2 (ev_name rfl) rfl (Nat.le_trans (Nat.le_of_eq hb') hr) (Nat.le_trans hns (by decide)) (by decide +kernel) (by decide +kernel) (by decide +kernel) (by decide +kernel) (by rfl) fun h3 tk3 k3 f3 => ?_
        refine x_return0 ?_
        obtain ⟨_, zs, hl3, hz⟩ := f3.mu
        exact fin h3 tk3 zs _ (k2.kpx.trans k3) hl3 (ints_all2 hz) (by unfold dig; rw [if_pos hb'])
      · have hb' : ¬ l + 1 = r := fun q => by rw [ar_eq.mpr q] at hb; cases hb
        refine wpAny_execs_nil ?_
        have emid := ar_fdiv l r
        obtain ⟨hmid1, hmid2, hmid3, hmid4⟩ := ar_mid hlr hb' hm
        generalize hM : (l + r) / 2 = mid at *
        refine x_assign (x := "mid") (d := I mid) f2 (ev_eq (ev_bin (ev_bin (ev_name (d := I l) rfl) (ev_name (d := I r) rfl) bi_add) (ev_int (i := 1)) (bi_shr (by decide))) (by rw [emid])) (by simp) (by intro q; cases q) (fun _ _ => by rfl) fun h3 tk3 k3 f3 => ?_
        have esh := ar_sh hmid1
        refine x_assign (x := "shift") (d := I ((mid - l : Nat) : Int)) f3 (ev_eq (ev_bin (ev_bin (ev_name (d := I mid) rfl) (ev_name (d := I l) rfl) bi_sub) (ev_name (d := I 1) rfl) (bi_mul (.of_right (by decide)))) (by rw [esh])) (by simp) (by intro q; cases q) (fun _ _ => by rfl) fun h4 tk4 k4 f4 => ?_
        obtain ⟨u1, u2, u3, u4⟩ := digUp_small (s := mid - l) hx0 hx1
        obtain ⟨w1, w2⟩ := digLo_small (s := mid - l) hx0 hx1
        have esn : (((mid - l : Nat) : Int)).toNat = mid - l := Int.toNat_natCast _
        refine x_assign (x := "upper") (d := I (digUp x (mid - l))) f4 (ev_eq (ev_bin (ev_name (d := I x) rfl) (ev_name (d := I ((mid - l : Nat) : Int)) rfl) (bi_shr (Int.natCast_nonneg _))) (by rw [esn]; rfl)) (by simp) (by intro q; cases q) (fun _ _ => by rfl) fun h5 tk5 k5 f5 => ?_
        refine x_assign (x := "lower") (d := I (digLo x (mid - l))) f5 (ev_eq (ev_bin (ev_name (d := I x) rfl) (ev_bin (ev_name (d := I (digUp x (mid - l))) rfl) (ev_name (d := I ((mid - l : Nat) : Int)) rfl) (bi_shl (Int.natCast_nonneg _) (ar_le hmid2 hr hns) (ar_abs u1 u2))) bi_xor) (by rw [esn]; rfl)) (by simp) (by intro q; cases q) (fun _ _ => by rfl) fun h6 tk6 k6 f6 => ?_
        refine x_clo (x := "a_digits") (g := "inner") (fa := f) (os := os) (ns := ns) (ms := dig m ns (digLo x (mid - l)) l mid) (ds := [I (digLo x (mid - l)), I l, I mid]) f6 rfl fnF f6.pre (evs_cons (ev_name rfl) (evs_cons (ev_name rfl) (evs_cons (ev_name rfl) evs_nil))) (fun d hd => by
            simp only [List.mem_cons, List.not_mem_nil, or_false] at hd
            rcases hd with rfl | rfl | rfl <;> exact ⟨_, rfl⟩)
          (fun s' vs' q1 q2 q3 q4 q5 ⟨ys', q6, q7⟩ Q' hQ' => ih _ s' _ _ _ ns ys' vs' q2 q3 q4 q6 q7 q5 w1 w2 hmid1 hmid3 (Nat.le_trans (Nat.le_of_lt hmid2) hr) hns Q' hQ') (by decide +kernel) (by decide +kernel) inter rfl rfl fun h7 tk7 k7 f7 => ?_
        refine x_clo (x := "a_digits") (g := "inner") (fa := f) (os := os) (ns := dig m ns (digLo x (mid - l)) l mid) (ms := dig m (dig m ns (digLo x (mid - l)) l mid) (digUp x (mid - l)) mid r) (ds := [I (digUp x (mid - l)), I mid, I r]) f7 rfl fnF f7.pre (evs_cons (ev_name rfl) (evs_cons (ev_name rfl) (evs_cons (ev_name rfl) evs_nil))) (fun d hd => by
            simp only [List.mem_cons, List.not_mem_nil, or_false] at hd
            rcases hd with rfl | rfl | rfl <;> exact ⟨_, rfl⟩)
          (fun s' vs' q1 q2 q3 q4 q5 ⟨ys', q6, q7⟩ Q' hQ' => ih _ s' _ _ _ _ ys' vs' q2 q3 q4 q6 q7 q5 u1 u2 hmid2 hmid4 (by rw [dig_len]; exact hr) (by rw [dig_len]; exact hns) Q' hQ') (by decide +kernel) (by decide +kernel) inter rfl rfl fun h8 tk8 k8 f8 => ?_
        obtain ⟨_, zs, hl8, hz⟩ := f8.mu
        exact wpAny_execs_nil (fin h8 tk8 zs _ ((((((k2.kpx.trans k3).trans k4).trans k5).trans k6).trans k7).trans k8) hl8 (ints_all2 hz) (by rw [dig, if_neg hb', hM]))
end
end Mine
namespace Mine
open PySem PySem.Calls PySem.Spec PyProof.Rows PySem.W

/-- a def of the module, its code's record known -/
structure DefC (Γ : Gl) (a : Addr) (name : Str) (params : Arguments) (body : List Stmt) (scope : Scope) (cd : Value) : Prop where
  at_ : ∃ o pm doc, Γ.B.get? a = some o ∧ o.data = .func (docDef name params body scope pm cd doc) ∧ Γ.B.CodeRec cd name

section
variable {Γ : Gl} {k : Nat}
theorem call_frame {a : Addr} {name : Str} {params : Arguments} {body : List Stmt} {scope : Scope} {cd : Value} {ps xs : List Str} {ds : List D} {A : Around} {M : List Addr} {s : Shared} {vs : List Value} {h₀ : Heap} {Q : Value → Shared → Prop} (gok : Γ.Ok) (d : DefC Γ a name params body scope cd) (hk : defOkB scope ps xs = true) (hl : ps.length = ds.length)
    (hbind : ∀ pm doc, vs.length = ps.length → bindArgs (docDef name params body scope pm cd doc) ⟨vs, []⟩ = pure (ps.zip vs))
    (rm : Rm A (k + 1)) (base : Sub Γ.B s.heap) (hg : Sub Γ.B h₀) (ho₀ : Sub h₀ s.heap) (live : ∀ a ∈ M, Live s.heap a) (hvs : All2 (Is Γ (Hd M s.heap)) vs ds)
    (hbody : ∀ env h₁ tk X, env.code = cd → (∀ x, scope.names.lookup x = some .cell → (x, NameKind.cell) ∈ scope.names → ∃ c, env.cells.lookup x = some c) → (∀ x c, env.cells.lookup x = some c → c ∈ X) → (∀ b ∈ X, ¬ Live s.heap b) → Sub s.heap h₁ → FS Γ k scope.names xs (A.deeper env) env h₀ X env.locals (X ++ M) (ps.zip ds) .none { s with heap := h₁, toks := tk } →
      wpAny (model Γ.prog Γ.w) (A.deeper env) (execs body env) (fun fl s' => Q (match fl with | .ret v => v | _ => .none) s') E0 { s with heap := h₁, toks := tk }) :
    wpAny (model Γ.prog Γ.w) A (call (.ref a) vs) Q E0 s := by
  obtain ⟨o, pm, doc, ho, hd, hc⟩ := d.at_
  unfold defOkB at hk
  simp only [Bool.and_eq_true, Bool.not_eq_true'] at hk
  obtain ⟨⟨⟨⟨⟨⟨k1, k2⟩, k3⟩, k4⟩, k5⟩, k6⟩, k7⟩ := hk
  have hkind : scope.kind = .function := eq_of_beq k1
  have hlen : vs.length = ps.length := by rw [hvs.length, hl]
  have hnod : ps.Nodup := of_decide_eq_true k6
  have own : ∀ x, (x ∈ ps ∨ x ∈ xs) → scope.names.lookup x = some .local ∨ (scope.names.lookup x = some .cell ∧ (x, NameKind.cell) ∈ scope.names) := fun x hx => by
    rcases hx with hx | hx
    · have := List.all_eq_true.mp k5 x hx
      simpa [List.contains_iff_mem] using this
    · have := List.all_eq_true.mp k4 x hx
      simpa [List.contains_iff_mem] using this
  have cellAt : ∀ x n, (x, NameKind.cell) ∈ scope.names → ∃ c, (cellsFrom n scope.names []).lookup x = some c := fun x n h => let ⟨c0, h0⟩ := cellsFrom_has scope.names n x h; lookup_mem_some h0
  refine wpAny_call (call_cells_ret (A := A) rm.room (base _ _ ho) hd (let ⟨mc, x, y⟩ := gok.lim; ⟨mc, x.keeps base, y⟩) (hc.keeps base) (hbind pm doc hlen) (fun x hx => ?_) (fun h₁ tk F C => ?_) k2 k3 hkind)
  · have hx' : x.1 ∈ ps := by
      have : x.1 ∈ (ps.zip vs).map (·.1) := List.mem_map.mpr ⟨x, hx, rfl⟩
      rwa [zip_names hlen] at this
    rcases own x.1 (.inl hx') with q | ⟨q1, q2⟩
    · exact .inl q
    · obtain ⟨c, hc⟩ := cellAt x.1 (s.heap.objs.size + 1) q2
      exact .inr ⟨q1, by rw [hc]; rfl⟩
  · generalize hL : s.heap.objs.size = L at *
    generalize hcs : cellsFrom (L + 1) scope.names [] = cs at *
    have Llive : ¬ Live s.heap L := hL ▸ not_live_size
    have cnot : ∀ n c, (n, c) ∈ cs → ¬ Live s.heap c := fun n c h q => by
      have h1 : @LT.lt Nat _ L c := C.above n c h
      have h2 : @LT.lt Nat _ c s.heap.objs.size := live_lt q
      omega
    have old : Sub s.heap h₁ := F.keep
    have Xn : ∀ a ∈ L :: cs.map (·.2), ¬ Live s.heap a := fun a ha => by
      rcases List.mem_cons.mp ha with q | q
      · subst q; exact Llive
      · obtain ⟨⟨n, c⟩, h, rfl⟩ := List.mem_map.mp q; exact cnot n c h
    have lcell : ∀ n c, cs.lookup n = some c → Live h₁ c := fun n c e => let ⟨o, q, _⟩ := C.cell n c e; ⟨o, q⟩
    have cellsNd : ∀ n c, (n, c) ∈ cs → Live h₁ c := fun n c h =>
      lcell n c (lookup_of_mem_nodup (by rw [← hcs, cellsFrom_names scope.names (L + 1) 0 [] [] rfl]; exact of_decide_eq_true k7) h)
    have fs : FS Γ k scope.names xs (A.deeper (envOfC name scope L a cd)) (envOfC name scope L a cd) h₀ (L :: cs.map (·.2)) L ((L :: cs.map (·.2)) ++ M) (ps.zip ds) .none { s with heap := h₁, toks := tk } := by
      refine ⟨⟨rm.deeper _, ⟨hkind, rfl, rfl, rfl⟩, base.trans old, fun b hb => ?_, fun x e hx => ?_, fun x c e => lcell x c (by rw [← hcs]; exact e)⟩, ⟨⟨_, F.ns⟩, .head _, fun x hx => ?_⟩, fun b hb => List.mem_append.mpr (.inl hb), hg, ho₀.trans old, fun b hb q => Xn b hb (q.sub ho₀), List.mem_append.mpr (.inl (.head _)), fun q => Llive (q.sub ho₀), fun h => absurd rfl h, trivial⟩
      · rcases List.mem_append.mp hb with q | q
        · rcases List.mem_cons.mp q with q | q
          · subst q; obtain ⟨o, _, _, e, _⟩ := F.ns; exact ⟨o, e⟩
          · obtain ⟨⟨n, c⟩, h, rfl⟩ := List.mem_map.mp q; exact cellsNd n c h
        · exact (live b q).sub old
      · obtain ⟨v, hv, i⟩ := zip_look hvs hx
        have hxp : x ∈ ps := by
          have : x ∈ (ps.zip vs).map (·.1) := List.mem_map.mpr ⟨_, hv, rfl⟩
          rwa [zip_names hlen] at this
        have hn2 : ((ps.zip vs).map (·.1)).Nodup := by rw [zip_names hlen]; exact hnod
        refine ⟨v, ?_, i.keeps (hd_fresh old Xn)⟩
        rcases own x (.inl hxp) with q | ⟨q1, q2⟩
        · exact .inl ⟨q, _, F.ns, bindL_on hn2 hv q⟩
        · obtain ⟨c, hc⟩ := cellAt x (L + 1) q2
          refine .inr ⟨.inl q1, c, hc, ?_⟩
          have := C.cell x c (by rw [← hcs]; exact hc)
          rwa [bindC_on hn2 hv (by show scope.names.lookup x ≠ _; rw [q1]; simp)] at this
      · rcases own x (.inr hx) with q | ⟨q1, q2⟩
        · exact .inl q
        · obtain ⟨c, hc⟩ := cellAt x (L + 1) q2
          have hc' : cs.lookup x = some c := by rw [← hcs]; exact hc
          refine .inr ⟨q1, c, hc, .tail _ (List.mem_map.mpr ⟨_, mem_of_lookup hc', rfl⟩), ⟨_, C.cell x c hc'⟩, fun y hy => name_of_addr C.apart (mem_of_lookup (by rw [← hcs]; exact hy)) (mem_of_lookup hc')⟩
    exact hbody _ h₁ tk _ rfl (fun x _ hx => cellAt x (L + 1) hx) (fun x c e => .tail _ (List.mem_map.mpr ⟨(x, c), mem_of_lookup (by rw [← hcs]; exact e), rfl⟩)) Xn old fs
end

section
variable {Γ : Gl} {k : Nat} {nm : List (Str × NameKind)} {ρ : Ctx0}
/-- e.bit_length() -/
theorem ev_bits {e : PySem.Expr} {ap cp : Pos} {i : Int} (h : Ev Γ k nm ρ e (I i)) (hbase : ∀ env, attributeBase e "bit_length" env (eval e env) = eval e env) (hline : (ap.endLine == cp.line) = true) : Ev Γ k nm ρ (.Call (.Attribute e "bit_length" ap) [] [] cp) (I (Builtin.Int.intBits i : Int)) := by
  intro A env M s p Q hQ
  refine wpAny_Call_method (T := "int") (id := "int.bit_length") (hbase env) rfl hline F.plainAttrs_int slot_int_bit_length type_int_bit_length (h A env M s p _ fun v h1 tk1 k1 iv => ?_)
  obtain ⟨t, rfl⟩ := is_int.mp iv
  refine ⟨typeIs_int _ _ _, (fun a e => by cases e), ?_⟩
  show wpAny _ _ (callWith cp (.builtin "int.bit_length") [.int i t] [] []) _ _ _
  refine Calls.callWith_builtin rfl (PySem.evalArgs_none ?_)
  exact call_int_bit_length (hQ _ h1 _ k1 (is_int.mpr ⟨_, rfl⟩))
end

section
variable {Γ : Gl} {k : Nat} {nm : List (Str × NameKind)} {ρ : Ctx0} {xs : List Str} {A : Around} {env : Env} {h₀ : Heap} {X : List Addr} {F : Addr} {M : List Addr} {μ : Mu} {s : Shared} {rest : List Stmt} {Q : Flow → Shared → Prop} {pos : Pos}

/-- x = [v] * n, a list to be changed -/
theorem x_new_rep {F0 : Addr} {x : Str} {xp lp bp : Pos} {c : PySem.Expr} {e : PySem.Expr} {v n : Int} (f : FS Γ k nm xs A env h₀ X F0 M ρ .none s) (hx : x ∈ xs) (hρ : ρ.lookup x = none) (hc : Ev Γ k nm ρ c (I v)) (he : Ev Γ k nm ρ e (I n)) (h0 : 0 ≤ n) (hn : n ≤ 1000)
    (hst : ∀ env, starEach [c] env = (false, eval c env) :: starEach [] env)
    (h : ∀ D0 h' tk, D0 ∉ M → ¬ Live s.heap D0 → KpX X s.heap h' → FS Γ k nm xs A env h₀ X D0 (D0 :: M) ρ (.list x ((List.replicate n.toNat v).map I)) { s with heap := h', toks := tk } → wpAny (model Γ.prog Γ.w) A (execs rest env) Q E0 { s with heap := h', toks := tk }) :
    wpAny (model Γ.prog Γ.w) A (execs (.Assign [.Name x xp] (.BinOp (.List [c] lp) .Mult e bp) pos :: rest) env) Q E0 s := by
  refine wpAny_execs_cons (wpAny_Assign_Name ?_ (by rfl))
  refine wpAny_BinOp (ev_list (ps := [.int v]) (evs_cons hc evs_nil hst) rfl (by simp only [List.length_cons, List.length_nil]; exact Nat.le_of_ble_eq_true rfl) A env M s f.pre _ fun w h1 tk1 k1 iw => he A env M _ (f.pre.keeps k1) _ fun u h2 tk2 k2 iu => ?_)
  obtain ⟨a, vs, rfl, hl, q⟩ := is_list.mp (iw.keeps (hd_sub_sub k2))
  obtain ⟨t, rfl⟩ := is_int.mp iu
  obtain ⟨⟨cls, dd, data, sl⟩, ho, hcl, e0, hd⟩ := isList_sub (hd_sub M h2) hl
  simp only at hcl hd
  subst hcl hd
  have e1 := q.length
  rw [Array.length_toList] at e1
  have hz : vs.size = 1 := by simpa using e1
  have k12 := Sub.trans k1 k2
  refine wpAny_binaryOp_repeat_ref (s := { s with heap := h2, toks := tk2 }) (T := "list") (U := "int") (by decide) ⟨_, ho, rfl⟩ (fun s' => typeIs_int s' n t) noFill_list_mul PySem.F.fills_int_mul PySem.F.slot_int_rmul repeat_list PySem.F.slot_int_index.lookup
    (call_meets PySem.F.slot_int_rmul (typeIs_int _ n t) PySem.F.entry_int_rmul (PySem.F.args_int_rmul_2 _ _) (lm_int_rmul_list_any n t a vs e0 dd sl)
      ⟨ho, rfl, ⟨_, ho, rfl⟩, call_meets PySem.F.slot_list_mul ⟨_, ho, rfl⟩ PySem.F.entry_list_mul (PySem.F.args_list_mul_2 _ _)
        (lm_list_mul_any a vs e0 dd sl n t (by simp [Builtin.List.listFitsIndex]; omega) (by rw [hz]; omega) (by rw [hz]; simp [Builtin.List.listTooLong, sizeLine]; omega))
        ⟨ho, ?_⟩⟩)
  have nD : ¬ Live s.heap h2.objs.size := fun q => not_live_size (q.sub k12)
  refine f.newmut (μ := .list x ((List.replicate n.toNat v).map I)) (D0 := h2.objs.size) (h1 := h2.push _) hx hρ (k12.trans (sub_push _ _)) nD ⟨_, Heap.get?_push_size _ rfl⟩ ⟨rfl, _, ⟨_, 0, Heap.get?_push_size _ rfl, rfl, rfl, rfl⟩, ?_⟩ fun h' tk' kp f' => h _ h' tk' (fun m => nD (f.pre.live _ m)) nD (fun b o n eo => kp b o n ((k12.trans (sub_push _ _)) b o eo)) f'
  rw [listMul_foldl_if]
  cases hv : vs.toList with
  | nil => rw [hv] at q; cases q
  | cons w r =>
    rw [hv] at q
    cases q with
    | cons q1 q2 =>
      cases q2
      obtain ⟨t1, rfl⟩ := is_int.mp q1
      exact all2_ints (rep_all2 (R := IntV) ⟨t1, rfl⟩ n.toNat)

/-- a def within the def: P is the table of the code's nested records -/
theorem x_nest {name : Str} {params : Arguments} {body : List Stmt} {scope : Scope} {c P : Addr} {psT : Array Value} (f : FS Γ k nm xs A env h₀ X F M ρ μ s) (gok : Γ.Ok) (hcode : env.code = .ref c) (C : CodeHd Γ.B c P) (hP : s.heap.get? P = some (tabObj psT)) (ht : TriplesOk psT.toList) (hnf : codeAmong pos psT.toList = none)
    (hgP : mainGlobals ≠ P) (hb : Γ.B.BuiltinsAt Γ.mg P) (hPM : P ∈ M) (hPB : ¬ Live h₀ P) (hPl : env.locals ≠ P) (hPc : ∀ y c, env.cells.lookup y = some c → c ≠ P) (hPF : F ≠ P) (hPX : P ∉ X)
    (hfree : ∀ n, (n, NameKind.free) ∈ scope.names → ∃ c, env.cells.lookup n = some c)
    (hd0 : params.defaults = []) (hk0 : params.kw_defaults = []) (ha : annTrees params none env = []) (hx : name ∈ xs) (hm : muName μ ≠ some name)
    (h : ∀ qual cl fa c' os h' tk, (∀ n c, (n, c) ∈ cl → (n, NameKind.free) ∈ scope.names ∧ env.cells.lookup n = some c) → (∀ n, (n, NameKind.free) ∈ scope.names → cl.lookup n = env.cells.lookup n) →
      (∃ o doc pm ctv, (fa, o) ∈ os ∧ o.data = .func (fnX name qual params body scope cl .none .none doc pm none (.ref c') ctv)) → (∃ oc vs t, (c', oc) ∈ os ∧ oc.data = .fields vs ∧ vs[1]? = some (.str qual t)) → (∀ p ∈ os, ¬ Live s.heap p.1) →
      KpX (P :: X) s.heap h' → GrownAt P h' → FS Γ k nm xs A env h₀ X F M ((name, .fn fa os) :: ρ) μ { s with heap := h', toks := tk } → wpAny (model Γ.prog Γ.w) A (execs rest env) Q E0 { s with heap := h', toks := tk }) :
    wpAny (model Γ.prog Γ.w) A (execs (.FunctionDef name params body [] none [] scope none name pos :: rest) env) Q E0 s := by
  obtain ⟨cl, hclos, hcl2, hcl3⟩ := closure_for hfree
  refine wpAny_execs_cons (nestDef_K hd0 hk0 ha ?_)
  obtain ⟨bm, ob, b1, b2, b3, b4, b5, b6⟩ := hb
  refine makeFunction_K (mg := Γ.mg) hclos f.pre.en.globals (gok.g.keeps f.pre.base) hcode (C.keeps f.pre.base) hP ht hnf hgP ⟨bm, ob, b1, b2, b3, b4, f.pre.base _ _ b5, b6⟩ fun c' ctv doc h1 tk1 hx1 hge hlt hrec htb => ?_
  generalize hq : qualnameIn env name name = qual at *
  generalize hpm : (Γ.mg "__name__").getD .none = pm at *
  obtain ⟨c2, oc, cvs, ct, e2, hoc, hcd, hcv⟩ := hrec
  cases e2
  have kp1 : KpX [P] s.heap h1 := fun b o n e => hx1 b o (fun q => n (by simp [q])) e
  generalize hH : h1.push (fnMade name qual params body scope cl doc pm c' ctv) = h2
  have k2 : Sub h1 h2 := hH ▸ sub_push _ _
  have kp2 : KpX [P] s.heap h2 := kp1.trans k2.kpx
  have hf : h2.get? h1.objs.size = some (fnMade name qual params body scope cl doc pm c' ctv) := hH ▸ Heap.get?_push_size _ rfl
  have hsz : @LE.le Nat _ s.heap.objs.size h1.objs.size := Nat.le_trans hge (Nat.le_of_lt hlt)
  have nfa : ¬ Live s.heap h1.objs.size := fun q => by
    have := live_lt q
    have q' : @LT.lt Nat _ h1.objs.size s.heap.objs.size := this
    omega
  have nc' : ¬ Live s.heap c' := fun q => by
    have := live_lt q
    have q' : @LT.lt Nat _ c' s.heap.objs.size := this
    have hge' : @LE.le Nat _ s.heap.objs.size c' := hge
    omega
  have lP : Live h2 P := ⟨_, k2 _ _ htb⟩
  have lv : ∀ b ∈ M, Live h2 b := fun b m => kp2.live (fun d hd => by simp at hd; subst hd; exact lP) (f.pre.live b m)
  have f2 : FS Γ k nm xs A env h₀ X F M ρ μ { s with heap := h2, toks := tk1 } := FS.off (h := s.heap) (tk := s.toks) f kp2 (fun b hb => by simp at hb; subst hb; exact hPM) (fun _ q => q) lv (fun b hb => by simp at hb; subst hb; exact hPB) (fun q => hPl (by simpa using q)) (fun y c e q => hPc y c e (by simpa using q)) (fun _ q => hPF (by simpa using q)) f.xm f.fm
  have nM : ∀ b, ¬ Live s.heap b → b ∉ M := fun b n m => n (f.pre.live b m)
  refine f2.store (d := .fn h1.objs.size [(h1.objs.size, fnMade name qual params body scope cl doc pm c' ctv), (c', oc)]) hx hm ⟨rfl, fun p hp => ?_⟩ fun h3 tk3 k3 f3 => ?_
  · simp only [List.mem_cons, List.not_mem_nil, or_false] at hp
    rcases hp with rfl | rfl
    · exact hd_get hf (nM _ nfa)
    · exact hd_get (k2 _ _ hoc) (nM _ nc')
  · refine h qual cl h1.objs.size c' _ h3 tk3 hcl2 hcl3 ⟨_, doc, pm, ctv, .head _, rfl⟩ ⟨oc, cvs, ct, .tail _ (.head _), hcd, hcv⟩ (fun p hp => ?_) (fun b o n e => k3 b o (fun q => n (.tail _ q)) (kp2 b o (fun q => n (by simp at q; subst q; exact .head _)) e)) ⟨_, k3 _ _ hPX (k2 _ _ htb)⟩ f3
    simp only [List.mem_cons, List.not_mem_nil, or_false] at hp
    rcases hp with rfl | rfl <;> assumption
end
end Mine
namespace Mine
open PySem PySem.Calls PySem.Spec PyProof.Rows PySem.W

theorem log2_lt {n k : Nat} (h : n < 2 ^ k) (hk : 0 < k) : n.log2 < k := by
  by_cases q : n = 0
  · subst q; rw [Nat.log2_zero]; exact hk
  · exact (Nat.log2_lt q).mpr h
theorem div_small {x y : Int} (h : x.natAbs < 2 ^ 30) : Builtin.divisionGoesByPylong x y = false := by
  unfold Builtin.divisionGoesByPylong
  have h1 : x.natAbs.log2 < 30 := log2_lt h (by decide)
  have h2 : (if x == 0 then 0 else x.natAbs.log2 / 30 + 1) ≤ 1 := by
    split
    · exact Nat.zero_le _
    · omega
  have h3 : ∀ n : Nat, decide ((if x == 0 then 0 else x.natAbs.log2 / 30 + 1) > n + 150) = false := fun n => decide_eq_false (by omega)
  show (_ && decide _) = false
  rw [h3, Bool.and_false]
theorem bits_le {x : Int} (h0 : 0 ≤ x) (h1 : x < 1024) : Builtin.Int.intBits x ≤ 10 := by
  unfold Builtin.Int.intBits
  split
  · exact Nat.zero_le _
  · have : x.natAbs.log2 < 10 := log2_lt (by omega) (by decide)
    omega
theorem bits_pos {x : Int} (h : x ≠ 0) : 0 < Builtin.Int.intBits x := by
  unfold Builtin.Int.intBits
  rw [if_neg (by simpa using h)]
  exact Nat.succ_pos _

def freeB (sc so : Scope) : Bool := sc.names.all fun x => x.2 != .free || (so.names.lookup x.1 == some .cell && so.names.contains (x.1, .cell))
theorem free_cells {sc so : Scope} {env : Env} (h : freeB sc so = true) (hc : ∀ x, so.names.lookup x = some .cell → (x, NameKind.cell) ∈ so.names → ∃ c, env.cells.lookup x = some c) : ∀ n, (n, NameKind.free) ∈ sc.names → ∃ c, env.cells.lookup n = some c := fun n hn => by
  have := List.all_eq_true.mp h _ hn
  simp only [bne_self_eq_false, Bool.false_or, Bool.and_eq_true, beq_iff_eq, List.contains_iff_mem] at this
  exact hc n this.1 this.2
def digitsF (x : Int) : List Int := if x != 0 then dig (Builtin.Int.intBits x) (List.replicate (Builtin.Int.intBits x) 0) x 0 (Builtin.Int.intBits x) else List.replicate (Builtin.Int.intBits x) 0

section
variable {Γ : Gl}
theorem reach_cell {h : Heap} {env : Env} {x : Str} {v : Value} {nm : List (Str × NameKind)} (en : EnvIs nm env) (hk : nm.lookup x = some .cell) (r : Reach h env x v) : ∃ c o, env.cells.lookup x = some c ∧ h.get? c = some o ∧ o.data = .cell (some v) := by
  rcases r with ⟨a, _⟩ | ⟨_, c, b, o, e, q⟩
  · rw [en.kindOf, hk] at a; cases a
  · exact ⟨c, o, b, e, q⟩

theorem fn_int2 {a c P : Addr} {i : Int} {A : Around} {M : List Addr} {s : Shared} {vs : List Value} (ok : Γ.Ok) (b : BG Γ) (d : DefC Γ a "_int2digits" (paramsAt P01 4) (bodyAt P01 4) (scopeAt P01 4) (.ref c)) (C : CodeHd Γ.B c P) (hb : Γ.B.BuiltinsAt Γ.mg P) (hgP : mainGlobals ≠ P) (nPB : ¬ Live Γ.B P) (h0 : 0 ≤ i) (h1 : i < 1024)
    (rm : Rm A 20) (base : Sub Γ.B s.heap) (live : ∀ a ∈ M, Live s.heap a) (hPM : P ∈ M) (hP : s.heap.get? P = some (tabObj #[])) (hvs : All2 (Is Γ (Hd M s.heap)) vs [I i, I 1]) {Q : Value → Shared → Prop}
    (hQ : ∀ v h' tk, KpX [P] s.heap h' → GrownAt P h' → Is Γ (Hd M h') v (.py (.list ((digitsF i).map PyData.int))) → Q v { s with heap := h', toks := tk }) : wpAny (model Γ.prog Γ.w) A (call (.ref a) vs) Q E0 s := by
  have lP : Live s.heap P := ⟨_, hP⟩
  have hbits := bits_le h0 h1
  generalize hn : Builtin.Int.intBits i = n at *
  refine call_frame (k := 19) (ps := ["a", "n"]) (xs := ["a_digits", "inner"]) (ds := [I i, I 1]) (h₀ := Γ.B) ok d (by decide +kernel) rfl (fun pm doc hl => ?_) rm base (Sub.refl _) base live hvs fun env h1 tk1 X hcode hcell hcX hX k1 f => ?_
  · match vs, hl with
    | [v, w], _ => rfl
  · have inter := fs_inter f
    have hPX : P ∉ X := fun q => hX P q lP
    have hPc : ∀ y c, env.cells.lookup y = some c → c ≠ P := fun y c e q => hPX (q ▸ hcX y c e)
    have elen : ((n : Int) + 1 - 1).fdiv 1 = (n : Int) := by rw [Int.fdiv_one]; omega
    refine x_new_rep (x := "a_digits") (v := 0) (n := n) f (by simp) (by rfl) ev_int (ev_eq (ev_bin (ev_bin (ev_bin (ev_bits (i := i) (ev_name rfl) (fun _ => rfl) rfl) (ev_name (d := I 1) rfl) bi_add) (ev_int (i := 1)) bi_sub) (ev_name (d := I 1) rfl) (bi_div (by decide) (div_small (by rw [hn]; omega)))) (by rw [hn, elen])) (Int.natCast_nonneg _) (by omega) (fun _ => rfl) fun D0 h2 tk2 nDM nD k2 f2 => ?_
    rw [Int.toNat_natCast] at f2
    have kp2 : KpX X s.heap h2 := k1.kpx.trans k2
    have hP2 : h2.get? P = some (tabObj #[]) := kp2 _ _ hPX hP
    have hDP : D0 ≠ P := fun q => nD (q ▸ lP.sub k1)
    have nDs : ¬ Live s.heap D0 := fun q => nD (q.sub k1)
    refine x_nest (c := c) (P := P) (psT := #[]) f2 ok hcode C hP2 trivial rfl hgP hb (.tail _ (List.mem_append.mpr (.inr hPM))) nPB (fun q => hPX (q ▸ f2.frm.loc)) hPc hDP hPX (fun n hn => ?_) rfl rfl rfl (by simp) (by intro q; cases q) fun qual cl fa c' os h3 tk3 hcl2 hcl3 hfn hcd hos k3 hg f3 => ?_
    · exact free_cells (sc := dScope digDef) (by rfl) hcell n hn
    · have hF3 : D0 ∉ X ++ M := nDM
      have kp3 : KpX (P :: X) s.heap h3 := (show KpX (P :: X) s.heap h2 from fun b o n e => kp2 b o (fun q => n (.tail _ q)) e).trans k3
      have fin : ∀ v h' tk, KpX (D0 :: X) h3 h' → Is Γ (Hd (X ++ M) h') v (.py (.list ((digitsF i).map PyData.int))) → Q v { s with heap := h', toks := tk } := fun v h' tk kk iv => by
        have nX : ∀ b, Live s.heap b → b ∉ D0 :: X := fun b lb q => by
          rcases List.mem_cons.mp q with q | q
          · exact nDs (q ▸ lb)
          · exact hX b q lb
        refine hQ v h' tk (fun b o nb eo => kk b o (nX b ⟨o, eo⟩) (kp3 b o (fun q => ?_) eo)) ?_ (iv.keeps (hd_less fun b m => List.mem_append.mpr (.inr m)))
        · rcases List.mem_cons.mp q with q | q
          · exact nb (by simp [q])
          · exact hX b q ⟨o, eo⟩
        · obtain ⟨psE, e⟩ := hg
          exact ⟨psE, kk P _ (fun q => (List.mem_cons.mp q).elim (fun z => hDP z.symm) hPX) e⟩
      have ret : ∀ ns s4, FS Γ 19 (scopeAt P01 4).names ["a_digits", "inner"] (A.deeper env) env Γ.B X D0 (D0 :: (X ++ M)) [("inner", .fn fa os), ("a", I i), ("n", I 1)] (.list "a_digits" (ns.map I)) s4 → (∃ h4 tk4, s4 = { s with heap := h4, toks := tk4 } ∧ KpX (D0 :: X) h3 h4) → ns = digitsF i →
          ∀ {pos : Pos} {xp : Pos}, wpAny (model Γ.prog Γ.w) (A.deeper env) (execs [.Return (some (.Name "a_digits" xp)) pos] env) (fun fl s' => Q (match fl with | .ret v => v | _ => .none) s') E0 s4 := fun ns s4 f4 ⟨h4, tk4, e4, k4⟩ en pos xp => by
        subst e4
        subst en
        have f5 : FS Γ 19 (scopeAt P01 4).names ["a_digits", "inner"] (A.deeper env) env Γ.B X D0 (D0 :: (X ++ M)) [("inner", .fn fa os), ("a", I i), ("n", I 1)] (.list "a_digits" (((digitsF i).map PyData.int).map D.py)) { s with heap := h4, toks := tk4 } := by rw [List.map_map]; exact f4
        exact x_return_py f5 hF3 (by decide +kernel) (by decide +kernel) fun v h5 tk5 k5 iv => fin v h5 tk5 (k4.trans k5.kpx) iv
      refine x_if (b := i != 0) f3 (et_int (ev_name (d := I i) rfl)) (fun hb h4 tk4 k4 f4 => ?_) fun hb h4 tk4 k4 f4 => ?_
      · have hi0 : i ≠ 0 := by simpa using hb
        have hpos := bits_pos hi0
        rw [hn] at hpos
        have so : Stand os h4 := by
          obtain ⟨w, _, iw⟩ := f4.pre.names "inner" (.fn fa os) rfl
          obtain ⟨_, so⟩ := iw
          exact fun q hq => hd_sub _ _ _ _ (so q hq)
        obtain ⟨cA, oA, a1, a2, a3⟩ := reach_cell f4.pre.en (x := "a_digits") rfl f4.mu.1
        obtain ⟨cI, oI, i1, i2, i3⟩ : ∃ c o, env.cells.lookup ("inner" : Str) = some c ∧ h4.get? c = some o ∧ o.data = .cell (some (.ref fa)) := by
          obtain ⟨w, rw1, iw⟩ := f4.pre.names "inner" (.fn fa os) rfl
          obtain ⟨rfl, _⟩ := iw
          exact reach_cell f4.pre.en rfl rw1
        obtain ⟨cN, oN, tN, n1, n2, n3⟩ : ∃ c o t, env.cells.lookup ("n" : Str) = some c ∧ h4.get? c = some o ∧ o.data = .cell (some (.int 1 t)) := by
          obtain ⟨w, rw1, iw⟩ := f4.pre.names "n" (I 1) rfl
          obtain ⟨t, rfl⟩ := is_int.mp iw
          obtain ⟨c, o, q1, q2, q3⟩ := reach_cell f4.pre.en rfl rw1
          exact ⟨c, o, t, q1, q2, q3⟩
        have f4x := (f4.fx (by simp)).2
        have Dg : DigAt (os ++ [(cA, oA), (cI, oI), (cN, oN)]) fa D0 c' cA cI cN qual cl := by
          refine ⟨⟨?_, ?_, fun x c e => ?_⟩, fun p hp => ?_, ?_, ?_, ?_, ⟨oA, by simp, a3⟩, ⟨oI, by simp, i3⟩, ⟨oN, tN, by simp, n3⟩⟩
          · obtain ⟨o, doc, pm, ctv, q1, q2⟩ := hfn
            exact ⟨o, doc, pm, ctv, List.mem_append.mpr (.inl q1), q2⟩
          · obtain ⟨oc, cvs, t, q1, q2, q3⟩ := hcd
            exact ⟨oc, cvs, t, List.mem_append.mpr (.inl q1), q2, q3⟩
          · obtain ⟨q1, q2⟩ := hcl2 x c (mem_of_lookup e)
            have hx3 : x = "a_digits" ∨ x = "inner" ∨ x = "n" := by
              have h5 : ((dScope digDef).names.filter fun y => y.2 == .free).map (·.1) = [("a_digits" : Str), "inner", "n"] := by rfl
              have h6 : x ∈ ((dScope digDef).names.filter fun y => y.2 == .free).map (·.1) := List.mem_map.mpr ⟨_, List.mem_filter.mpr ⟨q1, rfl⟩, rfl⟩
              rw [h5] at h6
              simpa using h6
            rcases hx3 with rfl | rfl | rfl
            · rw [a1] at q2; cases q2; exact ⟨oA, by simp⟩
            · rw [i1] at q2; cases q2; exact ⟨oI, by simp⟩
            · rw [n1] at q2; cases q2; exact ⟨oN, by simp⟩
          · rcases List.mem_append.mp hp with q | q
            · intro z
              have := hos p q
              rw [z] at this
              exact this (f2.pre.live D0 (.head _))
            · simp only [List.mem_cons, List.not_mem_nil, or_false] at q
              rcases q with rfl | rfl | rfl
              · exact f4x _ _ a1
              · exact f4x _ _ i1
              · exact f4x _ _ n1
          · rw [hcl3 _ (by decide +kernel)]; exact a1
          · rw [hcl3 _ (by decide +kernel)]; exact i1
          · rw [hcl3 _ (by decide +kernel)]; exact n1
        have f4p : FS Γ 19 (scopeAt P01 4).names ["a_digits", "inner"] (A.deeper env) env Γ.B X D0 (D0 :: (X ++ M)) [("inner", .fn fa os), ("a", I i), ("n", I 1)] (.list "a_digits" (((List.replicate n (0 : Int)).map PyData.int).map D.py)) { s with heap := h4, toks := tk4 } := by rw [List.map_map]; exact f4
        refine x_clo (x := "a_digits") (g := "inner") (fa := fa) (os := os) (ns := List.replicate n 0) (ms := dig n (List.replicate n 0) i 0 n) (ds := [I i, I 0, I n]) f4 rfl (let ⟨o, _, _, _, q1, q2⟩ := hfn; ⟨o, _, q1, q2⟩) f4p.peek_py
          (evs_cons (ev_name rfl) (evs_cons (ev_int (i := 0)) (evs_cons (ev_eq (ev_lenM ok b (ev_name (x := "a_digits") rfl) (by rw [List.length_replicate]; omega)) (by rw [List.length_replicate])) evs_nil))) (fun d hd => by
            simp only [List.mem_cons, List.not_mem_nil, or_false] at hd
            rcases hd with rfl | rfl | rfl <;> exact ⟨_, rfl⟩)
          (fun s' vs' q1 q2 q3 q4 q5 ⟨ys', q6, q7⟩ Q' hQ' => ?_) (by decide +kernel) (by decide +kernel) inter rfl rfl fun h5 tk5 k5 f5 => ?_
        · refine inner_dig ok Dg f4.bf n _ s' i 0 n (List.replicate n 0) ys' vs' (q2.le (by omega)) q3 (fun p hp => ?_) q6 q7 q5 h0 (by omega) hpos (by omega) (by rw [List.length_replicate]; exact Nat.le_refl _) (by rw [List.length_replicate]; omega) Q' hQ'
          rcases List.mem_append.mp hp with q | q
          · exact q4 p q
          · simp only [List.mem_cons, List.not_mem_nil, or_false] at q
            rcases q with rfl | rfl | rfl
            · exact q1 _ _ a2
            · exact q1 _ _ i2
            · exact q1 _ _ n2
        · refine wpAny_execs_nil (ret _ _ f5 ⟨h5, tk5, rfl, k4.kpx.trans k5⟩ ?_)
          unfold digitsF
          rw [if_pos hb, hn]
      · refine wpAny_execs_nil (ret _ _ f4 ⟨h4, tk4, rfl, k4.kpx⟩ ?_)
        unfold digitsF
        rw [hb, hn]
        rfl
end
end Mine
namespace Mine
open PySem PySem.Calls PySem.Spec PyProof.Rows PySem.W

def valDef : Option Stmt := (bodyAt P01 5)[0]?
def val2 : Nat → List Int → Nat → Nat → Int
  | 0, _, _, _ => 0
  | m + 1, ns, l, r => if l + 1 = r then ns.getD l 0 else val2 m ns ((l + r) / 2) r * 2 ^ ((l + r) / 2 - l) + val2 m ns l ((l + r) / 2)
theorem getD_bit {ns : List Int} (h : ∀ x ∈ ns, 0 ≤ x ∧ x ≤ 1) (l : Nat) : 0 ≤ ns.getD l 0 ∧ ns.getD l 0 ≤ 1 := by
  rw [List.getD_eq_getElem?_getD]
  cases e : ns[l]? with
  | none => exact ⟨Int.le_refl _, by decide⟩
  | some x => exact h x (List.mem_of_getElem? e)
theorem val2_bd {ns : List Int} (h : ∀ x ∈ ns, 0 ≤ x ∧ x ≤ 1) : ∀ (m l r : Nat), l < r → r - l ≤ m → 0 ≤ val2 m ns l r ∧ val2 m ns l r < 2 ^ (r - l)
  | 0, l, r, h1, h2 => (ar_no h1 h2).elim
  | m + 1, l, r, h1, h2 => by
    unfold val2
    split
    · rename_i e
      subst e
      rw [Nat.add_sub_cancel_left]
      have := getD_bit h l
      exact ⟨this.1, Int.lt_of_le_of_lt this.2 (by decide)⟩
    · rename_i e
      obtain ⟨q1, q2, q3, q4⟩ := ar_mid h1 e h2
      generalize (l + r) / 2 = mid at *
      obtain ⟨a1, a2⟩ := val2_bd h m mid r q2 q4
      obtain ⟨b1, b2⟩ := val2_bd h m l mid q1 q3
      have hp : (0 : Int) < 2 ^ (mid - l) := Int.pow_pos (by decide)
      refine ⟨Int.add_nonneg (Int.mul_nonneg a1 (Int.le_of_lt hp)) b1, ?_⟩
      have e2 : r - l = (r - mid) + (mid - l) := (Nat.sub_add_sub_cancel (Nat.le_of_lt q2) (Nat.le_of_lt q1)).symm
      rw [e2, Int.pow_add]
      have h3 : (val2 m ns mid r + 1) * 2 ^ (mid - l) ≤ 2 ^ (r - mid) * 2 ^ (mid - l) := Int.mul_le_mul_of_nonneg_right a2 (Int.le_of_lt hp)
      rw [Int.add_mul, Int.one_mul] at h3
      exact Int.lt_of_lt_of_le (Int.add_lt_add_left b2 _) h3
theorem ar_63 {l n : Nat} (h : l < n) (hn : n ≤ 20) : (l : Int) < 2 ^ 63 := by omega
theorem pow_20 {k : Nat} (h : k ≤ 20) : (2 : Int) ^ k ≤ 2 ^ 20 := by
  have := Nat.pow_le_pow_right (n := 2) (by decide) h
  exact_mod_cast this

/-- the def inner of _digits2int, as it stands, n = 1 -/
structure ValAt (os : List (Addr × Obj)) (f c' cD cI cN aL : Addr) (ys : Array Value) (qual : Str) (cl : List (Str × Addr)) : Prop where
  clo : CloAt os f "inner" qual (dParams valDef) (dBody valDef) (dScope valDef) cl c'
  la : cl.lookup ("digits" : Str) = some cD
  li : cl.lookup ("inner" : Str) = some cI
  ln : cl.lookup ("n" : Str) = some cN
  oa : ∃ o, (cD, o) ∈ os ∧ o.data = .cell (some (.ref aL))
  oi : ∃ o, (cI, o) ∈ os ∧ o.data = .cell (some (.ref f))
  on : ∃ o t, (cN, o) ∈ os ∧ o.data = .cell (some (.int 1 t))
  ol : ∃ o n, (aL, o) ∈ os ∧ o.cls = .type "list" ∧ o.data = .seq ys n

section
variable {Γ : Gl}
theorem inner_val {os : List (Addr × Obj)} {f c' cD cI cN aL : Addr} {ys : Array Value} {qual : Str} {cl : List (Str × Addr)} {ns : List Int} (ok : Γ.Ok) (C : ValAt os f c' cD cI cN aL ys qual cl) (hys : All2 IntV ys.toList ns) (hb : ∀ x ∈ ns, 0 ≤ x ∧ x ≤ 1) (hns : ns.length ≤ 20) : ∀ (m : Nat) (A : Around) (M : List Addr) (s : Shared) (l r : Nat) (vs : List Value),
    Rm A (m + 1) → Sub Γ.B s.heap → (∀ a ∈ M, Live s.heap a) → Stand os (Hd M s.heap) → All2 (Is Γ (Hd M s.heap)) vs [I l, I r] → l < r → r - l ≤ m → r ≤ ns.length → ∀ Q : Value → Shared → Prop,
    (∀ v h' tk, Sub s.heap h' → Is Γ (Hd M h') v (I (val2 m ns l r)) → Q v { s with heap := h', toks := tk }) → wpAny (model Γ.prog Γ.w) A (call (.ref f) vs) Q E0 s := by
  intro m
  induction m with
  | zero => intro A M s l r vs _ _ _ _ _ h1 h2; exact (ar_no h1 h2).elim
  | succ m ih =>
    intro A M s l r vs rm base live st hv hlr hm hr Q hQ
    obtain ⟨oA, hA1, hA2⟩ := C.oa
    obtain ⟨oI, hI1, hI2⟩ := C.oi
    obtain ⟨oN, tN, hN1, hN2⟩ := C.on
    obtain ⟨oL, nL, hL1, hL2, hL3⟩ := C.ol
    have fnF : ∃ o fd, (f, o) ∈ os ∧ o.data = .func fd := let ⟨o, _, _, _, q1, q2⟩ := C.clo.fn; ⟨o, _, q1, q2⟩
    have st0 : Stand os s.heap := fun q hq => hd_sub M _ _ _ (st q hq)
    have isL : Is Γ (Hd M s.heap) (.ref aL) (.py (.list (ns.map PyData.int))) := is_list.mpr ⟨aL, ys, rfl, ⟨oL, st _ hL1, hL2, nL, hL3⟩, by
      have : ∀ {vs : List Value} {ns : List Int}, All2 IntV vs ns → All2 (fun v d => Is Γ (Hd M s.heap) v (.py d)) vs (ns.map PyData.int) := by
        intro vs ns q
        induction q with
        | nil => exact .nil
        | cons r _ ih => exact .cons (is_int.mpr r) ih
      exact this hys⟩
    refine clo_call (k := m + 1) (ps := ["L", "R"]) (xs := ["mid", "shift"]) (ds := [I l, I r]) (ρc := [("digits", .py (.list (ns.map PyData.int))), ("inner", .fn f os), ("n", I 1)]) (h₀ := s.heap) (M := M) ok C.clo st0 rm base base (Sub.refl _) live
      hv rfl (by rfl) (fun doc pm ctv hl => ?_) ⟨⟨by rfl, cD, oA, _, C.la, hA1, hA2, isL⟩, ⟨by rfl, cI, oI, _, C.li, hI1, hI2, rfl, st⟩, ⟨by rfl, cN, oN, _, C.ln, hN1, hN2, is_int.mpr ⟨tN, rfl⟩⟩, trivial⟩ fun env h1 tk1 X hcl hX k1 f1 => ?_
    · match vs, hl with
      | [v, w], _ => rfl
    · have fin : ∀ v h' tk i, Sub s.heap h' → Is Γ (Hd (X ++ M) h') v (I i) → i = val2 (m + 1) ns l r → Q v { s with heap := h', toks := tk } := fun v h' tk i kk iv e => by
        subst e
        exact hQ v h' tk kk (is_int.mpr (is_int.mp iv))
      refine x_if (b := ((l : Int) + 1 == (r : Int))) f1 (et_cmp (ev_bin (ev_name (d := I l) rfl) ev_int bi_add) (ev_name (d := I r) rfl) cm_eq_int) (fun hbb h2 tk2 k2 f2 => ?_) fun hbb h2 tk2 k2 f2 => ?_
      · have hb' : l + 1 = r := ar_eq.mp hbb
        have hlt : l < ns.length := Nat.le_trans (Nat.le_of_eq hb') hr
        have hx : (ns.map PyData.int)[((l : Int)).toNat]? = some (.int (ns.getD l 0)) := by
          rw [Int.toNat_natCast, List.getElem?_map, List.getD_eq_getElem?_getD, List.getElem?_eq_getElem hlt]
          rfl
        exact x_return f2 (ev_sub (ev_name (x := "digits") rfl) (ev_name (d := I l) rfl) (su_list (Int.natCast_nonneg _) hx (ar_63 hlt hns))) fun v h3 tk3 k3 iv => fin v h3 tk3 _ (f2.old.trans k3) iv (by unfold val2; rw [if_pos hb'])
      · have hb' : ¬ l + 1 = r := fun q => by rw [ar_eq.mpr q] at hbb; cases hbb
        refine wpAny_execs_nil ?_
        have emid := ar_fdiv l r
        obtain ⟨hmid1, hmid2, hmid3, hmid4⟩ := ar_mid hlr hb' hm
        generalize hM : (l + r) / 2 = mid at *
        refine x_assign (x := "mid") (d := I mid) f2 (ev_eq (ev_bin (ev_bin (ev_name (d := I l) rfl) (ev_name (d := I r) rfl) bi_add) (ev_int (i := 1)) (bi_shr (by decide))) (by rw [emid])) (by simp) (by intro q; cases q) (fun _ _ => by rfl) fun h3 tk3 k3 f3 => ?_
        have esh := ar_sh hmid1
        refine x_assign (x := "shift") (d := I ((mid - l : Nat) : Int)) f3 (ev_eq (ev_bin (ev_bin (ev_name (d := I mid) rfl) (ev_name (d := I l) rfl) bi_sub) (ev_name (d := I 1) rfl) (bi_mul (.of_right (by decide)))) (by rw [esh])) (by simp) (by intro q; cases q) (fun _ _ => by rfl) fun h4 tk4 k4 f4 => ?_
        obtain ⟨a1, a2⟩ := val2_bd hb m mid r hmid2 hmid4
        have a3 : val2 m ns mid r < 2 ^ 20 := Int.lt_of_lt_of_le a2 (pow_20 (Nat.le_trans (Nat.sub_le _ _) (Nat.le_trans hr hns)))
        have esn : (((mid - l : Nat) : Int)).toNat = mid - l := Int.toNat_natCast _
        refine x_return f4 (ev_bin (ev_bin (ev_clo (ds := [I mid, I r]) (r := I (val2 m ns mid r)) rfl fnF (evs_cons (ev_name rfl) (evs_cons (ev_name rfl) evs_nil)) fun A' M' s' vs' q1 q2 q3 q4 q5 Q' hQ' => ih A' M' s' _ _ vs' q1 q2 q3 q4 q5 hmid2 hmid4 hr Q' hQ')
            (ev_name (d := I ((mid - l : Nat) : Int)) rfl) (bi_shl (Int.natCast_nonneg _) (ar_le hmid2 hr (Nat.le_trans hns (by decide))) (ar_abs a1 a3)))
          (ev_clo (ds := [I l, I mid]) (r := I (val2 m ns l mid)) rfl fnF (evs_cons (ev_name rfl) (evs_cons (ev_name rfl) evs_nil)) fun A' M' s' vs' q1 q2 q3 q4 q5 Q' hQ' => ih A' M' s' _ _ vs' q1 q2 q3 q4 q5 hmid1 hmid3 (Nat.le_trans (Nat.le_of_lt hmid2) hr) Q' hQ') bi_add)
          fun v h5 tk5 k5 iv => fin v h5 tk5 _ (f4.old.trans k5) iv (by rw [val2, if_neg hb', hM, esn])

theorem et_list {k : Nat} {nm : List (Str × NameKind)} {ρ : Ctx0} {e : PySem.Expr} {ds : List PyData} (h : Ev Γ k nm ρ e (.py (.list ds))) (hpos : 0 < ds.length) (hs : ds.length ≤ 1000000)
    (he : ∀ env whole, isTrue e env whole = (do let v ← whole; standAt e.pos; holding [v] (truthy v)) := by intro _ _; rfl) : Et Γ k nm ρ e true := by
  intro A env M s p Q hQ
  refine isTrue_plain (h A env M s p _ fun v h' tk k' iv => ?_) (he env _)
  obtain ⟨a, vs, rfl, hl, q⟩ := is_list.mp iv
  have e1 := q.length
  rw [Array.length_toList] at e1
  refine wpAny_truthy_list (s := { s with heap := h', toks := tk }) (isList_sub (hd_sub M h') hl) (by omega) ?_
  have e2 : (!vs.isEmpty) = true := by
    cases hz : vs.isEmpty with
    | false => rfl
    | true =>
      have := Array.isEmpty_iff_size_eq_zero.mp hz
      omega
  rw [e2]
  exact hQ h' _ k'

theorem fn_dig2 {a c P : Addr} {ns : List Int} {A : Around} {M : List Addr} {s : Shared} {vs : List Value} (ok : Γ.Ok) (b : BG Γ) (d : DefC Γ a "_digits2int" (paramsAt P01 5) (bodyAt P01 5) (scopeAt P01 5) (.ref c)) (C : CodeHd Γ.B c P) (hb : Γ.B.BuiltinsAt Γ.mg P) (hgP : mainGlobals ≠ P) (nPB : ¬ Live Γ.B P) (hbits : ∀ x ∈ ns, 0 ≤ x ∧ x ≤ 1) (hpos : 0 < ns.length) (hns : ns.length ≤ 15)
    (rm : Rm A 20) (base : Sub Γ.B s.heap) (live : ∀ a ∈ M, Live s.heap a) (hPM : P ∈ M) (hP : s.heap.get? P = some (tabObj #[])) (hvs : All2 (Is Γ (Hd M s.heap)) vs [.py (.list (ns.map PyData.int)), I 1]) {Q : Value → Shared → Prop}
    (hQ : ∀ v h' tk, KpX [P] s.heap h' → GrownAt P h' → Is Γ (Hd M h') v (I (val2 ns.length ns 0 ns.length)) → Q v { s with heap := h', toks := tk }) : wpAny (model Γ.prog Γ.w) A (call (.ref a) vs) Q E0 s := by
  have lP : Live s.heap P := ⟨_, hP⟩
  refine call_frame (k := 19) (ps := ["digits", "n"]) (xs := ["inner"]) (ds := [.py (.list (ns.map PyData.int)), I 1]) (h₀ := Γ.B) ok d (by decide +kernel) rfl (fun pm doc hl => ?_) rm base (Sub.refl _) base live hvs fun env h1 tk1 X hcode hcell hcX hX k1 f => ?_
  · match vs, hl with
    | [v, w], _ => rfl
  · have hPX : P ∉ X := fun q => hX P q lP
    have hPc : ∀ y c, env.cells.lookup y = some c → c ≠ P := fun y c e q => hPX (q ▸ hcX y c e)
    have hlX : env.locals ∈ X := f.frm.loc
    have hlP : env.locals ≠ P := fun q => hPX (q ▸ hlX)
    refine x_nest (c := c) (P := P) (psT := #[]) f ok hcode C (k1 _ _ hP) trivial rfl hgP hb (List.mem_append.mpr (.inr hPM)) nPB hlP hPc hlP hPX (free_cells (sc := dScope valDef) (by rfl) hcell) rfl rfl rfl (by simp) (by intro q; cases q) fun qual cl fa c' os h3 tk3 hcl2 hcl3 hfn hcd hos k3 hg f3 => ?_
    have so : Stand os h3 := by
      obtain ⟨w, _, iw⟩ := f3.pre.names "inner" (.fn fa os) rfl
      obtain ⟨_, so⟩ := iw
      exact fun q hq => hd_sub _ _ _ _ (so q hq)
    obtain ⟨wD, rD, iD⟩ := f3.pre.names "digits" (.py (.list (ns.map PyData.int))) rfl
    obtain ⟨aL, ys, rfl, ⟨oL, eL, lL, nL, dL⟩, hys⟩ := is_list.mp iD
    obtain ⟨cD, oD, a1, a2, a3⟩ := reach_cell f3.pre.en (x := "digits") rfl rD
    obtain ⟨cI, oI, i1, i2, i3⟩ : ∃ c o, env.cells.lookup ("inner" : Str) = some c ∧ h3.get? c = some o ∧ o.data = .cell (some (.ref fa)) := by
      obtain ⟨w, rw1, iw⟩ := f3.pre.names "inner" (.fn fa os) rfl
      obtain ⟨rfl, _⟩ := iw
      exact reach_cell f3.pre.en rfl rw1
    obtain ⟨cN, oN, tN, n1, n2, n3⟩ : ∃ c o t, env.cells.lookup ("n" : Str) = some c ∧ h3.get? c = some o ∧ o.data = .cell (some (.int 1 t)) := by
      obtain ⟨w, rw1, iw⟩ := f3.pre.names "n" (I 1) rfl
      obtain ⟨t, rfl⟩ := is_int.mp iw
      obtain ⟨c, o, q1, q2, q3⟩ := reach_cell f3.pre.en rfl rw1
      exact ⟨c, o, t, q1, q2, q3⟩
    have inys : All2 IntV ys.toList ns := by
      have : ∀ {vs : List Value} {ns : List Int}, All2 (fun v d => Is Γ (Hd (X ++ M) h3) v (.py d)) vs (ns.map PyData.int) → All2 IntV vs ns := by
        intro vs ns
        induction ns generalizing vs with
        | nil => intro q; cases q; exact .nil
        | cons n ns ih => intro q; cases q with | cons q1 q2 => exact .cons (is_int.mp q1) (ih q2)
      exact this hys
    have eL3 : h3.get? aL = some oL := hd_sub _ _ _ _ eL
    have Va : ValAt (os ++ [(cD, oD), (cI, oI), (cN, oN), (aL, oL)]) fa c' cD cI cN aL ys qual cl := by
      refine ⟨⟨?_, ?_, fun x c e => ?_⟩, ?_, ?_, ?_, ⟨oD, by simp, a3⟩, ⟨oI, by simp, i3⟩, ⟨oN, tN, by simp, n3⟩, ⟨oL, nL, by simp, lL, dL⟩⟩
      · obtain ⟨o, doc, pm, ctv, q1, q2⟩ := hfn
        exact ⟨o, doc, pm, ctv, List.mem_append.mpr (.inl q1), q2⟩
      · obtain ⟨oc, cvs, t, q1, q2, q3⟩ := hcd
        exact ⟨oc, cvs, t, List.mem_append.mpr (.inl q1), q2, q3⟩
      · obtain ⟨q1, q2⟩ := hcl2 x c (mem_of_lookup e)
        have hx3 : x = "digits" ∨ x = "inner" ∨ x = "n" := by
          have h5 : ((dScope valDef).names.filter fun y => y.2 == .free).map (·.1) = [("digits" : Str), "inner", "n"] := by rfl
          have h6 : x ∈ ((dScope valDef).names.filter fun y => y.2 == .free).map (·.1) := List.mem_map.mpr ⟨_, List.mem_filter.mpr ⟨q1, rfl⟩, rfl⟩
          rw [h5] at h6
          simpa using h6
        rcases hx3 with rfl | rfl | rfl
        · rw [a1] at q2; cases q2; exact ⟨oD, by simp⟩
        · rw [i1] at q2; cases q2; exact ⟨oI, by simp⟩
        · rw [n1] at q2; cases q2; exact ⟨oN, by simp⟩
      · rw [hcl3 _ (by decide +kernel)]; exact a1
      · rw [hcl3 _ (by decide +kernel)]; exact i1
      · rw [hcl3 _ (by decide +kernel)]; exact n1
    have nos : ∀ p ∈ os, p.1 ∉ X ++ M := fun p hp q => hos p hp (f.pre.live _ q)
    let M2 := (X ++ M).filter fun b => !([cD, cI, cN].contains b)
    have hM2 : Sub (Hd (X ++ M) h3) (Hd M2 h3) := hd_less fun b hb => (List.mem_filter.mp hb).1
    have st2 : Stand (os ++ [(cD, oD), (cI, oI), (cN, oN), (aL, oL)]) (Hd M2 h3) := fun p hp => by
      rcases List.mem_append.mp hp with q | q
      · exact hd_get (so p q) fun z => nos p q (List.mem_filter.mp z).1
      · simp only [List.mem_cons, List.not_mem_nil, or_false] at q
        rcases q with rfl | rfl | rfl | rfl
        · exact hd_get a2 fun z => by have := (List.mem_filter.mp z).2; simp at this
        · exact hd_get i2 fun z => by have := (List.mem_filter.mp z).2; simp at this
        · exact hd_get n2 fun z => by have := (List.mem_filter.mp z).2; simp at this
        · exact hM2 _ _ eL
    have p2 : Pre Γ 19 (scopeAt P01 5).names [("inner", .fn fa (os ++ [(cD, oD), (cI, oI), (cN, oN), (aL, oL)])), ("digits", .py (.list (ns.map PyData.int))), ("n", I 1)] (A.deeper env) env M2 { s with heap := h3, toks := tk3 } := by
      refine ⟨f3.pre.rm, f3.pre.en, f3.pre.base, fun a m => f3.pre.live a (List.mem_filter.mp m).1, fun x e hx => ?_, f3.pre.cells⟩
      rw [List.lookup_cons] at hx
      cases hbx : x == "inner" with
      | true =>
        rw [hbx] at hx; cases hx
        obtain ⟨w, rw1, iw⟩ := f3.pre.names "inner" (.fn fa os) rfl
        obtain ⟨rfl, _⟩ := iw
        rw [eq_of_beq hbx]
        exact ⟨_, rw1, rfl, st2⟩
      | false =>
        rw [hbx] at hx
        obtain ⟨w, r, iw⟩ := f3.pre.names x e (by
          rw [List.lookup_cons, hbx]; exact hx)
        exact ⟨w, r, iw.keeps hM2⟩
    refine wpAny_execs_cons (wpAny_Return_some (ev_ifexp (c := true) (d := I (val2 ns.length ns 0 ns.length)) (et_list (ev_name (d := .py (.list (ns.map PyData.int))) rfl) (by rw [List.length_map]; exact hpos) (by rw [List.length_map]; omega)) (fun _ => ?_) (fun e => nomatch e) _ _ M2 _ p2 _ fun v h4 tk4 k4 iv => ?_))
    · exact ev_clo (ds := [I (0 : Nat), I ns.length]) (r := I (val2 ns.length ns 0 ns.length)) rfl (let ⟨o, _, _, _, q1, q2⟩ := Va.clo.fn; ⟨o, _, q1, q2⟩) (evs_cons (ev_int (i := 0)) (evs_cons (ev_lenM ok b (ev_name (x := "digits") rfl) (by omega)) evs_nil)) fun A' M' s' vs' q1 q2 q3 q4 q5 Q' hQ' => inner_val ok Va inys hbits (by omega) ns.length A' M' s' 0 ns.length vs' (q1.le (by omega)) q2 q3 q4 q5 hpos (by omega) (Nat.le_refl _) Q' hQ'
    · have kall : KpX [P] s.heap h4 := fun b o nb eo => k4 _ _ (k3 b o (fun q => by
        rcases List.mem_cons.mp q with q | q
        · exact nb (by simp [q])
        · exact hX b q ⟨o, eo⟩) (k1 b o eo))
      obtain ⟨psE, eE⟩ := hg
      exact hQ v h4 tk4 kall ⟨psE, k4 _ _ eE⟩ (is_int.mpr (is_int.mp iv))
end
end Mine
namespace Mine
open PySem PySem.Calls PySem.Spec PyProof.Rows PySem.W

def sumN (ns : List Int) : Int := preSum (fun i => ns.getD i 0) ns.length
section
variable {Γ : Gl} {k : Nat} {nm : List (Str × NameKind)} {ρ : Ctx0}
theorem fn_sumG {ns : List Int} : Fn Γ k (.builtin "sum") [.py (.list (ns.map PyData.int))] (I (sumN ns)) := by
  intro A M s vs rm base live hvs Q hQ
  cases hvs with
  | cons iv q =>
    cases q
    obtain ⟨a, ws, rfl, hl, q⟩ := is_list.mp iv
    have hl' : s.heap.IsList a ws := isList_sub (hd_sub M s.heap) hl
    have e := q.length
    rw [Array.length_toList, List.length_map] at e
    refine call_sum_walkG (wpAny_pyIter_list hl' ?_)
    have lt : a < s.heap.objs.size := by obtain ⟨o, e, _⟩ := hl'; exact Heap.lt_size e
    have hh : A.in1.handled = none := rm.handled
    refine ⟨s.heap.objs.size, _, _, _, _, _, fun i => ns.getD i 0, rfl, Walks.list hh s.heap.objs.size a (Nat.ne_of_lt lt) ws, ⟨⟨_, Heap.get?_push_size _ rfl, rfl, rfl⟩, hl'.push _⟩, fun b hb => ?_, fun i v hv => ?_, fun h' tk t' kk => ?_⟩
    · show @LT.lt Nat _ b _
      simp only [List.mem_cons, List.not_mem_nil, or_false] at hb
      rcases hb with rfl | rfl
      · first | (rw [size_push']; exact Nat.lt_succ_self _) | (simp)
      · first | (rw [size_push']; exact Nat.lt_succ_of_lt lt) | (simp; exact Nat.lt_succ_of_lt lt)
    · obtain ⟨d, hd, r⟩ := q.getL (by rw [Array.getElem?_toList]; exact hv)
      rw [List.getElem?_map] at hd
      cases e2 : ns[i]? with
      | none => rw [e2] at hd; cases hd
      | some n =>
        rw [e2] at hd; cases hd
        obtain ⟨t, rfl⟩ := is_int.mp r
        exact ⟨t, by simp [e2]⟩
    · rw [e]
      refine hQ _ h' tk (fun b o hb => kk b o (fun z => ?_) ((sub_push _ _) b o hb)) (is_int.mpr ⟨_, rfl⟩)
      simp at z; subst z; exact not_live_size ⟨o, hb⟩
end
end Mine
namespace Mine
open PySem PySem.Calls PySem.Spec PyProof.Rows PySem.W

section
variable {Γ : Gl} {k : Nat} {nm : List (Str × NameKind)} {ρ : Ctx0} {xs : List Str} {A : Around} {env : Env} {h₀ : Heap} {X : List Addr} {F : Addr} {M : List Addr} {μ : Mu} {s : Shared} {rest : List Stmt} {Q : Flow → Shared → Prop} {pos : Pos}

theorem x_assign_lc2 {x : Str} {xp cpos : Pos} {ys bn bn2 : List Str} {elt target iter target2 iter2 : PySem.Expr} {ifs2 : List PySem.Expr} {scope : Scope} (ρc : Ctx0)
    {α β : Type} {ds : List α} {enc : α → D} {bs : α → Ctx0} {es : α → List β} {enc2 : β → D} {bs2 : β → Ctx0} {p : α → β → Bool} {g : α → β → PyData}
    (f : FS Γ k nm xs A env h₀ X F M ρ μ s) (hx : x ∈ xs) (hm : muName μ ≠ some x) (hsw : ∀ env, EnvIs nm env → swapsWith (.ListComp elt [⟨target, iter, [], 0⟩, ⟨target2, iter2, ifs2, 0⟩] scope cpos) (some (.Name x xp)) pos.line env = pure true)
    (hS : scopeOkB nm scope ys = true) (hW : Wk ρ ρc) (hB : cxB scope (relNames nm scope.names) (ρc.map (·.1)) bn = true) (hbn : ∀ d, (bs d).map (·.1) = bn)
    (hbn2 : ∀ d, (bs2 d).map (·.1) = bn2) (hB2 : (bn2.all fun x => !(bn ++ ρc.map (·.1)).contains x) = true)
    (hs0 : ∀ env x, foldedSetIterable iter env x = pure x) (hs2 : ∀ env x, foldedSetIterable iter2 env x = pure x)
    (hit : Itr Γ k nm ρ target iter (ds.map enc)) (hbs : ∀ d ∈ ds, As Γ k (relNames nm scope.names) ys target (enc d) (bs d))
    (hit2 : ∀ d ∈ ds, Itr Γ k (relNames nm scope.names) (bs d ++ ρc) target2 iter2 ((es d).map enc2)) (hbs2 : ∀ d ∈ ds, ∀ e ∈ es d, As Γ k (relNames nm scope.names) ys target2 (enc2 e) (bs2 e))
    (htest : ∀ d ∈ ds, ∀ e ∈ es d, Ets Γ k (relNames nm scope.names) (bs2 e ++ (bs d ++ ρc)) ifs2 (p d e))
    (helt : ∀ d ∈ ds, ∀ e ∈ es d, p d e = true → Ev Γ k (relNames nm scope.names) (bs2 e ++ (bs d ++ ρc)) elt (.py (g d e)))
    (hsz : (ds.flatMap fun d => ((es d).filter (p d)).map (g d)).length ≤ 1000000)
    (h : ∀ h' tk, KpX (F :: X) s.heap h' → FS Γ k nm xs A env h₀ X F M ((x, .py (.list (ds.flatMap fun d => ((es d).filter (p d)).map (g d)))) :: ρ) μ { s with heap := h', toks := tk } → wpAny (model Γ.prog Γ.w) A (execs rest env) Q E0 { s with heap := h', toks := tk }) :
    wpAny (model Γ.prog Γ.w) A (execs (.Assign [.Name x xp] (.ListComp elt [⟨target, iter, [], 0⟩, ⟨target2, iter2, ifs2, 0⟩] scope cpos) pos :: rest) env) Q E0 s :=
  x_assign_lc (p := fun _ => true) (f' := fun d => (es d).flatMap fun e => if p d e then [D.py (g d e)] else []) f hx hm hsw (ScopeOk.of hS) (cx_c hW hB) (cx_f hW hB) hs0 (fun g h => by simp at h; subst h; exact ⟨rfl, hs2⟩) hit hbs (fun d hd => cx_n hB (hbn d)) (fun d hd => ets_nil)
    (fun d hd _ => bk_nest (f := fun e => [D.py (g d e)]) rfl (fun g h => by simp at h) (hit2 d hd) (hbs2 d hd) (fun e he => cx_n2 hB2 (hbn2 e) (by rw [List.map_append, hbn d])) (htest d hd) (fun e he hp => bk_emit rfl (helt d hd e he hp)))
    (by rw [flatMap_two]; rw [List.length_map]; exact lc1_len hsz) (flatMap_two ds es p g) h

/-- a call of a def, walked on by hand -/
theorem call_w {x name : Str} {params : Arguments} {body : List Stmt} {scope : Scope} {cd : Value} {ppos cp : Pos} {a : Addr} {e : PySem.Expr} {es : List PySem.Expr} {ds : List D} {Q : Value → Shared → Prop} (ok : Γ.Ok) (p : Pre Γ k nm ρ A env M s) (g : Glo Γ x (.ref a)) (d : DefC Γ a name params body scope cd) (hs : Evs Γ k nm ρ (e :: es) ds)
    (hcall : ∀ vs h' tk, Sub s.heap h' → All2 (Is Γ (Hd M h')) vs ds → wpAny (model Γ.prog Γ.w) A (call (.ref a) vs) Q E0 { s with heap := h', toks := tk })
    (hk : nm.lookup x = some .globalImplicit := by rfl) (hd : (x == ("__debug__" : Str)) = false := by decide +kernel)
    (he : ∀ env, starEach (e :: es) env = (false, eval e env) :: starEach es env := by intro _; rfl) :
    wpAny (model Γ.prog Γ.w) A (eval (.Call (.Name x ppos) (e :: es) [] cp) env) Q E0 s := by
  obtain ⟨o, pm, doc, ho, hdt, _⟩ := d.at_
  refine Call_ (load_glo ok p.en p.base g hk hd ?_) (by rfl)
  refine callWith_def hdt (hs A env M s cp p _ fun vs h' tk k' ivs => ?_) (he env)
  exact ⟨(p.base.trans k') _ _ ho, hcall vs h' tk k' ivs⟩

/-- e[:n], e walked by hand -/
theorem upto_w {a : PySem.Expr} {n : Nat} {kk : Nat} {cp sp sb : Pos} {Q : Value → Shared → Prop}
    (h : wpAny (model Γ.prog Γ.w) A (eval a env) (fun o s₁ => ∃ ds, ds.length ≤ sizeLine ∧ Pre Γ k nm ρ A env M s₁ ∧ Is Γ (Hd M s₁.heap) o (.py (.list ds)) ∧ ∀ v h' tk, Sub s₁.heap h' → Is Γ (Hd M h') v (.py (.list (ds.take n))) → Q v { s₁ with heap := h', toks := tk }) E0 s) :
    wpAny (model Γ.prog Γ.w) A (eval (.Subscript a (.Slice none (some (.Constant (.int n) kk cp)) none sp) sb) env) Q E0 s := by
  refine Subscript_ (wpAny_mono h (fun o s₁ ⟨ds, hs, p, io, hQ⟩ => wpAny_Slice ?_) fun _ _ x => x)
  refine wpAny_pure (wpAny_Constant_int (k := kk) (pos := cp) (wpAny_pure ?_))
  obtain ⟨l, vs, rfl, hl, q⟩ := is_list.mp io
  have hl' : s₁.heap.IsList l vs := isList_sub (hd_sub M s₁.heap) hl
  dsimp only
  generalize hH : s₁.heap.push { cls := .type "slice", data := .fields #[.none, .int n s₁.toks, .none] } = H
  have kH : Sub s₁.heap H := hH ▸ sub_push _ _
  have hlH : H.IsList l vs := isList_sub kH hl'
  have hT : ({ s₁ with heap := H, toks := s₁.toks + 1 } : Shared).TypeIs (.ref l) "list" := hlH.typeIs
  have hsl : H.IsSliceOf s₁.heap.objs.size .none (.int n s₁.toks) .none := ⟨_, hH ▸ Heap.get?_push_size _ rfl, rfl, rfl⟩
  refine tail_any (ops := [.ref s₁.heap.objs.size, .ref l]) hT slot_list_getitem.lookup (wpAny_getItem_list_slice (lo := none) (hi := some (n : Int)) (st := none) hlH hsl (by first | exact IsPart.none | trivial | rfl | constructor) (by first | exact IsPart.int _ _ | constructor | exact ⟨_, rfl⟩ | rfl) (by first | exact IsPart.none | trivial | rfl | constructor) (by simp) ?_ (by have := q.length; rw [Array.length_toList] at this; omega)) (by rfl)
  refine hQ _ (H.push _) _ (kH.trans (sub_push _ _)) (is_list.mpr ⟨_, _, rfl, ⟨_, push_new (p.keeps (tk := s₁.toks) kH).live rfl, rfl, _, rfl⟩, ?_⟩)
  rw [slicePick_upto']
  exact (q.imp fun _ _ r => r.keeps (hd_sub_sub (kH.trans (sub_push _ _)))).take' n
end
end Mine
namespace Mine
open PySem PySem.Calls PySem.Spec PyProof.Rows PySem.W

def pairsL : List (Int × Int) := (upFrom 0 5).flatMap fun o => (upFrom 0 o.toNat).map fun i => (i, o)
def absN (i : Int) : Int := if i < 0 then -i else i
def figF (N : Int) : List Int := (digitsF N ++ List.replicate 10 0).take 10
abbrev lawXs : List Str := ["pairs", "number", "figures", "lot", "meets", "twice", "star", "three", "rounds", "sides", "most", "low", "high", "there"]
theorem pairs_eq : ((upFrom 0 5).flatMap fun o => ((upFrom 0 o.toNat).filter fun _ => true).map fun i => pairPy (i, o)) = pairsL.map pairPy := by
  unfold pairsL
  simp only [List.map_flatMap, List.map_map, List.filter_eq_self.mpr (fun _ _ => rfl)]
  rfl

section
variable {Γ : Gl} {ρ : Ctx0} {A : Around} {env : Env} {X : List Addr} {M : List Addr} {s : Shared} {Q : Flow → Shared → Prop}

/-- the tables of the nested defs, hidden, no part of the frame -/
structure TabsOk (Γ : Gl) (env : Env) (X M : List Addr) (P : Addr) : Prop where
  mem : P ∈ M
  offX : P ∉ X
  offL : env.locals ≠ P
  offC : ∀ x c, env.cells.lookup x = some c → c ≠ P
  old : ¬ Live Γ.B P
  main : mainGlobals ≠ P
  built : Γ.B.BuiltinsAt Γ.mg P

set_option maxHeartbeats 4000000 in
theorem law_head {aI aD c1 P1 c2 P2 : Addr} {ns : List Int} {N : Int} (ok : Γ.Ok) (b : BG Γ) (gI : Glo Γ "_int2digits" (.ref aI)) (dI : DefC Γ aI "_int2digits" (paramsAt P01 4) (bodyAt P01 4) (scopeAt P01 4) (.ref c1)) (gD : Glo Γ "_digits2int" (.ref aD)) (dD : DefC Γ aD "_digits2int" (paramsAt P01 5) (bodyAt P01 5) (scopeAt P01 5) (.ref c2))
    (C1 : CodeHd Γ.B c1 P1) (C2 : CodeHd Γ.B c2 P2) (T1 : TabsOk Γ env X M P1) (T2 : TabsOk Γ env X M P2) (hne : P1 ≠ P2)
    (f : FS Γ 40 (scopeAt P01 11).names lawXs A env Γ.B X env.locals M [("script", .py (.list (ns.map PyData.int)))] .none s) (hP1 : s.heap.get? P1 = some (tabObj #[])) (hP2 : s.heap.get? P2 = some (tabObj #[]))
    (hN : N = (absN (sumN ns)).fmod 1024) (h0 : 0 ≤ N) (h1 : N < 1024) (hlen : (digitsF N).length ≤ 100)
    (hbits : ∀ x ∈ figF N, 0 ≤ x ∧ x ≤ 1) (hfl : (figF N).length = 10) (hval : val2 10 (figF N) 0 10 = N) (hdig : ((upFrom 0 10).filter fun k => (figF N).getD k.toNat 0 != (N.fdiv (2 ^ k.toNat)).fmod 2) = [])
    (cont : ∀ h' tk, GrownAt P1 h' → GrownAt P2 h' → FS Γ 40 (scopeAt P01 11).names lawXs A env Γ.B X env.locals M [("figures", .py (.list ((figF N).map PyData.int))), ("number", I N), ("pairs", .py (.list (pairsL.map pairPy)))] .none { s with heap := h', toks := tk } →
      wpAny (model Γ.prog Γ.w) A (execs ((bodyAt P01 11).drop 4) env) Q E0 { s with heap := h', toks := tk }) :
    wpAny (model Γ.prog Γ.w) A (execs (bodyAt P01 11) env) Q E0 s := by
  have noF : ∀ {P : Addr}, TabsOk Γ env X M P → P ∉ env.locals :: X := fun T q => by
    rcases List.mem_cons.mp q with q | q
    · exact T.offL q.symm
    · exact T.offX q
  refine x_assign_lc2 (x := "pairs") (ys := ["other", "one"]) (bn := ["other"]) (bn2 := ["one"]) (ρc := []) (ds := upFrom 0 5) (enc := I) (bs := fun o => [("other", I o)]) (es := fun o => upFrom 0 o.toNat) (enc2 := I) (bs2 := fun i => [("one", I i)]) (p := fun _ _ => true) (g := fun o i => pairPy (i, o)) f (by simp) (by simp [muName]) (swap_lc (by rfl))
    (by rfl) trivial (by rfl) (fun _ => rfl) (fun _ => rfl) (by rfl) (fun _ _ => rfl) (fun _ _ => rfl) (itr_rangeN (n := 5) ok b.range ev_int (by omega)) (fun _ _ => as_name (by simp)) (fun o ho => itr_range ok b.range (ev_name rfl) (by have := mem_upFrom ho; exact small_of (by omega) (by omega))) (fun _ _ _ _ => as_name (by simp)) (fun _ _ _ _ => ets_nil)
    (fun o ho i hi _ => ev_tuple (ps := [.int i, .int o]) (evs_cons (ev_name rfl) (evs_cons (ev_name rfl) evs_nil)) rfl (Nat.le_of_ble_eq_true rfl)) (by rw [pairs_eq]; exact Nat.le_of_ble_eq_true rfl) fun h2 tk2 k2 f2 => ?_
  rw [pairs_eq] at f2
  refine x_assign (x := "number") (d := I N) f2 (ev_eq (ev_bin (ev_b1 ok b.abs (ev_b1 ok b.sum (ev_name (d := .py (.list (ns.map PyData.int))) rfl) fn_sumG) fn_abs) (ev_int (i := 1024)) (bi_mod (by decide))) (by rw [hN]; rfl)) (by simp) (by simp [muName]) (fun _ _ => by rfl) fun h3 tk3 k3 f3 => ?_
  have kp3 := k2.trans k3
  have hP13 : h3.get? P1 = some (tabObj #[]) := kp3 _ _ (noF T1) hP1
  have hP23 : h3.get? P2 = some (tabObj #[]) := kp3 _ _ (noF T2) hP2
  -- figures
  refine wpAny_execs_cons (wpAny_Assign_Name ?_ (by rfl))
  refine upto_w (k := 40) (nm := (scopeAt P01 11).names) (ρ := [("number", I N), ("pairs", .py (.list (pairsL.map pairPy))), ("script", .py (.list (ns.map PyData.int)))]) (M := M) (wpAny_BinOp (call_w ok f3.pre gI dI (evs_cons (ev_name (x := "number") (d := I N) rfl) (evs_cons (ev_int (i := 1)) evs_nil)) fun vs h4 tk4 k4 iv4 => ?_))
  have f4 := f3.sub (tk := tk4) k4
  refine fn_int2 (P := P1) ok b dI C1 T1.built T1.main T1.old h0 h1 (f4.pre.rm.le (by omega)) f4.pre.base f4.pre.live T1.mem (k4 _ _ hP13) iv4 fun v h5 tk5 k5 g5 iv5 => ?_
  have lP5 : Live h5 P1 := let ⟨ps, e⟩ := g5; ⟨_, e⟩
  have f5 : FS Γ 40 (scopeAt P01 11).names lawXs A env Γ.B X env.locals M [("number", I N), ("pairs", .py (.list (pairsL.map pairPy))), ("script", .py (.list (ns.map PyData.int)))] .none { s with heap := h5, toks := tk5 } :=
    FS.off (h := h4) (tk := tk4) f4 k5 (fun d hd => by simp at hd; subst hd; exact T1.mem) (fun _ q => q) (fun d hd => k5.live (fun e he => by simp at he; subst he; exact lP5) (f4.pre.live d hd)) (fun d hd => by simp at hd; subst hd; exact T1.old) (fun q => T1.offL (by simpa using q)) (fun y c e q => T1.offC y c e (by simpa using q)) (fun q => absurd rfl q) f4.xm f4.fm
  refine (ev_bin (k := 40) (nm := (scopeAt P01 11).names) (ρ := [("number", I N), ("pairs", .py (.list (pairsL.map pairPy))), ("script", .py (.list (ns.map PyData.int)))]) (ev_list (ps := [.int 0]) (evs_cons (ev_int (i := 0)) evs_nil) rfl (Nat.le_of_ble_eq_true rfl)) (ev_int (i := 10)) (bi_rep (by decide) (by decide))) A env M _ f5.pre _ fun w h6 tk6 k6 iw => ?_
  have f6 := f5.sub (tk := tk6) k6
  refine bi_cat (k := 40) (by rw [List.length_map, List.length_replicate]; exact lc1_len (by show (digitsF N).length + (10 : Int).toNat ≤ 1000000; have : (10 : Int).toNat = 10 := rfl; omega)) A M _ v w f6.pre.rm f6.pre.base f6.pre.live (iv5.keeps (hd_sub_sub k6)) iw _ fun u h7 tk7 k7 iu => ?_
  have f7 := f6.sub (tk := tk7) k7
  refine ⟨_, ?_, f7.pre, iu, fun v8 h8 tk8 k8 iv8 => ?_⟩
  · rw [List.length_append, List.length_map, List.length_replicate]
    exact lc1_len (by have : (10 : Int).toNat = 10 := rfl; omega)
  have f8 := f7.sub (tk := tk8) k8
  have efig : ((digitsF N).map PyData.int ++ List.replicate (10 : Int).toNat (PyData.int 0)).take 10 = (figF N).map PyData.int := by
    unfold figF
    rw [List.map_take, List.map_append, List.map_replicate]
    rfl
  rw [efig] at iv8
  refine f8.store (x := "figures") (by simp) (by simp [muName]) iv8 fun h9 tk9 k9 f9 => ?_
  have g9 : GrownAt P1 h9 := by
    obtain ⟨ps, e⟩ := g5
    exact ⟨ps, k9 _ _ T1.offX (k8 _ _ (k7 _ _ (k6 _ _ e)))⟩
  have hP29 : h9.get? P2 = some (tabObj #[]) := k9 _ _ T2.offX (k8 _ _ (k7 _ _ (k6 _ _ (k5 _ _ (by simpa using hne.symm) (k4 _ _ hP23)))))
  -- the digits tell the number
  refine wpAny_execs_cons (wpAny_If (wpAny_isTrue_BoolOp (wpAny_allTrue_Or_cons (wpAny_isTrue_Compare1 (call_w ok f9.pre gD dD (evs_cons (ev_name (x := "figures") (d := .py (.list ((figF N).map PyData.int))) rfl) (evs_cons (ev_int (i := 1)) evs_nil)) fun vs h10 tk10 k10 iv10 => ?_) (by with_unfolding_all rfl)))))
  have f10 := f9.sub (tk := tk10) k10
  refine fn_dig2 (P := P2) ok b dD C2 T2.built T2.main T2.old hbits (by rw [hfl]; decide) (by rw [hfl]; decide) (f10.pre.rm.le (by omega)) f10.pre.base f10.pre.live T2.mem (k10 _ _ hP29) iv10 fun v11 h11 tk11 k11 g11 iv11 => ?_
  have lP11 : Live h11 P2 := let ⟨ps, e⟩ := g11; ⟨_, e⟩
  have f11 : FS Γ 40 (scopeAt P01 11).names lawXs A env Γ.B X env.locals M [("figures", .py (.list ((figF N).map PyData.int))), ("number", I N), ("pairs", .py (.list (pairsL.map pairPy))), ("script", .py (.list (ns.map PyData.int)))] .none { s with heap := h11, toks := tk11 } :=
    FS.off (h := h10) (tk := tk10) f10 k11 (fun d hd => by simp at hd; subst hd; exact T2.mem) (fun _ q => q) (fun d hd => k11.live (fun e he => by simp at he; subst he; exact lP11) (f10.pre.live d hd)) (fun d hd => by simp at hd; subst hd; exact T2.old) (fun q => T2.offL (by simpa using q)) (fun y c e q => T2.offC y c e (by simpa using q)) (fun q => absurd rfl q) f10.xm f10.fm
  have g11' : GrownAt P1 h11 := by
    obtain ⟨ps, e⟩ := g9
    exact ⟨ps, k11 _ _ (by simpa using hne) (k10 _ _ e)⟩
  rw [hfl] at iv11
  rw [hval] at iv11
  refine (ev_name (k := 40) (nm := (scopeAt P01 11).names) (ρ := [("figures", .py (.list ((figF N).map PyData.int))), ("number", I N), ("pairs", .py (.list (pairsL.map pairPy))), ("script", .py (.list (ns.map PyData.int)))]) (d := I N) rfl) A env M _ f11.pre _ fun w h12 tk12 k12 iw => ?_
  have f12 := f11.sub (tk := tk12) k12
  refine cm_ne_int (k := 40) A _ v11 w f11.pre.rm (is_int.mpr (is_int.mp iv11)) (is_int.mpr (is_int.mp iw)) _ fun tk13 => wpAny_truthy_bool ?_
  have enn : (N != N) = false := by simp
  rw [enn]
  have f13 := f12.sub (tk := tk13) (Sub.refl _)
  refine (ea_or (k := 40) (nm := (scopeAt P01 11).names) (b := false) (c := false) (et_eq (et_cmp (evp_ev (evp_lc1 (ρc := [("figures", .py (.list ((figF N).map PyData.int))), ("number", I N)]) (xs := ["k"]) (bn := ["k"]) (ds := upFrom 0 10) (enc := I) (bs := fun k => [("k", I k)]) (p := fun k => (figF N).getD k.toNat 0 != (N.fdiv (2 ^ k.toNat)).fmod 2) (g := fun k => .int k)
    (by rfl) ⟨rfl, rfl, trivial⟩ (by rfl) (fun _ => rfl) (fun _ _ => rfl) (itr_rangeN (n := 10) ok b.range ev_int (by omega)) (fun _ _ => as_name (by simp)) (fun k hk => ?_) (fun k hk _ => ev_name rfl) (by rw [upFrom_length]; omega))) ev_nil (cm_ne_nil (l := (upFrom 0 10).filter fun k => (figF N).getD k.toNat 0 != (N.fdiv (2 ^ k.toNat)).fmod 2) lay_int (fun a => Nat.le_trans (depth_int a) (by decide)))) (by rw [hdig]; rfl)) fun _ => ea_or_nil) A env M _ f13.pre _ fun h14 tk14 k14 => ?_
  · have hb := mem_upFrom hk
    have hx : ((figF N).map PyData.int)[k.toNat]? = some (.int ((figF N).getD k.toNat 0)) := by
      have hl : k.toNat < (figF N).length := by rw [hfl]; omega
      rw [List.getElem?_map, List.getD_eq_getElem?_getD, List.getElem?_eq_getElem hl]
      rfl
    have hpw : (2 : Int) ^ k.toNat ≤ 2 ^ 10 := by
      have := Nat.pow_le_pow_right (n := 2) (by decide) (show k.toNat ≤ 10 by omega)
      exact_mod_cast this
    have hp0 : (0 : Int) < 2 ^ k.toNat := Int.pow_pos (by decide)
    exact ets_one (et_cmp (ev_sub (ev_name (x := "figures") rfl) (ev_name (x := "k") (d := I k) rfl) (su_list hb.1 hx (by omega))) (ev_bin (ev_bin (ev_name (x := "number") (d := I N) rfl) (ev_bin (ev_int (i := 2)) (ev_name (x := "k") (d := I k) rfl) (bi_pow hb.1 (by omega) (by decide))) (bi_div (Int.ne_of_gt hp0) (div_small (by omega)))) (ev_int (i := 2)) (bi_mod (by decide))) cm_ne_int)
  · have f14 := f13.sub (tk := tk14) k14
    refine wpAny_execs_nil (cont h14 tk14 ?_ ?_ (f14.wk ⟨rfl, rfl, rfl, trivial⟩))
    · obtain ⟨ps, e⟩ := g11'
      exact ⟨ps, k14 _ _ (k12 _ _ e)⟩
    · obtain ⟨ps, e⟩ := g11
      exact ⟨ps, k14 _ _ (k12 _ _ e)⟩
end
end Mine
namespace Mine
open PySem PySem.Calls PySem.Spec PyProof.Rows PySem.W

def lotF (figs : List Int) : List (Int × Int) := (((List.range 10).zip pairsL).filter fun q => figs.getD q.1 0 == 1).map (·.2)
def twiceF (lot : List (Int × Int)) : List Int := (rowsF lot).map rowSum
def starF (lot : List (Int × Int)) (mx : Int) : Bool := mx == 2 * (lot.length : Int)
def threeF (lot : List (Int × Int)) (ms : List Int) : Bool := ((lot.length : Int) == 3) && decide (ms = [0, 0, 4, 4, 4])

section
variable {Γ : Gl} {k : Nat} {nm : List (Str × NameKind)} {ρ : Ctx0}
theorem itr_eq {t e : PySem.Expr} {ds es : List D} (h : Itr Γ k nm ρ t e ds) (q : ds = es) : Itr Γ k nm ρ t e es := q ▸ h
theorem swap_pair_none {x y : Str} {xp yp tp vp : Pos} {kk jj : Nat} {e1 e2 : PySem.Expr} (h : (nm.lookup y == some .local) = false) : ∀ env, EnvIs nm env → swappedStores [.Tuple [.Name x xp, .Name y yp] kk tp] (.Tuple [e1, e2] jj vp) env = pure none := fun env en => by
  unfold swappedStores
  have hk : (env.kindOf y == some .local) = false := by rw [en.kindOf]; exact h
  simp only [List.length_cons, List.length_nil, List.filterMap_cons, List.filterMap_nil, hk, Bool.false_and]
  split
  · rfl
  · split
    · rfl
    · split <;> split <;> first | rfl | (rename_i h2; simp at h2)
end

section
variable {Γ : Gl} {ρ : Ctx0} {A : Around} {env : Env} {X : List Addr} {M : List Addr} {s : Shared} {Q : Flow → Shared → Prop}

abbrev lotD (lot : List (Int × Int)) : D := .py (.list (lot.map pairPy))
abbrev intsD (l : List Int) : D := .py (.list (l.map PyData.int))
structure LawDefs (Γ : Gl) (aAdd aCnt aMeets aRows aRounds aPush : Addr) : Prop where
  gAdd : Glo Γ "add_callers" (.ref aAdd)
  dAdd : DefIn Γ P01 1 "add_callers" aAdd
  gCnt : Glo Γ "count_calls" (.ref aCnt)
  dCnt : DefIn Γ P01 2 "count_calls" aCnt
  gMeets : Glo Γ "_law_meets" (.ref aMeets)
  dMeets : DefIn Γ P01 7 "_law_meets" aMeets
  gRows : Glo Γ "_law_rows" (.ref aRows)
  dRows : DefIn Γ P01 8 "_law_rows" aRows
  gRounds : Glo Γ "_law_rounds" (.ref aRounds)
  dRounds : DefIn Γ P01 9 "_law_rounds" aRounds
  gPush : Glo Γ "_law_pushed" (.ref aPush)
  dPush : DefIn Γ P01 10 "_law_pushed" aPush

set_option maxHeartbeats 4000000 in
theorem law_mid {aAdd aCnt aMeets aRows aRounds aPush : Addr} {N : Int} {figs : List Int} {lot : List (Int × Int)} {tw ms : List Int} {mx : Int} (ok : Γ.Ok) (b : BG Γ) (L : LawDefs Γ aAdd aCnt aMeets aRows aRounds aPush)
    (f : FS Γ 40 (scopeAt P01 11).names lawXs A env Γ.B X env.locals M [("figures", intsD figs), ("number", I N), ("pairs", lotD pairsL)] .none s)
    (hf : figs.length = 10) (hlot : lotF figs = lot) (hll : lot.length ≤ 10) (hl5 : ∀ p ∈ lot, InFive p) (htw : twiceF lot = tw) (htl : tw.length = 5)
    (hsum : sumN tw = 4 * (lot.length : Int)) (hcnt : ((upFrom 0 5).filter fun t => tw.getD t.toNat 0 != 2 * ((lot.filter fun p => decide (t ∈ [p.1, p.2])).length : Int)) = [])
    (hmx1 : mx ∈ tw) (hmx2 : ∀ x ∈ tw, x ≤ mx) (hms1 : ms.Perm tw) (hms2 : ms.Pairwise (· ≤ ·))
    (hbad : ((meetsF lot != (starF lot mx || threeF lot ms)) || ((meetsF lot && (decide ((lot.length : Int) > 4) && true)) || false)) = false)
    (cont : ∀ h' tk, KpX (env.locals :: X) s.heap h' → FS Γ 40 (scopeAt P01 11).names lawXs A env Γ.B X env.locals M [("meets", Bo (meetsF lot)), ("lot", lotD lot), ("pairs", lotD pairsL)] .none { s with heap := h', toks := tk } →
      wpAny (model Γ.prog Γ.w) A (execs ((bodyAt P01 11).drop 10) env) Q E0 { s with heap := h', toks := tk }) :
    wpAny (model Γ.prog Γ.w) A (execs ((bodyAt P01 11).drop 4) env) Q E0 s := by
  have elot : ((((List.range 10).zip pairsL).filter fun q => figs.getD q.1 0 == 1).map fun q => pairPy q.2) = lot.map pairPy := by
    rw [← hlot]; unfold lotF; rw [List.map_map]; rfl
  refine x_assign (x := "lot") (d := lotD lot) f (evp_ev (evp_eq (evp_lc1 (ρc := [("figures", intsD figs)]) (xs := ["k", "pair"]) (bn := ["pair", "k"]) (ds := (List.range 10).zip pairsL) (enc := fun q => .py (.tuple [.int q.1, pairPy q.2])) (bs := fun q => [("pair", .py (pairPy q.2)), ("k", I q.1)]) (p := fun q => figs.getD q.1 0 == 1) (g := fun q => pairPy q.2)
    (by rfl) ⟨rfl, trivial⟩ (by rfl) (fun _ => rfl) (fun _ _ => rfl) (itr_eq (itr_enum (ds := pairsL.map pairPy) ok b.enumerate (ev_name (x := "pairs") rfl)) (by rfl)) (fun _ _ => as_pair (by simp) (by simp)) (fun q hq => ?_) (fun q hq _ => ev_name rfl) (by decide)) elot)) (by simp) (by simp [muName]) (swap_lc (by rfl)) fun h2 tk2 k2 f2 => ?_
  · have hk : q.1 < 10 := by
      have := (List.of_mem_zip hq).1
      exact List.mem_range.mp this
    have hx : (figs.map PyData.int)[((q.1 : Nat) : Int).toNat]? = some (.int (figs.getD q.1 0)) := by
      rw [Int.toNat_natCast, List.getElem?_map, List.getD_eq_getElem?_getD, List.getElem?_eq_getElem (by omega)]
      rfl
    exact ets_one (et_cmp (ev_sub (ev_name (x := "figures") rfl) (ev_name (x := "k") (d := I q.1) rfl) (su_list (Int.natCast_nonneg _) hx (by omega))) (ev_int (i := 1)) cm_eq_int)
  refine x_assign_pair (x := "meets") (y := "twice") (d1 := .bool (meetsF lot)) (d2 := .list (tw.map PyData.int)) f2 (ev_def ok L.gMeets L.dMeets (evs_cons (ev_name (x := "lot") rfl) evs_nil) (fn_meets ok b (by omega) L.dMeets))
    (ev_eq (ev_def ok L.gRows L.dRows (evs_cons (ev_name (x := "lot") rfl) evs_nil) (fn_rows ok b (by omega) hl5 L.gAdd L.dAdd L.gCnt L.dCnt L.dRows)) (by rw [← htw]; rfl)) (by simp) (by simp) (fun z hz => by cases hz) (swap_pair_none (by rfl)) (fun _ _ => by rfl) (fun _ => rfl) (fun _ => rfl) fun h3 tk3 k3 f3 => ?_
  refine x_if_no f3 (et_eq (et_boolop (ea_or (et_cmp (ev_b1 ok b.sum (ev_name (x := "twice") (d := intsD tw) rfl) fn_sumG) (ev_bin (ev_int (i := 4)) (ev_lenM ok b (ev_name (x := "lot") rfl) (by omega)) (bi_mul (.of_left (by decide)))) cm_ne_int)
    fun _ => ea_or (et_cmp (evp_ev (evp_lc1 (ρc := [("lot", lotD lot), ("twice", intsD tw)]) (xs := ["thing"]) (bn := ["thing"]) (ds := upFrom 0 5) (enc := I) (bs := fun t => [("thing", I t)]) (p := fun t => tw.getD t.toNat 0 != 2 * ((lot.filter fun p => decide (t ∈ [p.1, p.2])).length : Int)) (g := fun t => .int t)
      (by rfl) ⟨rfl, rfl, trivial⟩ (by rfl) (fun _ => rfl) (fun _ _ => rfl) (itr_rangeN (n := 5) ok b.range ev_int (by omega)) (fun _ _ => as_name (by simp)) (fun t ht => ?_) (fun t ht _ => ev_name rfl) (by rw [upFrom_length]; omega))) ev_nil (cm_ne_nil (l := (upFrom 0 5).filter fun t => tw.getD t.toNat 0 != 2 * ((lot.filter fun p => decide (t ∈ [p.1, p.2])).length : Int)) lay_int (fun a => Nat.le_trans (depth_int a) (by decide)))) fun _ => ea_or_nil)) ?_) fun h4 tk4 k4 f4 => ?_
  · have hb := mem_upFrom ht
    have hx : (tw.map PyData.int)[t.toNat]? = some (.int (tw.getD t.toNat 0)) := by
      have hl : t.toNat < tw.length := by omega
      rw [List.getElem?_map, List.getD_eq_getElem?_getD, List.getElem?_eq_getElem hl]
      rfl
    exact ets_one (et_cmp (ev_sub (ev_name (x := "twice") rfl) (ev_name (x := "thing") (d := I t) rfl) (su_list hb.1 hx (by omega))) (ev_bin (ev_int (i := 2)) (ev_lenM (l := lot.filter fun p => decide (t ∈ [p.1, p.2])) (g := pairPy) ok b (evp_ev (evp_lc1 (ρc := [("thing", I t)]) (xs := ["pair"]) (bn := ["pair"]) (ds := lot) (enc := fun p => .py (pairPy p)) (bs := fun p => [("pair", .py (pairPy p))]) (p := fun p => decide (t ∈ [p.1, p.2])) (g := pairPy)
      (by rfl) ⟨rfl, trivial⟩ (by rfl) (fun _ => rfl) (fun _ _ => rfl) (itr_listM (ev_name (x := "lot") rfl) (.inl ⟨_, _, rfl⟩)) (fun _ _ => as_name (by simp)) (fun p hp => ets_one (et_cmp (ev_name (x := "thing") (d := I t) rfl) (ev_name (x := "pair") (d := .py (pairPy p)) rfl) cm_in_pair)) (fun p hp _ => ev_name rfl) (by omega))) (by have := List.length_filter_le (fun p : Int × Int => decide (t ∈ [p.1, p.2])) lot; omega)) (bi_mul (.of_left (by decide)))) cm_ne_int)
  · rw [hsum, hcnt]; simp
  refine x_assign (x := "star") (d := Bo (starF lot mx)) f4 (ev_cmp (ev_b1 ok b.max (ev_name (x := "twice") (d := intsD tw) rfl) (fn_max hmx1 hmx2)) (ev_bin (ev_int (i := 2)) (ev_lenM ok b (ev_name (x := "lot") rfl) (by omega)) (bi_mul (.of_left (by decide)))) cm_eq_int) (by simp) (by simp [muName]) (fun _ _ => by rfl) fun h5 tk5 k5 f5 => ?_
  refine x_assign (x := "three") (d := Bo (threeF lot ms)) f5 (ev_and2 (ev_cmp (ev_lenM ok b (ev_name (x := "lot") rfl) (by omega)) (ev_int (i := 3)) cm_eq_int) fun _ => ev_cmp (ev_b1 ok b.sorted (ev_name (x := "twice") (d := intsD tw) rfl) (fn_sorted hms1 hms2 (by omega))) (ev_list (ps := [0, 0, 4, 4, 4].map PyData.int) (evs_cons ev_int (evs_cons ev_int (evs_cons ev_int (evs_cons ev_int (evs_cons ev_int evs_nil))))) rfl (Nat.le_of_ble_eq_true rfl)) cm_eq_ints) (by simp) (by simp [muName]) (fun _ _ => by rfl) fun h6 tk6 k6 f6 => ?_
  refine x_if_no f6 (et_eq (et_boolop (ea_or (et_cmp (ev_name (d := Bo (meetsF lot)) rfl) (ev_or2 (ev_name (d := Bo (starF lot mx)) rfl) fun _ => ev_name (d := Bo (threeF lot ms)) rfl) cm_ne_bool) fun _ => ea_or (et_boolop (ea_and (et_of_ev (ev_name (d := Bo (meetsF lot)) rfl)) fun _ => ea_and (et_cmp (ev_lenM ok b (ev_name (x := "lot") rfl) (by omega)) (ev_int (i := 4)) cm_gt) fun _ => ea_and_nil)) fun _ => ea_or_nil)) hbad) fun h7 tk7 k7 f7 => ?_
  exact cont h7 tk7 (((((k2.trans k3).trans k4.kpx).trans k5).trans k6).trans k7.kpx) (f7.wk ⟨rfl, rfl, rfl, trivial⟩)
end
end Mine
namespace Mine
open PySem PySem.Calls PySem.Spec PyProof.Rows PySem.W

def ringPrev (q : List Int) (k : Int) : Int := if k == 0 then q.getD 4 0 else q.getD (k - 1).toNat 0
def sideOf (q : List Int) : List (Int × Int) := (upFrom 0 5).map fun k => sortP (ringPrev q k, q.getD k.toNat 0)
def sidesL : List (List (Int × Int)) := roundsL.map sideOf
abbrev sidePy (sd : List (Int × Int)) : PyData := .list (sd.map pairPy)
def tFold (th : List (Int × Int)) : Row := (th.map fun p => (([.inr p.1, .inr p.2] : KeyT), (1 : Int))).foldl (fun r p => rowPut r p.1 p.2) []
def lowHigh : List (Int × Int) := [(0, 4), (1, 3), (0, 1)]
def pushBad (lot : List (Int × Int)) (lh : Int × Int) : Bool :=
  ((tFold (lot.map (pushOne lot lh.1 lh.2))).length : Int) != (lot.length : Int) || ((meetsF lot && (!meetsF (lot.map (pushOne lot lh.1 lh.2)) && true)) || false)

section
variable {Γ : Gl} {k : Nat} {nm : List (Str × NameKind)} {ρ : Ctx0}
theorem ev_def0 {x name : Str} {params : Arguments} {body : List Stmt} {scope : Scope} {ppos pos : Pos} {a : Addr} {r : D} (ok : Γ.Ok) (g : Glo Γ x (.ref a)) (d : DefAt Γ a name params body scope) (hf : Fn Γ k (.ref a) [] r)
    (hk : nm.lookup x = some .globalImplicit := by rfl) (hd : (x == ("__debug__" : Str)) = false := by decide +kernel) : Ev Γ k nm ρ (.Call (.Name x ppos) [] [] pos) r := by
  intro A env M s p Q hQ
  obtain ⟨o, pm, cd, doc, h1, h2, h3⟩ := d.at_
  refine Call_ (load_glo ok p.en p.base g hk hd ?_) (by rfl)
  refine callWith_F0 (by
    have e1 := p.base _ _ h1
    obtain ⟨c, dd, dat, sl⟩ := o
    simp only at h2
    subst h2
    exact ⟨_, _, _, _, e1⟩) (hf A M s [] p.rm p.base p.live .nil Q hQ)

theorem ring_get {q : List Int} (hq : q.length = 5) {i : Int} (h0 : 0 ≤ i) (h5 : i < 5) : Su Γ k (.py (ringPy q)) (I i) (I (q.getD i.toNat 0)) := by
  have e : ((i.toNat : Nat) : Int) = i := Int.toNat_of_nonneg h0
  have h := su_tuple_nat (Γ := Γ) (k := k) (ds := q.map PyData.int) (i := i.toNat) (r := .int (q.getD i.toNat 0)) (by
    rw [List.getElem?_map, List.getD_eq_getElem?_getD, List.getElem?_eq_getElem (by omega)]
    rfl) (by rw [List.length_map]; omega)
  rwa [e] at h
theorem ring_prev {q : List Int} (hq : q.length = 5) {i : Int} (h0 : 0 ≤ i) (h5 : i < 5) : Su Γ k (.py (ringPy q)) (I (i - 1)) (I (ringPrev q i)) := by
  unfold ringPrev
  by_cases h : i = 0
  · subst h
    have h := su_tuple_last (Γ := Γ) (k := k) (ds := q.map PyData.int) (r := .int (q.getD 4 0)) (by
      rw [List.length_map, hq, List.getElem?_map, List.getD_eq_getElem?_getD, List.getElem?_eq_getElem (by omega)]
      rfl) (by rw [List.length_map]; omega)
    exact h
  · have hb : (i == 0) = false := beq_eq_false_iff_ne.mpr h
    rw [hb]
    exact ring_get hq (by omega) (by omega)
end

section
variable {Γ : Gl} {ρ : Ctx0} {A : Around} {env : Env} {X : List Addr} {M : List Addr} {s : Shared} {Q : Flow → Shared → Prop}
set_option maxHeartbeats 4000000 in
theorem law_last {aAdd aCnt aMeets aRows aRounds aPush : Addr} {lot : List (Int × Int)} {mo : Int} (ok : Γ.Ok) (b : BG Γ) (L : LawDefs Γ aAdd aCnt aMeets aRows aRounds aPush)
    (f : FS Γ 40 (scopeAt P01 11).names lawXs A env Γ.B X env.locals M [("meets", Bo (meetsF lot)), ("lot", lotD lot), ("pairs", lotD pairsL)] .none s)
    (hll : lot.length ≤ 10) (hr12 : roundsL.length = 12) (hr5 : ∀ q ∈ roundsL, q.length = 5)
    (hsix : (pairsL.filter fun p => ((sidesL.filter fun sd => decide (p ∈ sd)).length : Int) != 6) = [])
    (hmo1 : mo ∈ sidesL.map fun sd => ((sd.filter fun p => decide (p ∈ lot)).length : Int)) (hmo2 : ∀ x ∈ sidesL.map (fun sd => ((sd.filter fun p => decide (p ∈ lot)).length : Int)), x ≤ mo)
    (hkat : ((meetsF lot && (decide (mo > 2) && true)) || (decide (6 * (lot.length : Int) > 12 * mo) || false)) = false)
    (hpush : ∀ lh ∈ lowHigh, pushBad lot lh = false)
    (fin : ∀ h' tk, KpX (env.locals :: X) s.heap h' → Q (.ret (.bool true)) { s with heap := h', toks := tk }) :
    wpAny (model Γ.prog Γ.w) A (execs ((bodyAt P01 11).drop 10) env) Q E0 s := by
  have hsl : sidesL.length = 12 := by unfold sidesL; rw [List.length_map, hr12]
  refine x_assign (x := "rounds") (d := .py (.list (roundsL.map ringPy))) f (ev_def0 ok L.gRounds L.dRounds (fn_rounds ok b L.dRounds)) (by simp) (by simp [muName]) (fun _ _ => by rfl) fun h1 tk1 k1 f1 => ?_
  refine x_if_no f1 (et_eq (et_cmp (ev_lenM ok b (ev_name (x := "rounds") rfl) (by omega)) (ev_int (i := 12)) cm_ne_int) (by rw [hr12]; rfl)) fun h2 tk2 k2 f2 => ?_
  have esd : ∀ q, ((upFrom 0 5).filter fun _ => true).map (fun k => pairPy (sortP (ringPrev q k, q.getD k.toNat 0))) = (sideOf q).map pairPy := fun q => by
    unfold sideOf
    rw [List.filter_eq_self.mpr (fun _ _ => rfl), List.map_map]
    rfl
  have esl : ((roundsL.filter fun _ => true).map fun q => sidePy (sideOf q)) = sidesL.map sidePy := by
    unfold sidesL
    rw [List.filter_eq_self.mpr (fun _ _ => rfl), List.map_map]
    rfl
  refine x_assign (x := "sides") (d := .py (.list (sidesL.map sidePy))) f2 (evp_ev (evp_eq (evp_lc1 (ρc := []) (xs := ["ring"]) (bn := ["ring"]) (ds := roundsL) (enc := fun q => .py (ringPy q)) (bs := fun q => [("ring", .py (ringPy q))]) (p := fun _ => true) (g := fun q => sidePy (sideOf q))
    (by rfl) trivial (by rfl) (fun _ => rfl) (fun _ _ => rfl) (itr_listM (ev_name (x := "rounds") rfl) (.inl ⟨_, _, rfl⟩)) (fun _ _ => as_name (by simp)) (fun _ _ => ets_nil) (fun q hq _ => ?_) (by omega)) esl)) (by simp) (by simp [muName]) (swap_lc (by rfl)) fun h3 tk3 k3 f3 => ?_
  · have hq5 := hr5 q hq
    refine evp_ev (evp_eq (evp_lc1 (ρc := [("ring", .py (ringPy q))]) (xs := ["k"]) (bn := ["k"]) (ds := upFrom 0 5) (enc := I) (bs := fun k => [("k", I k)]) (p := fun _ => true) (g := fun k => pairPy (sortP (ringPrev q k, q.getD k.toNat 0)))
      (by rfl) ⟨rfl, trivial⟩ (by rfl) (fun _ => rfl) (fun _ _ => rfl) (itr_rangeN (n := 5) ok b.range ev_int (by omega)) (fun _ _ => as_name (by simp)) (fun _ _ => ets_nil) (fun k hk _ => ?_) (by rw [upFrom_length]; omega)) (esd q))
    have hb := mem_upFrom hk
    exact ev_sortP (p := (ringPrev q k, q.getD k.toNat 0)) ok b (ev_list (ps := [.int (ringPrev q k), .int (q.getD k.toNat 0)]) (evs_cons (ev_sub (ev_name (x := "ring") rfl) (ev_bin (ev_name (x := "k") (d := I k) rfl) (ev_int (i := 1)) bi_sub) (ring_prev hq5 hb.1 (by omega))) (evs_cons (ev_sub (ev_name (x := "ring") rfl) (ev_name (x := "k") (d := I k) rfl) (ring_get hq5 hb.1 (by omega))) evs_nil)) rfl (Nat.le_of_ble_eq_true rfl))
  refine x_if_no f3 (et_eq (et_cmp (evp_ev (evp_lc1 (ρc := [("sides", .py (.list (sidesL.map sidePy)))]) (xs := ["pair"]) (bn := ["pair"]) (ds := pairsL) (enc := fun p => .py (pairPy p)) (bs := fun p => [("pair", .py (pairPy p))]) (p := fun p => ((sidesL.filter fun sd => decide (p ∈ sd)).length : Int) != 6) (g := pairPy)
    (by rfl) ⟨rfl, trivial⟩ (by rfl) (fun _ => rfl) (fun _ _ => rfl) (itr_listM (ev_name (x := "pairs") rfl) (.inl ⟨_, _, rfl⟩)) (fun _ _ => as_name (by simp)) (fun p hp => ?_) (fun p hp _ => ev_name rfl) (by decide))) ev_nil (cm_ne_nil (l := pairsL.filter fun p => ((sidesL.filter fun sd => decide (p ∈ sd)).length : Int) != 6) lay_pair (fun a => Nat.le_trans (depth_pair a) (by decide)))) (by rw [hsix]; rfl)) fun h4 tk4 k4 f4 => ?_
  · exact ets_one (et_cmp (ev_lenM (l := sidesL.filter fun sd => decide (p ∈ sd)) (g := fun _ => .int 1) ok b (evp_ev (evp_lc1 (ρc := [("pair", .py (pairPy p))]) (xs := ["side"]) (bn := ["side"]) (ds := sidesL) (enc := fun sd => .py (sidePy sd)) (bs := fun sd => [("side", .py (sidePy sd))]) (p := fun sd => decide (p ∈ sd)) (g := fun _ => .int 1)
      (by rfl) ⟨rfl, trivial⟩ (by rfl) (fun _ => rfl) (fun _ _ => rfl) (itr_listM (ev_name (x := "sides") rfl) (.inl ⟨_, _, rfl⟩)) (fun _ _ => as_name (by simp)) (fun sd _ => ets_one (et_cmp (ev_name (x := "pair") (d := .py (pairPy p)) rfl) (ev_name (x := "side") (d := .py (sidePy sd)) rfl) cm_in_pairs)) (fun _ _ _ => ev_int) (by omega))) (by have := List.length_filter_le (fun sd : List (Int × Int) => decide (p ∈ sd)) sidesL; omega)) (ev_int (i := 6)) cm_ne_int)
  have hlens : ∀ sd ∈ sidesL, sd.length = 5 := fun sd hsd => by
    unfold sidesL at hsd
    obtain ⟨q, _, rfl⟩ := List.mem_map.mp hsd
    unfold sideOf
    rw [List.length_map, upFrom_length]
  have emo : ((sidesL.filter fun _ => true).map fun sd => PyData.int ((sd.filter fun p => decide (p ∈ lot)).length : Int)) = (sidesL.map fun sd => ((sd.filter fun p => decide (p ∈ lot)).length : Int)).map PyData.int := by
    rw [List.filter_eq_self.mpr (fun _ _ => rfl), List.map_map]
    rfl
  refine x_assign (x := "most") (d := I mo) f4 (ev_b1 ok b.max (evp_ev (evp_eq (evp_lc1 (ρc := [("lot", lotD lot)]) (xs := ["side"]) (bn := ["side"]) (ds := sidesL) (enc := fun sd => .py (sidePy sd)) (bs := fun sd => [("side", .py (sidePy sd))]) (p := fun _ => true) (g := fun sd => .int ((sd.filter fun p => decide (p ∈ lot)).length : Int))
    (by rfl) ⟨rfl, trivial⟩ (by rfl) (fun _ => rfl) (fun _ _ => rfl) (itr_listM (ev_name (x := "sides") rfl) (.inl ⟨_, _, rfl⟩)) (fun _ _ => as_name (by simp)) (fun _ _ => ets_nil) (fun sd hsd _ => ?_) (by omega)) emo)) (fn_max hmo1 hmo2)) (by simp) (by simp [muName]) (fun _ _ => by rfl) fun h5 tk5 k5 f5 => ?_
  · exact ev_lenM (l := sd.filter fun p => decide (p ∈ lot)) (g := pairPy) ok b (evp_ev (evp_lc1 (ρc := [("lot", lotD lot)]) (xs := ["pair"]) (bn := ["pair"]) (ds := sd) (enc := fun p => .py (pairPy p)) (bs := fun p => [("pair", .py (pairPy p))]) (p := fun p => decide (p ∈ lot)) (g := pairPy)
      (by rfl) ⟨rfl, trivial⟩ (by rfl) (fun _ => rfl) (fun _ _ => rfl) (itr_listM (ev_name (x := "side") rfl) (.inl ⟨_, _, rfl⟩)) (fun _ _ => as_name (by simp)) (fun p hp => ets_one (et_cmp (ev_name (x := "pair") (d := .py (pairPy p)) rfl) (ev_name (x := "lot") (d := lotD lot) rfl) cm_in_pairs)) (fun p hp _ => ev_name rfl) (by rw [hlens sd hsd]; omega))) (by have := List.length_filter_le (fun p : Int × Int => decide (p ∈ lot)) sd; rw [hlens sd hsd] at this; omega)
  refine x_if_no f5 (et_eq (et_boolop (ea_or (et_boolop (ea_and (et_of_ev (ev_name (d := Bo (meetsF lot)) rfl)) fun _ => ea_and (et_cmp (ev_name (d := I mo) rfl) (ev_int (i := 2)) cm_gt) fun _ => ea_and_nil)) fun _ => ea_or (et_cmp (ev_bin (ev_int (i := 6)) (ev_lenM ok b (ev_name (x := "lot") rfl) (by omega)) (bi_mul (.of_left (by decide)))) (ev_bin (ev_int (i := 12)) (ev_name (d := I mo) rfl) (bi_mul (.of_left (by decide)))) cm_gt) fun _ => ea_or_nil)) hkat) fun h6 tk6 k6 f6 => ?_
  have f7 := f6.wk (ρ' := [("meets", Bo (meetsF lot)), ("lot", lotD lot)]) ⟨rfl, rfl, trivial⟩
  refine x_for (items := lowHigh) (enc := fun p => .py (pairPy p)) (bs := fun p => [("high", I p.2), ("low", I p.1)]) (ρf := fun _ => [("meets", Bo (meetsF lot)), ("lot", lotD lot)]) (μf := fun _ => .none) f7 (itr_listM (g := pairPy) (l := lowHigh) (ev_list (ps := lowHigh.map pairPy) (evs_cons (ev_tuple (ps := [.int 0, .int 4]) (evs_cons ev_int (evs_cons ev_int evs_nil)) rfl (Nat.le_of_ble_eq_true rfl)) (evs_cons (ev_tuple (ps := [.int 1, .int 3]) (evs_cons ev_int (evs_cons ev_int evs_nil)) rfl (Nat.le_of_ble_eq_true rfl)) (evs_cons (ev_tuple (ps := [.int 0, .int 1]) (evs_cons ev_int (evs_cons ev_int evs_nil)) rfl (Nat.le_of_ble_eq_true rfl)) evs_nil))) rfl (Nat.le_of_ble_eq_true rfl)) (.inr ⟨⟨_, _, _, rfl⟩, fun _ => ⟨_, rfl⟩⟩))
    (fun _ _ => as_pair (by simp) (by simp)) (fun _ _ _ x hx => by simp [muName] at hx) (fun _ _ => rfl) (fun i lh hi M' s' f8 Q' hQ' => ?_) fun h9 tk9 k9 f9 => ?_
  · have hbadF := hpush lh (List.mem_of_getElem? hi)
    refine x_assign (x := "there") (d := lotD (lot.map (pushOne lot lh.1 lh.2))) f8 (ev_def ok L.gPush L.dPush (evs_cons (ev_name (d := lotD lot) rfl) (evs_cons (ev_name (d := I lh.1) rfl) (evs_cons (ev_name (d := I lh.2) rfl) evs_nil))) (fn_pushed ok b (by omega) L.dPush)) (by simp) (by simp [muName]) (fun _ _ => by rfl) fun h10 tk10 k10 f10 => ?_
    have hth : (lot.map (pushOne lot lh.1 lh.2)).length ≤ 10 := by rw [List.length_map]; exact hll
    unfold pushBad at hbadF
    generalize lot.map (pushOne lot lh.1 lh.2) = th at *
    have etf : dkFold (tupDK Γ) (th.map fun p => (([.inr p.1, .inr p.2] : KeyT), (1 : Int))) = tFold th := rfl
    have etl : (tFold th).length ≤ 1000000 := by
      rw [← etf]
      refine Nat.le_trans (dkFold_len (tupDK Γ) _) ?_
      rw [List.length_map]
      omega
    refine x_if_no f10 (et_eq (et_boolop (ea_or (et_cmp (d := I ((tFold th).length : Int)) (ev_b1 ok b.len (ev_dict (tupDK Γ) (ps := th.map fun p => (([.inr p.1, .inr p.2] : KeyT), (1 : Int))) ok b.dict (evp_eq (evp_lc1 (ρc := []) (xs := ["pair"]) (bn := ["pair"]) (ds := th) (enc := fun p => .py (pairPy p)) (bs := fun p => [("pair", .py (pairPy p))]) (p := fun _ => true) (g := fun p => .tuple [pairPy p, .int 1])
        (by rfl) trivial (by rfl) (fun _ => rfl) (fun _ _ => rfl) (itr_listM (ev_name (x := "there") rfl) (.inl ⟨_, _, rfl⟩)) (fun _ _ => as_name (by simp)) (fun _ _ => ets_nil)
        (fun p _ _ => ev_tuple (ps := [pairPy p, .int 1]) (evs_cons (ev_name rfl) (evs_cons ev_int evs_nil)) rfl (Nat.le_of_ble_eq_true rfl)) (by omega)) (by rw [List.filter_eq_self.mpr (fun _ _ => rfl), List.map_map]; rfl)) (by rw [List.length_map]; exact lc1_len (by omega))) (fn_len_tdict etl)) (ev_lenM ok b (ev_name (x := "lot") rfl) (by omega)) cm_ne_int)
        fun _ => ea_or (et_boolop (ea_and (et_of_ev (ev_name (d := Bo (meetsF lot)) rfl)) fun _ => ea_and (et_not (et_of_ev (ev_def ok L.gMeets L.dMeets (evs_cons (ev_name (d := lotD th) rfl) evs_nil) (fn_meets ok b (by omega) L.dMeets)))) fun _ => ea_and_nil)) fun _ => ea_or_nil)) hbadF) fun h11 tk11 k11 f11 => ?_
    exact wpAny_execs_nil (hQ' h11 tk11 (k10.trans k11.kpx) (f11.wk ⟨rfl, rfl, trivial⟩))
  · refine x_return f9 (ev_bool (b := true)) fun v h10 tk10 k10 iv => ?_
    obtain rfl := is_bool.mp iv
    exact fin h10 tk10 ((((((((k1.trans k2.kpx).trans k3).trans k4.kpx).trans k5).trans k6.kpx).trans k9)).trans k10.kpx)
end
end Mine
namespace Mine
open PySem PySem.Calls PySem.Spec PyProof.Rows PySem.W

def rsum : Row → Int
  | [] => 0
  | kv :: r => kv.2 + rsum r
theorem foldl_rsum : ∀ (r : Row) (a : Int), r.foldl (fun a kv => a + kv.2) a = a + rsum r
  | [], a => by simp [rsum]
  | kv :: r, a => by rw [List.foldl_cons, foldl_rsum r]; simp only [rsum]; omega
theorem rowSum_eq (r : Row) : rowSum r = rsum r := by unfold rowSum; rw [foldl_rsum]; omega
theorem rsum_append (a b : Row) : rsum (a ++ b) = rsum a + rsum b := by
  induction a with
  | nil => simp [rsum]
  | cons kv a ih => simp only [List.cons_append, rsum, ih]; omega
abbrev KN (r : Row) : Prop := (r.map (·.1)).Nodup
theorem has_iff {r : Row} {K : KeyT} : rowHas r K = true ↔ K ∈ r.map (·.1) := by
  unfold rowHas
  rw [List.any_eq_true]
  constructor
  · rintro ⟨kv, h1, h2⟩
    exact List.mem_map.mpr ⟨kv, h1, of_decide_eq_true h2⟩
  · intro h
    obtain ⟨kv, h1, h2⟩ := List.mem_map.mp h
    exact ⟨kv, h1, decide_eq_true h2⟩
theorem has_false {r : Row} {K : KeyT} (h : K ∉ r.map (·.1)) : rowHas r K = false := by
  cases e : rowHas r K with
  | false => rfl
  | true => exact absurd (has_iff.mp e) h
theorem copy_app : ∀ (r acc : Row), KN (acc ++ r) → r.foldl (fun acc kv => rowPut acc kv.1 kv.2) acc = acc ++ r
  | [], acc, h => by simp
  | kv :: r, acc, h => by
    have hn : kv.1 ∉ acc.map (·.1) := by
      unfold KN at h
      rw [List.map_append, List.map_cons, List.nodup_append] at h
      intro q
      exact h.2.2 _ q _ (.head _) rfl
    have e : rowPut acc kv.1 kv.2 = acc ++ [kv] := by unfold rowPut; rw [has_false hn]; rfl
    rw [List.foldl_cons, e, copy_app r (acc ++ [kv]) (by rw [List.append_assoc]; exact h), List.append_assoc]
    rfl
theorem copy_id {r : Row} (h : KN r) : rowCopy r = r := by
  have := copy_app r [] (by simpa using h)
  simpa [rowCopy] using this
theorem put_keys {r : Row} {K : KeyT} {i : Int} (h : rowHas r K = true) : (rowPut r K i).map (·.1) = r.map (·.1) := by
  unfold rowPut
  rw [if_pos h, List.map_map]
  refine List.map_congr_left fun kv _ => ?_
  show (if kv.1 = K then (kv.1, i) else kv).1 = kv.1
  split <;> rfl
theorem map_off {r : Row} {K : KeyT} {i : Int} (h : K ∉ r.map (·.1)) : (r.map fun kv => if kv.1 = K then (kv.1, i) else kv) = r := by
  induction r with
  | nil => rfl
  | cons kv r ih =>
    rw [List.map_cons, List.mem_cons, not_or] at h
    rw [List.map_cons, if_neg (fun q => h.1 q.symm), ih h.2]
theorem put_sum : ∀ {r : Row} {K : KeyT}, KN r → rowHas r K = true → rsum (r.map fun kv => if kv.1 = K then (kv.1, rowGet r K + 1) else kv) = rsum r + 1
  | [], K, _, h => by simp [rowHas] at h
  | kv :: r, K, hn, h => by
    have hn2 : kv.1 ∉ r.map (·.1) ∧ KN r := by
      have := hn
      unfold KN at this
      rw [List.map_cons, List.nodup_cons] at this
      exact this
    by_cases q : kv.1 = K
    · have e : rowGet (kv :: r) K = kv.2 := by unfold rowGet; rw [List.find?_cons_of_pos (by simpa using q)]; rfl
      rw [e, List.map_cons, if_pos q, map_off (q ▸ hn2.1)]
      simp only [rsum]; omega
    · have e : rowGet (kv :: r) K = rowGet r K := by unfold rowGet; rw [List.find?_cons_of_neg (by simpa using q)]
      have h' : rowHas r K = true := by
        have := has_iff.mp h
        rw [List.map_cons] at this
        rcases List.mem_cons.mp this with z | z
        · exact absurd z.symm q
        · exact has_iff.mpr z
      rw [e, List.map_cons, if_neg q]
      simp only [rsum]
      have := put_sum hn2.2 h'
      omega
theorem add_one {r : Row} (K : KeyT) (h : KN r) : KN (rowAdd r [(K, 1)]) ∧ rowSum (rowAdd r [(K, 1)]) = rowSum r + 1 := by
  have e : rowAdd r [(K, 1)] = rowStep r (K, 1) := by unfold rowAdd; rw [copy_id h]; rfl
  rw [e, rowSum_eq, rowSum_eq]
  unfold rowStep
  cases hh : rowHas r K with
  | true =>
    simp only [if_true]
    refine ⟨by unfold KN; rw [put_keys hh]; exact h, ?_⟩
    have : rowPut r K (rowGet r K + 1) = r.map fun kv => if kv.1 = K then (kv.1, rowGet r K + 1) else kv := by
      unfold rowPut; rw [if_pos hh]
    show rsum (rowPut r K (rowGet r K + 1)) = _
    rw [this]
    exact put_sum h hh
  | false =>
    simp only [Bool.false_eq_true, if_false]
    have hn : K ∉ r.map (·.1) := fun q => by rw [has_iff.mpr q] at hh; cases hh
    have e2 : rowPut r K 1 = r ++ [(K, 1)] := by unfold rowPut; rw [hh]; rfl
    show KN (rowPut r K 1) ∧ rsum (rowPut r K 1) = _
    rw [e2]
    refine ⟨?_, by rw [rsum_append]; rfl⟩
    unfold KN
    rw [List.map_append, List.nodup_append]
    refine ⟨h, by simp, fun a ha b hb => ?_⟩
    simp at hb
    subst hb
    exact fun q => hn (q ▸ ha)
end Mine
namespace Mine
open PySem PySem.Calls PySem.Spec PyProof.Rows PySem.W
/-- a pair of two places, the less first -/
abbrev Ord (t : Int × Int) : Prop := 0 ≤ t.1 ∧ t.1 < t.2 ∧ t.2 < 5
theorem Ord.five {t : Int × Int} (h : Ord t) : InFive t := ⟨h.1, by omega, by omega, h.2.2⟩

def ksOf (rs : List Row) (p : Nat) : List KeyT := (rs.getD p []).map (·.1)
def smOf (rs : List Row) (p : Nat) : Int := rowSum (rs.getD p [])
theorem getD_set {rs : List Row} {i p : Nat} {r : Row} (hi : i < rs.length) : (rs.set i r).getD p [] = if i = p then r else rs.getD p [] := by
  rw [List.getD_eq_getElem?_getD, List.getD_eq_getElem?_getD, List.getElem?_set]
  split
  · rename_i h
    subst h
    first | rfl | (rw [if_pos hi]; rfl)
  · rfl
theorem add_keys {r : Row} (K : KeyT) (h : KN r) : (rowAdd r [(K, 1)]).map (·.1) = if rowHas r K then r.map (·.1) else r.map (·.1) ++ [K] := by
  have e : rowAdd r [(K, 1)] = rowStep r (K, 1) := by unfold rowAdd; rw [copy_id h]; rfl
  rw [e]
  unfold rowStep
  cases hh : rowHas r K with
  | true =>
    simp only [if_true]
    exact put_keys hh
  | false =>
    simp only [Bool.false_eq_true, if_false]
    unfold rowPut; rw [hh]; simp
structure Fine (rs : List Row) : Prop where
  len : rs.length = 5
  kn : ∀ p, KN (rs.getD p [])
theorem bump_fine {rs : List Row} {i j : Int} (h : Fine rs) (hi : 0 ≤ i) (h5 : i < 5) : Fine (bump rs i j) ∧ (∀ p : Nat, smOf (bump rs i j) p = smOf rs p + if i.toNat = p then 1 else 0) ∧
    ∀ p : Nat, ksOf (bump rs i j) p = if i.toNat = p then (if rowHas (rs.getD p []) (keyW j) then ksOf rs p else ksOf rs p ++ [keyW j]) else ksOf rs p := by
  have hl : i.toNat < rs.length := by rw [h.len]; omega
  obtain ⟨a1, a2⟩ := add_one (keyW j) (h.kn i.toNat)
  have g : ∀ p, (bump rs i j).getD p [] = if i.toNat = p then rowAdd (rs.getD i.toNat []) [(keyW j, 1)] else rs.getD p [] := fun p => by unfold bump; exact getD_set hl
  refine ⟨⟨by unfold bump; rw [List.length_set]; exact h.len, fun p => ?_⟩, fun p => ?_, fun p => ?_⟩
  · rw [g p]; split
    · exact a1
    · exact h.kn p
  · unfold smOf; rw [g p]; split
    · rename_i e; subst e; exact a2
    · omega
  · unfold ksOf; rw [g p]; split
    · rename_i e; subst e; exact add_keys _ (h.kn _)
    · rfl
/-- the sum of a row goes up by one for each tie of the place -/
theorem turn_sum : ∀ {ties : List (Int × Int)} {rs : List Row}, (∀ t ∈ ties, Ord t) → Fine rs → Fine (turnR ties rs) ∧ ∀ p : Nat, smOf (turnR ties rs) p = smOf rs p + ((ties.filter fun t => decide ((p : Int) ∈ [t.1, t.2])).length : Int)
  | [], rs, _, h => ⟨h, fun p => by simp [turnR]⟩
  | t :: ties, rs, ho, h => by
    have ht := ho t (.head _)
    obtain ⟨f1, s1, _⟩ := bump_fine (j := t.2) h ht.1 (i := t.1) (by omega)
    obtain ⟨f2, s2, _⟩ := bump_fine (j := t.1) f1 (i := t.2) (by omega) ht.2.2
    obtain ⟨f3, s3⟩ := turn_sum (ties := ties) (fun q hq => ho q (.tail _ hq)) f2
    refine ⟨f3, fun p => ?_⟩
    have e : turnR (t :: ties) rs = turnR ties (bump (bump rs t.1 t.2) t.2 t.1) := rfl
    rw [e, s3 p, s2 p, s1 p, List.filter_cons]
    by_cases q1 : t.1.toNat = p
    · have hp : decide ((p : Int) ∈ [t.1, t.2]) = true := decide_eq_true (by rw [← q1, Int.toNat_of_nonneg ht.1]; exact .head _)
      rw [if_pos q1, if_neg (by omega), hp, if_pos rfl, List.length_cons]
      omega
    · by_cases q2 : t.2.toNat = p
      · have hp : decide ((p : Int) ∈ [t.1, t.2]) = true := decide_eq_true (by rw [← q2, Int.toNat_of_nonneg (by omega)]; exact .tail _ (.head _))
        rw [if_neg q1, if_pos q2, hp, if_pos rfl, List.length_cons]
        omega
      · have hp : decide ((p : Int) ∈ [t.1, t.2]) = false := decide_eq_false fun z => by
          simp only [List.mem_cons, List.not_mem_nil, or_false] at z
          omega
        rw [if_neg q1, if_neg q2, hp]
        simp
theorem fine0 : Fine (List.replicate 5 []) := ⟨rfl, fun p => by
  have : (List.replicate 5 ([] : Row)).getD p [] = [] := by
    rw [List.getD_eq_getElem?_getD, List.getElem?_replicate]
    split <;> rfl
  rw [this]; exact List.nodup_nil⟩

theorem rows_sum {lot : List (Int × Int)} (ho : ∀ t ∈ lot, Ord t) : (rowsF lot).length = 5 ∧ ∀ p : Nat, rowSum ((rowsF lot).getD p []) = 2 * ((lot.filter fun t => decide ((p : Int) ∈ [t.1, t.2])).length : Int) := by
  have z0 : ∀ p : Nat, (List.replicate 5 ([] : Row)).getD p [] = [] := fun p => by
    rw [List.getD_eq_getElem?_getD, List.getElem?_replicate]
    split <;> rfl
  obtain ⟨c1, c2⟩ := turn_sum ho fine0
  obtain ⟨d1, d2⟩ := turn_sum ho c1
  have e : rowsF lot = turnR lot (turnR lot (List.replicate 5 [])) := rfl
  refine ⟨by rw [e]; exact d1.len, fun p => ?_⟩
  rw [e]
  have z : smOf (List.replicate 5 []) p = 0 := by unfold smOf; rw [z0]; rfl
  have := d2 p
  rw [c2 p, z] at this
  have this' : rowSum ((turnR lot (turnR lot (List.replicate 5 []))).getD p []) = _ := this
  rw [this']
  omega
end Mine
namespace Mine
open PySem PySem.Calls PySem.Spec PyProof.Rows PySem.W
def mxOf : List Int → Int
  | [] => 0
  | [x] => x
  | x :: r => let m := mxOf r; if m ≤ x then x else m
def insI (x : Int) : List Int → List Int
  | [] => [x]
  | y :: r => if x ≤ y then x :: y :: r else y :: insI x r
def sortI (l : List Int) : List Int := l.foldr insI []
theorem mxOf_spec : ∀ {l : List Int}, l ≠ [] → mxOf l ∈ l ∧ ∀ x ∈ l, x ≤ mxOf l
  | [], h => absurd rfl h
  | [x], _ => ⟨.head _, fun y hy => by simp at hy; subst hy; exact Int.le_refl _⟩
  | x :: y :: r, _ => by
    obtain ⟨a, b⟩ := mxOf_spec (l := y :: r) (by simp)
    show (if mxOf (y :: r) ≤ x then x else mxOf (y :: r)) ∈ _ ∧ ∀ z ∈ _, z ≤ (if mxOf (y :: r) ≤ x then x else mxOf (y :: r))
    split
    · rename_i h
      refine ⟨.head _, fun z hz => ?_⟩
      rcases List.mem_cons.mp hz with q | q
      · subst q; exact Int.le_refl _
      · exact Int.le_trans (b z q) h
    · rename_i h
      refine ⟨.tail _ a, fun z hz => ?_⟩
      rcases List.mem_cons.mp hz with q | q
      · subst q; omega
      · exact b z q
theorem insI_perm (x : Int) : ∀ l : List Int, (insI x l).Perm (x :: l)
  | [] => .refl _
  | y :: r => by
    unfold insI
    split
    · exact .refl _
    · exact ((insI_perm x r).cons y).trans (.swap ..)
theorem insI_mem {x z : Int} {l : List Int} (h : z ∈ insI x l) : z = x ∨ z ∈ l := by
  have := (insI_perm x l).mem_iff.mp h
  exact List.mem_cons.mp this
theorem insI_sorted (x : Int) : ∀ {l : List Int}, l.Pairwise (· ≤ ·) → (insI x l).Pairwise (· ≤ ·)
  | [], _ => by simp [insI]
  | y :: r, h => by
    have h' := List.pairwise_cons.mp h
    unfold insI
    split
    · rename_i hx
      refine List.pairwise_cons.mpr ⟨fun z hz => ?_, h⟩
      rcases List.mem_cons.mp hz with q | q
      · subst q; exact hx
      · exact Int.le_trans hx (h'.1 z q)
    · rename_i hx
      refine List.pairwise_cons.mpr ⟨fun z hz => ?_, insI_sorted x h'.2⟩
      rcases insI_mem hz with q | q
      · subst q; omega
      · exact h'.1 z q
theorem sortI_perm : ∀ l : List Int, (sortI l).Perm l
  | [] => .refl _
  | x :: l => (insI_perm x (sortI l)).trans ((sortI_perm l).cons x)
theorem sortI_sorted : ∀ l : List Int, (sortI l).Pairwise (· ≤ ·)
  | [] => .nil
  | x :: l => insI_sorted x (sortI_sorted l)
abbrev tk2 (p : Int × Int) : KeyT := [.inr p.1, .inr p.2]
theorem tk2_inj {p q : Int × Int} (h : tk2 p = tk2 q) : p = q := by
  obtain ⟨a, b⟩ := p
  obtain ⟨c, d⟩ := q
  simpa using h
theorem tFold_len {l : List (Int × Int)} (h : l.Nodup) : (tFold l).length = l.length := by
  have e : tFold l = rowCopy (l.map fun p => (tk2 p, (1 : Int))) := rfl
  have hk : KN (l.map fun p => (tk2 p, (1 : Int))) := by
    unfold KN
    rw [List.map_map]
    exact List.Pairwise.map _ (fun a b (hab : a ≠ b) hq => hab (tk2_inj hq)) h
  rw [e, copy_id hk, List.length_map]
end Mine
namespace Mine
open PySem PySem.Calls PySem.Spec PyProof.Rows PySem.W

theorem and_hi (x s : Nat) : x &&& (x / 2 ^ s * 2 ^ s) = x / 2 ^ s * 2 ^ s := by
  apply Nat.eq_of_testBit_eq
  intro i
  rw [Nat.testBit_and, Nat.testBit_mul_two_pow, Nat.testBit_div_two_pow]
  by_cases h : s ≤ i
  · rw [decide_eq_true h, show i - s + s = i by omega]; simp
  · rw [decide_eq_false h]; simp
theorem or_hi (x s : Nat) : x ||| (x / 2 ^ s * 2 ^ s) = x := by
  apply Nat.eq_of_testBit_eq
  intro i
  rw [Nat.testBit_or, Nat.testBit_mul_two_pow, Nat.testBit_div_two_pow]
  by_cases h : s ≤ i
  · rw [decide_eq_true h, show i - s + s = i by omega]; simp
  · rw [decide_eq_false h]; simp
theorem digUp_nat (X s : Nat) : digUp (X : Int) s = ((X / 2 ^ s : Nat) : Int) := by
  unfold digUp
  have hp : (0 : Int) < 2 ^ s := Int.pow_pos (by decide)
  rw [Int.fdiv_eq_ediv_of_nonneg _ (Int.le_of_lt hp)]
  push_cast
  rfl
theorem digLo_nat (X s : Nat) : digLo (X : Int) s = ((X % 2 ^ s : Nat) : Int) := by
  unfold digLo
  rw [digUp_nat]
  have e : ((X / 2 ^ s : Nat) : Int) * 2 ^ s = ((X / 2 ^ s * 2 ^ s : Nat) : Int) := by push_cast; rfl
  rw [e]
  unfold Builtin.bitXor
  rw [bitAnd_nat (Int.natCast_nonneg _) (Int.natCast_nonneg _), bitOr_nat (Int.natCast_nonneg _) (Int.natCast_nonneg _), Int.toNat_natCast, Int.toNat_natCast, and_hi, or_hi]
  have := Nat.div_add_mod' X (2 ^ s)
  omega
abbrev bitI (X i : Nat) : Int := ((X.testBit i).toNat : Nat)
theorem getD_setI {l : List Int} {i j : Nat} {x : Int} (hi : i < l.length) : (l.set i x).getD j 0 = if i = j then x else l.getD j 0 := by
  rw [List.getD_eq_getElem?_getD, List.getD_eq_getElem?_getD, List.getElem?_set]
  split
  · rename_i h
    subst h
    first | rfl | (rw [if_pos hi]; rfl)
  · rfl
theorem bit_small {X : Nat} (h : X < 2) : (X : Int) = bitI X 0 := by
  unfold bitI
  rcases (by omega : X = 0 ∨ X = 1) with e | e <;> subst e <;> rfl
theorem mid_ar {l r m : Nat} (h1 : l < r) (e : ¬ l + 1 = r) (h2 : r - l ≤ m + 1) : ∃ a b : Nat, (l + r) / 2 = l + a ∧ r = l + a + b ∧ 0 < a ∧ 0 < b ∧ a ≤ m ∧ b ≤ m := ⟨(l + r) / 2 - l, r - (l + r) / 2, by omega⟩
theorem in_one {l i : Nat} : (l ≤ i ∧ i < l + 1) ↔ l = i := by omega
theorem in_two {l a b i : Nat} : (l ≤ i ∧ i < l + a + b) ↔ (l ≤ i ∧ i < l + a) ∨ (l + a ≤ i ∧ i < l + a + b) := by omega
theorem sub_two {l a i : Nat} (h : l + a ≤ i) : i - (l + a) + a = i - l := by omega
theorem dig_get : ∀ (m : Nat) (ns : List Int) (X l r : Nat), l < r → r - l ≤ m → X < 2 ^ (r - l) → r ≤ ns.length → ∀ i, (dig m ns (X : Int) l r).getD i 0 = if l ≤ i ∧ i < r then bitI X (i - l) else ns.getD i 0
  | 0, ns, X, l, r, h1, h2, _, _, i => absurd h1 (Nat.not_lt.mpr (Nat.le_of_sub_eq_zero (Nat.le_zero.mp h2)))
  | m + 1, ns, X, l, r, h1, h2, h3, h4, i => by
    unfold dig
    split
    · rename_i e
      subst e
      rw [Nat.add_sub_cancel_left] at h3
      rw [getD_setI h4]
      by_cases q : l = i
      · rw [if_pos q, if_pos (in_one.mpr q), q, Nat.sub_self]
        exact bit_small h3
      · rw [if_neg q, if_neg fun z => q (in_one.mp z)]
    · rename_i e
      obtain ⟨a, b, e1, e2, ha, hb, ham, hbm⟩ := mid_ar h1 e h2
      clear h1 e h2
      rw [e1]
      subst e2
      rw [Nat.add_sub_cancel_left]
      rw [Nat.add_assoc, Nat.add_sub_cancel_left, Nat.pow_add] at h3
      rw [digUp_nat, digLo_nat]
      rw [dig_get m _ (X / 2 ^ a) (l + a) (l + a + b) (Nat.lt_add_of_pos_right hb) (by rw [Nat.add_sub_cancel_left]; exact hbm) (by rw [Nat.add_sub_cancel_left]; exact Nat.div_lt_of_lt_mul h3) (by rw [dig_len]; exact h4)]
      rw [dig_get m ns (X % 2 ^ a) l (l + a) (Nat.lt_add_of_pos_right ha) (by rw [Nat.add_sub_cancel_left]; exact ham) (by rw [Nat.add_sub_cancel_left]; exact Nat.mod_lt _ (Nat.two_pow_pos _)) (Nat.le_trans (Nat.le_add_right _ _) h4)]
      by_cases q1 : l + a ≤ i ∧ i < l + a + b
      · rw [if_pos q1, if_pos (in_two.mpr (.inr q1))]
        unfold bitI
        rw [Nat.testBit_div_two_pow, sub_two q1.1]
      · rw [if_neg q1]
        by_cases q2 : l ≤ i ∧ i < l + a
        · rw [if_pos q2, if_pos (in_two.mpr (.inl q2))]
          unfold bitI
          rw [Nat.testBit_mod_two_pow, decide_eq_true (Nat.sub_lt_left_of_lt_add q2.1 q2.2), Bool.true_and]
        · rw [if_neg q2, if_neg fun z => (in_two.mp z).elim q2 q1]
theorem bits_nat {n : Nat} (h : n ≠ 0) : Builtin.Int.intBits (n : Int) = n.log2 + 1 := by
  unfold Builtin.Int.intBits
  rw [if_neg (by simp; omega), Int.natAbs_natCast]
theorem digits_len (n : Nat) : (digitsF (n : Int)).length = Builtin.Int.intBits (n : Int) := by
  unfold digitsF
  split
  · rw [dig_len, List.length_replicate]
  · rw [List.length_replicate]
theorem getD_rep (k i : Nat) : (List.replicate k (0 : Int)).getD i 0 = 0 := by
  rw [List.getD_eq_getElem?_getD, List.getElem?_replicate]
  split <;> rfl
theorem digits_get (n i : Nat) : (digitsF (n : Int)).getD i 0 = bitI n i := by
  unfold digitsF
  by_cases h : n = 0
  · subst h
    show (List.replicate _ (0 : Int)).getD i 0 = _
    rw [getD_rep]
    unfold bitI
    rw [Nat.zero_testBit]; rfl
  · have e : ((n : Int) != 0) = true := by simpa using h
    rw [if_pos e]
    have hb := bits_nat h
    have hlt : n < 2 ^ (Builtin.Int.intBits (n : Int)) := by rw [hb]; exact Nat.lt_log2_self
    generalize Builtin.Int.intBits (n : Int) = k at *
    rw [dig_get k _ n 0 k (by omega) (by omega) (by simpa using hlt) (by rw [List.length_replicate]; exact Nat.le_refl _)]
    by_cases q : i < k
    · rw [if_pos ⟨Nat.zero_le _, q⟩]; rfl
    · rw [if_neg (by omega), getD_rep]
      unfold bitI
      have : n.testBit i = false := Nat.testBit_lt_two_pow (Nat.lt_of_lt_of_le hlt (Nat.pow_le_pow_right (by decide) (by omega)))
      rw [this]; rfl
theorem fig_get {n i : Nat} (hi : i < 10) : (figF (n : Int)).getD i 0 = bitI n i := by
  unfold figF
  rw [List.getD_eq_getElem?_getD, List.getElem?_take, if_pos hi, ← digits_get]
  rw [List.getElem?_append]
  split
  · rw [List.getD_eq_getElem?_getD]
  · rename_i h
    have e1 : (digitsF (n : Int)).getD i 0 = 0 := by rw [List.getD_eq_getElem?_getD, List.getElem?_eq_none_iff.mpr (by omega)]; rfl
    rw [e1, ← List.getD_eq_getElem?_getD, getD_rep]
theorem fig_len (n : Nat) : (figF (n : Int)).length = 10 := by
  unfold figF
  rw [List.length_take, List.length_append, List.length_replicate]
  omega
theorem bit_val (n l : Nat) : bitI n l = ((n / 2 ^ l % 2 ^ 1 : Nat) : Int) := by
  unfold bitI
  rw [Nat.testBit_eq_decide_div_mod_eq, Nat.pow_one]
  rcases Nat.mod_two_eq_zero_or_one (n / 2 ^ l) with q | q <;> rw [q] <;> rfl
theorem fig_bits {n : Nat} : ∀ x ∈ figF (n : Int), 0 ≤ x ∧ x ≤ 1 := fun x hx => by
  obtain ⟨i, hi⟩ := List.mem_iff_getElem?.mp hx
  have h10 : i < 10 := by have := (List.getElem?_eq_some_iff.mp hi).1; rwa [fig_len] at this
  have := fig_get (n := n) h10
  rw [List.getD_eq_getElem?_getD, hi] at this
  have e : x = bitI n i := this
  rw [e]
  unfold bitI
  cases n.testBit i <;> decide
theorem val_get {n : Nat} {ns : List Int} (h : ∀ i, i < 10 → ns.getD i 0 = bitI n i) : ∀ (m l r : Nat), l < r → r ≤ 10 → r - l ≤ m → val2 m ns l r = ((n / 2 ^ l % 2 ^ (r - l) : Nat) : Int)
  | 0, l, r, h1, _, h2 => absurd h1 (Nat.not_lt.mpr (Nat.le_of_sub_eq_zero (Nat.le_zero.mp h2)))
  | m + 1, l, r, h1, h10, h2 => by
    unfold val2
    split
    · rename_i e
      subst e
      rw [h l h10, Nat.add_sub_cancel_left]
      exact bit_val n l
    · rename_i e
      obtain ⟨a, b, e1, e2, ha, hb, ham, hbm⟩ := mid_ar h1 e h2
      clear h1 e h2
      rw [e1]
      subst e2
      rw [val_get h m (l + a) (l + a + b) (Nat.lt_add_of_pos_right hb) h10 (by rw [Nat.add_sub_cancel_left]; exact hbm), val_get h m l (l + a) (Nat.lt_add_of_pos_right ha) (Nat.le_trans (Nat.le_add_right _ _) h10) (by rw [Nat.add_sub_cancel_left]; exact ham)]
      rw [Nat.add_sub_cancel_left, Nat.add_sub_cancel_left, Nat.add_assoc, Nat.add_sub_cancel_left, Nat.pow_add 2 l a, ← Nat.div_div_eq_div_mul, Nat.pow_add 2 a b, Nat.mod_mul]
      push_cast
      rw [Int.mul_comm ((2 : Int) ^ a), Int.add_comm]
def mask (n : Nat) : List (Int × Int) := ((List.range 10).filter fun k => n.testBit k).map fun k => pairsL.getD k (0, 0)
theorem zip_pairs : (List.range 10).zip pairsL = (List.range 10).map fun k => (k, pairsL.getD k (0, 0)) := by decide +kernel
theorem lot_mask (n : Nat) : (((List.range 10).zip pairsL).filter fun q => (figF (n : Int)).getD q.1 0 == 1).map (·.2) = mask n := by
  unfold mask
  rw [zip_pairs, List.filter_map, List.map_map]
  have e : (List.range 10).filter ((fun (q : Nat × Int × Int) => (figF (n : Int)).getD q.1 0 == 1) ∘ fun k => (k, pairsL.getD k (0, 0))) = (List.range 10).filter fun k => n.testBit k := by
    refine List.filter_congr fun k hk => ?_
    show ((figF (n : Int)).getD k 0 == 1) = _
    rw [fig_get (List.mem_range.mp hk)]
    unfold bitI
    cases n.testBit k <;> rfl
  rw [e]
  rfl
structure FigOk (n : Nat) : Prop where
  hlen : (digitsF (n : Int)).length ≤ 100
  hbits : ∀ x ∈ figF (n : Int), 0 ≤ x ∧ x ≤ 1
  hfl : (figF (n : Int)).length = 10
  hval : val2 10 (figF (n : Int)) 0 10 = (n : Int)
  hdig : ((upFrom 0 10).filter fun k => (figF (n : Int)).getD k.toNat 0 != ((n : Int).fdiv (2 ^ k.toNat)).fmod 2) = []
theorem fig_ok {n : Nat} (h : n < 1024) : FigOk n := by
  refine ⟨?_, fig_bits, fig_len n, ?_, ?_⟩
  · rw [digits_len]
    have := bits_le (x := (n : Int)) (Int.natCast_nonneg n) (by exact_mod_cast h)
    omega
  · rw [val_get (n := n) (fun i hi => fig_get hi) 10 0 10 (by decide) (by decide) (by decide)]
    have e : n / 2 ^ 0 % 2 ^ (10 - 0) = n := by simp; omega
    rw [e]
  · rw [List.filter_eq_nil_iff]
    intro k hk
    have hb := mem_upFrom hk
    rw [fig_get (n := n) (by omega)]
    have e1 : (n : Int).fdiv (2 ^ k.toNat) = ((n / 2 ^ k.toNat : Nat) : Int) := digUp_nat n k.toNat
    rw [e1]
    have e2 : (((n / 2 ^ k.toNat : Nat) : Int)).fmod 2 = ((n / 2 ^ k.toNat % 2 : Nat) : Int) := by
      rw [Int.fmod_eq_emod_of_nonneg _ (by decide)]; push_cast; rfl
    rw [e2, bit_val, Nat.pow_one]
    simp
end Mine
namespace Mine
open PySem PySem.Calls PySem.Spec PyProof.Rows PySem.W

abbrev pr (k : Nat) : Int × Int := pairsL.getD k (0, 0)
theorem pr_inj : ∀ j, j < 10 → ∀ k, k < 10 → pr j = pr k → j = k := by decide +kernel
theorem pr_ord : ∀ k, k < 10 → Ord (pr k) := by decide +kernel
theorem mem_prs {ks : List Nat} (h : ∀ k ∈ ks, k < 10) {k : Nat} (hk : k < 10) : pr k ∈ ks.map pr ↔ k ∈ ks := by
  rw [List.mem_map]
  constructor
  · rintro ⟨j, hj, e⟩
    have := pr_inj j (h j hj) k hk e
    subst this; exact hj
  · intro hk; exact ⟨k, hk, rfl⟩
def bitsOn (n : Nat) : List Nat := (List.range 10).filter fun k => n.testBit k
theorem mask_bits (n : Nat) : mask n = (bitsOn n).map pr := rfl
theorem bits_lt {n k : Nat} (h : k ∈ bitsOn n) : k < 10 := List.mem_range.mp (List.mem_filter.mp h).1
theorem mem_bits {n k : Nat} (hk : k < 10) : k ∈ bitsOn n ↔ n.testBit k = true := by
  unfold bitsOn
  rw [List.mem_filter, List.mem_range]
  exact ⟨fun h => h.2, fun h => ⟨hk, h⟩⟩
theorem mem_mask {n k : Nat} (hk : k < 10) : decide (pr k ∈ mask n) = n.testBit k := by
  rw [mask_bits]
  have e : pr k ∈ (bitsOn n).map pr ↔ n.testBit k = true := (mem_prs (fun _ => bits_lt) hk).trans (mem_bits hk)
  cases h : n.testBit k with
  | true => exact decide_eq_true (e.mpr h)
  | false => exact decide_eq_false fun z => by rw [e.mp z] at h; cases h
theorem mask_ord (n : Nat) : ∀ t ∈ mask n, Ord t := fun t ht => by
  rw [mask_bits] at ht
  obtain ⟨k, hk, rfl⟩ := List.mem_map.mp ht
  exact pr_ord k (bits_lt hk)
theorem mask_len (n : Nat) : (mask n).length ≤ 10 := by
  unfold mask
  rw [List.length_map]
  exact Nat.le_trans (List.length_filter_le ..) (by rw [List.length_range]; exact Nat.le_refl _)

/-- the pairs that share no thing with the pair at k, as bits -/
def disC : List Nat := [800, 656, 584, 388, 322, 193, 52, 42, 25, 7]
theorem dis_spec : ∀ k, k < 10 → ∀ l, l < 10 → apart (pr l) (pr k) = (disC.getD k 0).testBit l := by decide +kernel
def meetsK : List Nat → Bool
  | [] => true
  | k :: r => r.all (fun l => !(disC.getD k 0).testBit l) && meetsK r
theorem meetsF_iff (lot : List (Int × Int)) : meetsF lot = true ↔ lot.Pairwise fun a b => apart b a = false := by
  unfold meetsF meetsL
  rw [List.isEmpty_iff, List.flatMap_eq_nil_iff, List.pairwise_iff_getElem]
  have at_ : ∀ {i : Nat} (h : i < lot.length), atP lot (i : Int) = lot[i] := fun {i} h => by
    unfold atP
    rw [Int.toNat_natCast, List.getD_eq_getElem?_getD, List.getElem?_eq_getElem h]; rfl
  have up : ∀ {i m : Nat}, i < m → (i : Int) ∈ upFrom 0 m := fun {i m} h => List.mem_map.mpr ⟨i, List.mem_range.mpr h, by omega⟩
  constructor
  · intro h i j hi hj hij
    have h1 := h (j : Int) (up hj)
    rw [List.filter_eq_nil_iff] at h1
    have h2 := h1 (i : Int) (by rw [Int.toNat_natCast]; exact up hij)
    rw [at_ hi, at_ hj] at h2
    exact Bool.eq_false_iff.mpr h2
  · intro h j hj
    obtain ⟨j', hj', rfl⟩ := List.mem_map.mp hj
    have hj'' := List.mem_range.mp hj'
    rw [List.filter_eq_nil_iff]
    intro i hi
    obtain ⟨i', hi', rfl⟩ := List.mem_map.mp hi
    have hi'' := List.mem_range.mp hi'
    have e1 : (0 : Int) + (j' : Nat) = (j' : Nat) := by omega
    have e2 : (0 : Int) + (i' : Nat) = (i' : Nat) := by omega
    rw [e1, Int.toNat_natCast] at hi''
    rw [e1, e2, at_ hj'', at_ (by omega : i' < lot.length), h i' j' (by omega) hj'' hi'']
    exact Bool.false_ne_true
theorem meets_bits : ∀ {ks : List Nat}, (∀ k ∈ ks, k < 10) → ((ks.map pr).Pairwise (fun a b => apart b a = false) ↔ meetsK ks = true)
  | [], _ => by simp [meetsK]
  | k :: r, h => by
    have ih := meets_bits (ks := r) fun x hx => h x (.tail _ hx)
    have e : meetsK (k :: r) = (r.all (fun l => !(disC.getD k 0).testBit l) && meetsK r) := rfl
    rw [List.map_cons, List.pairwise_cons, ih, e, Bool.and_eq_true, List.all_eq_true]
    constructor
    · rintro ⟨a, b⟩
      refine ⟨fun l hl => ?_, b⟩
      have := a (pr l) (List.mem_map_of_mem hl)
      rw [dis_spec k (h k (.head _)) l (h l (.tail _ hl))] at this
      rw [this]; rfl
    · rintro ⟨a, b⟩
      refine ⟨fun q hq => ?_, b⟩
      obtain ⟨l, hl, rfl⟩ := List.mem_map.mp hq
      rw [dis_spec k (h k (.head _)) l (h l (.tail _ hl))]
      have := a l hl
      rwa [Bool.not_eq_true'] at this
theorem meets_eq {ks : List Nat} (h : ∀ k ∈ ks, k < 10) : meetsF (ks.map pr) = meetsK ks := by
  rw [Bool.eq_iff_iff, meetsF_iff, meets_bits h]

/-! the counts -/
theorem upFrom5_get {l : List Int} (hl : l.length = 5) {f : Int → Int} (h : ∀ p ∈ upFrom 0 5, l.getD p.toNat 0 = f p) : l = (upFrom 0 5).map f := by
  refine List.ext_getElem (by rw [hl, List.length_map, upFrom_length]) fun i h1 h2 => ?_
  have hi : i < 5 := by omega
  have hm : (i : Int) ∈ upFrom 0 5 := List.mem_map.mpr ⟨i, List.mem_range.mpr hi, by omega⟩
  have := h i hm
  rw [Int.toNat_natCast, List.getD_eq_getElem?_getD, List.getElem?_eq_getElem h1] at this
  have e : l[i] = f i := this
  rw [e]
  simp [upFrom]
def degK (bits : List Nat) (p : Int) : Int := 2 * ((bits.filter fun k => decide (p ∈ [(pr k).1, (pr k).2])).length : Int)
theorem tw_bits (n : Nat) : twiceF (mask n) = (upFrom 0 5).map (degK (bitsOn n)) := by
  obtain ⟨h5, hs⟩ := rows_sum (mask_ord n)
  have hl : (twiceF (mask n)).length = 5 := by unfold twiceF; rw [List.length_map]; exact h5
  refine upFrom5_get hl fun p hp => ?_
  have hb := mem_upFrom hp
  have h := hs p.toNat
  rw [Int.toNat_of_nonneg hb.1] at h
  unfold twiceF
  rw [List.getD_eq_getElem?_getD, List.getElem?_map, List.getElem?_eq_getElem (by omega)]
  rw [List.getD_eq_getElem?_getD, List.getElem?_eq_getElem (by omega)] at h
  show rowSum _ = _
  have h' : rowSum ((rowsF (mask n))[p.toNat]'(by omega)) = 2 * (((mask n).filter fun t => decide (p ∈ [t.1, t.2])).length : Int) := h
  rw [h', mask_bits, List.filter_map, List.length_map]
  rfl
theorem tw_deg (n : Nat) : ((upFrom 0 5).filter fun t => (twiceF (mask n)).getD t.toNat 0 != 2 * (((mask n).filter fun p => decide (t ∈ [p.1, p.2])).length : Int)) = [] := by
  obtain ⟨h5, hs⟩ := rows_sum (mask_ord n)
  rw [List.filter_eq_nil_iff]
  intro p hp
  have hb := mem_upFrom hp
  have h := hs p.toNat
  rw [Int.toNat_of_nonneg hb.1] at h
  unfold twiceF
  rw [List.getD_eq_getElem?_getD, List.getElem?_map, List.getElem?_eq_getElem (by omega)]
  rw [List.getD_eq_getElem?_getD, List.getElem?_eq_getElem (by omega)] at h
  have h' : rowSum ((rowsF (mask n))[p.toNat]'(by omega)) = 2 * (((mask n).filter fun t => decide (p ∈ [t.1, t.2])).length : Int) := h
  show ¬ ((rowSum ((rowsF (mask n))[p.toNat]'(by omega)) != _) = true)
  rw [h']
  simp

/-! the rounds' sides -/
def sideIx : List (List Nat) := [[6, 0, 2, 5, 9], [3, 0, 2, 8, 9], [6, 0, 4, 5, 8], [1, 0, 4, 9, 8], [3, 0, 7, 8, 5], [1, 0, 7, 9, 5], [6, 1, 2, 4, 9], [3, 1, 2, 7, 9], [6, 1, 5, 4, 7], [3, 1, 8, 7, 4], [6, 3, 4, 2, 8], [6, 3, 5, 2, 7]]
theorem sides_ix : sidesL = sideIx.map fun ks => ks.map pr := by decide +kernel
theorem sideIx_lt : ∀ ks ∈ sideIx, ∀ k ∈ ks, k < 10 := by decide +kernel
def katB (n : Nat) : List Int := sideIx.map fun ks => ((ks.filter fun k => n.testBit k).length : Int)
theorem kat_bits (n : Nat) : (sidesL.map fun sd => ((sd.filter fun p => decide (p ∈ mask n)).length : Int)) = katB n := by
  rw [sides_ix, List.map_map]
  unfold katB
  refine List.map_congr_left fun ks hks => ?_
  show (((ks.map pr).filter fun p => decide (p ∈ mask n)).length : Int) = _
  rw [List.filter_map, List.length_map]
  congr 2
  exact List.filter_congr fun k hk => mem_mask (sideIx_lt ks hks k hk)

/-! a thing put for another -/
def pushT : List ((Int × Int) × List Nat) := [((0, 4), [0, 1, 2, 3, 4, 5, 6, 0, 1, 3]), ((1, 3), [0, 1, 2, 0, 4, 2, 6, 7, 8, 7]), ((0, 1), [0, 1, 1, 3, 3, 5, 6, 6, 8, 9])]
theorem push_keys : pushT.map (·.1) = lowHigh := by decide +kernel
theorem push_spec : ∀ e ∈ pushT, ∀ k, k < 10 → e.2.getD k k < 10 ∧ (decide (e.1.2 ∈ [(pr k).1, (pr k).2]) && !decide (e.1.1 ∈ [(pr k).1, (pr k).2])) = !(e.2.getD k k == k) ∧ (e.2.getD k k = k ∨ sortP (repl e.1.1 e.1.2 (pr k)) = pr (e.2.getD k k)) := by decide +kernel
theorem push_inj : ∀ e ∈ pushT, ∀ k, k < 10 → ∀ l, l < 10 → e.2.getD k k ≠ k → e.2.getD l l ≠ l → e.2.getD k k = e.2.getD l l → k = l := by decide +kernel
def pushK (n : Nat) (tab : List Nat) (k : Nat) : Nat := if tab.getD k k == k || n.testBit (tab.getD k k) then k else tab.getD k k
theorem push_bit {n : Nat} {e : (Int × Int) × List Nat} (he : e ∈ pushT) {k : Nat} (hk : k < 10) : pushOne (mask n) e.1.1 e.1.2 (pr k) = pr (pushK n e.2 k) ∧ pushK n e.2 k < 10 := by
  obtain ⟨a, b, c⟩ := push_spec e he k hk
  have e0 : pushOne (mask n) e.1.1 e.1.2 (pr k) = if (decide (e.1.2 ∈ [(pr k).1, (pr k).2]) && !decide (e.1.1 ∈ [(pr k).1, (pr k).2])) && !decide (sortP (repl e.1.1 e.1.2 (pr k)) ∈ mask n) then sortP (repl e.1.1 e.1.2 (pr k)) else pr k := by
    unfold pushOne
    rw [Bool.and_true, Bool.and_assoc]
  rw [e0, b]
  unfold pushK
  by_cases q : e.2.getD k k = k
  · have hq : (e.2.getD k k == k) = true := beq_iff_eq.mpr q
    rw [hq]
    exact ⟨rfl, hk⟩
  · have hq : (e.2.getD k k == k) = false := beq_eq_false_iff_ne.mpr q
    have hs := c.resolve_left q
    rw [hq, hs, mem_mask a]
    cases n.testBit (e.2.getD k k) with
    | true => exact ⟨rfl, hk⟩
    | false => exact ⟨rfl, a⟩
theorem push_list {n : Nat} {e : (Int × Int) × List Nat} (he : e ∈ pushT) : (mask n).map (pushOne (mask n) e.1.1 e.1.2) = ((bitsOn n).map (pushK n e.2)).map pr := by
  rw [mask_bits, List.map_map, List.map_map]
  exact List.map_congr_left fun k hk => (push_bit he (bits_lt hk)).1
theorem push_nodup {n : Nat} {e : (Int × Int) × List Nat} (he : e ∈ pushT) : ((mask n).map (pushOne (mask n) e.1.1 e.1.2)).Nodup := by
  rw [push_list he, List.map_map]
  have nd : (bitsOn n).Nodup := (List.nodup_range (n := 10)).sublist List.filter_sublist
  refine List.pairwise_map.mpr (List.Pairwise.imp_of_mem (fun {k l} hk hl hkl => ?_) nd)
  intro hz
  have k1 := bits_lt hk
  have l1 := bits_lt hl
  have hp := pr_inj _ (push_bit he k1).2 _ (push_bit he l1).2 hz
  have kb := (mem_bits k1).mp hk
  have lb := (mem_bits l1).mp hl
  unfold pushK at hp
  by_cases qk : e.2.getD k k = k
  · rw [beq_iff_eq.mpr qk, Bool.true_or, if_pos rfl] at hp
    split at hp
    · exact hkl hp
    · rename_i h
      rw [← hp, kb] at h
      simp at h
  · rw [beq_eq_false_iff_ne.mpr qk, Bool.false_or] at hp
    by_cases ql : e.2.getD l l = l
    · rw [beq_iff_eq.mpr ql, Bool.true_or, if_pos rfl] at hp
      split at hp
      · exact hkl hp
      · rename_i h
        rw [hp, lb] at h
        simp at h
    · rw [beq_eq_false_iff_ne.mpr ql, Bool.false_or] at hp
      split at hp <;> split at hp
      · exact hkl hp
      · rename_i h; rw [← hp, kb] at h; simp at h
      · rename_i h _; rw [hp, lb] at h; simp at h
      · exact hkl (push_inj e he k k1 l l1 qk ql hp)

/-! the closed check of one number -/
def goodT (m : Bool) (len : Int) (tw : List Int) : Bool :=
  (sumN tw == 4 * len) && !((m != (mxOf tw == 2 * len || ((len == 3) && decide (sortI tw = [0, 0, 4, 4, 4])))) || ((m && (decide (len > 4) && true)) || false))
def goodK (m : Bool) (len : Int) (kat : Int) : Bool := !((m && (decide (kat > 2) && true)) || (decide (6 * len > 12 * kat) || false))
def goodS (n : Nat) : Bool :=
  goodT (meetsK (bitsOn n)) ((bitsOn n).length : Int) ((upFrom 0 5).map (degK (bitsOn n))) && (goodK (meetsK (bitsOn n)) ((bitsOn n).length : Int) (mxOf (katB n)) && (!meetsK (bitsOn n) || pushT.all fun e => meetsK ((bitsOn n).map (pushK n e.2))))
structure PlainOk (n : Nat) : Prop where
  fig : FigOk n
  htl : (twiceF (mask n)).length = 5
  hsum : sumN (twiceF (mask n)) = 4 * ((mask n).length : Int)
  hbad : ((meetsF (mask n) != (starF (mask n) (mxOf (twiceF (mask n))) || threeF (mask n) (sortI (twiceF (mask n))))) || ((meetsF (mask n) && (decide (((mask n).length : Int) > 4) && true)) || false)) = false
  hkat : ((meetsF (mask n) && (decide (mxOf (sidesL.map fun sd => ((sd.filter fun p => decide (p ∈ mask n)).length : Int)) > 2) && true)) || (decide (6 * ((mask n).length : Int) > 12 * mxOf (sidesL.map fun sd => ((sd.filter fun p => decide (p ∈ mask n)).length : Int))) || false)) = false
  hpush : ∀ lh ∈ lowHigh, pushBad (mask n) lh = false
theorem plain_ok {n : Nat} (h : n < 1024) (g : goodS n = true) : PlainOk n := by
  have hm : meetsF (mask n) = meetsK (bitsOn n) := meets_eq fun _ => bits_lt
  have hl : (mask n).length = (bitsOn n).length := by rw [mask_bits, List.length_map]
  unfold goodS goodT goodK at g
  rw [Bool.and_eq_true, Bool.and_eq_true, Bool.and_eq_true, Bool.not_eq_true', Bool.not_eq_true'] at g
  obtain ⟨⟨g1, g2⟩, g3, g4⟩ := g
  refine ⟨fig_ok h, by rw [tw_bits, List.length_map, upFrom_length], by rw [tw_bits, hl]; exact eq_of_beq g1, ?_, ?_, fun lh hlh => ?_⟩
  · unfold starF threeF
    rw [tw_bits, hm, hl]; exact g2
  · rw [kat_bits, hm, hl]; exact g3
  · rw [← push_keys] at hlh
    obtain ⟨e, he, rfl⟩ := List.mem_map.mp hlh
    unfold pushBad
    rw [tFold_len (push_nodup he), List.length_map]
    have e1 : (((mask n).length : Int) != ((mask n).length : Int)) = false := by simp
    rw [e1, Bool.false_or, Bool.or_false, Bool.and_true, hm]
    rw [push_list he, meets_eq (fun k hk => by
      obtain ⟨j, hj, rfl⟩ := List.mem_map.mp hk
      exact (push_bit he (bits_lt hj)).2)]
    rw [Bool.or_eq_true] at g4
    rcases g4 with g4 | g4
    · rw [Bool.not_eq_true'] at g4
      rw [g4]; rfl
    · rw [List.all_eq_true.mp g4 e he]; simp
end Mine
namespace Mine
open PySem PySem.Calls PySem.Spec PyProof.Rows PySem.W
theorem ch0 : ((List.range 32).all fun i => goodS (0 + i)) = true := by decide +kernel
theorem ch1 : ((List.range 32).all fun i => goodS (32 + i)) = true := by decide +kernel
theorem ch2 : ((List.range 32).all fun i => goodS (64 + i)) = true := by decide +kernel
theorem ch3 : ((List.range 32).all fun i => goodS (96 + i)) = true := by decide +kernel
theorem ch4 : ((List.range 32).all fun i => goodS (128 + i)) = true := by decide +kernel
theorem ch5 : ((List.range 32).all fun i => goodS (160 + i)) = true := by decide +kernel
theorem ch6 : ((List.range 32).all fun i => goodS (192 + i)) = true := by decide +kernel
theorem ch7 : ((List.range 32).all fun i => goodS (224 + i)) = true := by decide +kernel
theorem ch8 : ((List.range 32).all fun i => goodS (256 + i)) = true := by decide +kernel
theorem ch9 : ((List.range 32).all fun i => goodS (288 + i)) = true := by decide +kernel
theorem ch10 : ((List.range 32).all fun i => goodS (320 + i)) = true := by decide +kernel
theorem ch11 : ((List.range 32).all fun i => goodS (352 + i)) = true := by decide +kernel
theorem ch12 : ((List.range 32).all fun i => goodS (384 + i)) = true := by decide +kernel
theorem ch13 : ((List.range 32).all fun i => goodS (416 + i)) = true := by decide +kernel
theorem ch14 : ((List.range 32).all fun i => goodS (448 + i)) = true := by decide +kernel
theorem ch15 : ((List.range 32).all fun i => goodS (480 + i)) = true := by decide +kernel
theorem ch16 : ((List.range 32).all fun i => goodS (512 + i)) = true := by decide +kernel
theorem ch17 : ((List.range 32).all fun i => goodS (544 + i)) = true := by decide +kernel
theorem ch18 : ((List.range 32).all fun i => goodS (576 + i)) = true := by decide +kernel
theorem ch19 : ((List.range 32).all fun i => goodS (608 + i)) = true := by decide +kernel
theorem ch20 : ((List.range 32).all fun i => goodS (640 + i)) = true := by decide +kernel
theorem ch21 : ((List.range 32).all fun i => goodS (672 + i)) = true := by decide +kernel
theorem ch22 : ((List.range 32).all fun i => goodS (704 + i)) = true := by decide +kernel
theorem ch23 : ((List.range 32).all fun i => goodS (736 + i)) = true := by decide +kernel
theorem ch24 : ((List.range 32).all fun i => goodS (768 + i)) = true := by decide +kernel
theorem ch25 : ((List.range 32).all fun i => goodS (800 + i)) = true := by decide +kernel
theorem ch26 : ((List.range 32).all fun i => goodS (832 + i)) = true := by decide +kernel
theorem ch27 : ((List.range 32).all fun i => goodS (864 + i)) = true := by decide +kernel
theorem ch28 : ((List.range 32).all fun i => goodS (896 + i)) = true := by decide +kernel
theorem ch29 : ((List.range 32).all fun i => goodS (928 + i)) = true := by decide +kernel
theorem ch30 : ((List.range 32).all fun i => goodS (960 + i)) = true := by decide +kernel
theorem ch31 : ((List.range 32).all fun i => goodS (992 + i)) = true := by decide +kernel
theorem good_q (q r : Nat) (hq : q < 32) (hr : r ∈ List.range 32) : goodS (32 * q + r) = true :=
  match q, hq with
  | 0, _ => List.all_eq_true.mp ch0 r hr
  | 1, _ => List.all_eq_true.mp ch1 r hr
  | 2, _ => List.all_eq_true.mp ch2 r hr
  | 3, _ => List.all_eq_true.mp ch3 r hr
  | 4, _ => List.all_eq_true.mp ch4 r hr
  | 5, _ => List.all_eq_true.mp ch5 r hr
  | 6, _ => List.all_eq_true.mp ch6 r hr
  | 7, _ => List.all_eq_true.mp ch7 r hr
  | 8, _ => List.all_eq_true.mp ch8 r hr
  | 9, _ => List.all_eq_true.mp ch9 r hr
  | 10, _ => List.all_eq_true.mp ch10 r hr
  | 11, _ => List.all_eq_true.mp ch11 r hr
  | 12, _ => List.all_eq_true.mp ch12 r hr
  | 13, _ => List.all_eq_true.mp ch13 r hr
  | 14, _ => List.all_eq_true.mp ch14 r hr
  | 15, _ => List.all_eq_true.mp ch15 r hr
  | 16, _ => List.all_eq_true.mp ch16 r hr
  | 17, _ => List.all_eq_true.mp ch17 r hr
  | 18, _ => List.all_eq_true.mp ch18 r hr
  | 19, _ => List.all_eq_true.mp ch19 r hr
  | 20, _ => List.all_eq_true.mp ch20 r hr
  | 21, _ => List.all_eq_true.mp ch21 r hr
  | 22, _ => List.all_eq_true.mp ch22 r hr
  | 23, _ => List.all_eq_true.mp ch23 r hr
  | 24, _ => List.all_eq_true.mp ch24 r hr
  | 25, _ => List.all_eq_true.mp ch25 r hr
  | 26, _ => List.all_eq_true.mp ch26 r hr
  | 27, _ => List.all_eq_true.mp ch27 r hr
  | 28, _ => List.all_eq_true.mp ch28 r hr
  | 29, _ => List.all_eq_true.mp ch29 r hr
  | 30, _ => List.all_eq_true.mp ch30 r hr
  | 31, _ => List.all_eq_true.mp ch31 r hr
  | n + 32, h => absurd h (by omega)
theorem good_all (n : Nat) (h : n < 1024) : goodS n = true := by
  have e : 32 * (n / 32) + n % 32 = n := Nat.div_add_mod n 32
  have := good_q (n / 32) (n % 32) (by omega) (List.mem_range.mpr (Nat.mod_lt n (by decide)))
  rwa [e] at this
end Mine
namespace Mine
open PySem PySem.Calls PySem.Spec PyProof.Rows PySem.W
theorem bg_of {Γ : Gl} (hb : ∀ x : Str, x ≠ "__name__" → Γ.mb x = bootBuiltins x) (hm : ∀ x ∈ [("len" : Str), "range", "dict", "tuple", "sorted", "sum", "max", "abs", "enumerate", "isinstance"], Γ.mg x = none) : BG Γ where
  len := .inr ⟨hm _ (by simp), (hb _ (by decide)).trans (by decide +kernel)⟩
  range := .inr ⟨hm _ (by simp), (hb _ (by decide)).trans (by decide +kernel)⟩
  dict := .inr ⟨hm _ (by simp), (hb _ (by decide)).trans (by decide +kernel)⟩
  tuple := .inr ⟨hm _ (by simp), (hb _ (by decide)).trans (by decide +kernel)⟩
  sorted := .inr ⟨hm _ (by simp), (hb _ (by decide)).trans (by decide +kernel)⟩
  sum := .inr ⟨hm _ (by simp), (hb _ (by decide)).trans (by decide +kernel)⟩
  max := .inr ⟨hm _ (by simp), (hb _ (by decide)).trans (by decide +kernel)⟩
  abs := .inr ⟨hm _ (by simp), (hb _ (by decide)).trans (by decide +kernel)⟩
  enumerate := .inr ⟨hm _ (by simp), (hb _ (by decide)).trans (by decide +kernel)⟩
  isinstance := .inr ⟨hm _ (by simp), (hb _ (by decide)).trans (by decide +kernel)⟩
end Mine
namespace Mine
open PySem PySem.Calls PySem.Spec PyProof.Rows PySem.W
theorem c_r12 : roundsL.length = 12 := by decide +kernel
theorem c_r5 : ∀ q ∈ roundsL, q.length = 5 := by decide +kernel
theorem c_six : (pairsL.filter fun p => ((sidesL.filter fun sd => decide (p ∈ sd)).length : Int) != 6) = [] := by decide +kernel
theorem c_sides : sidesL ≠ [] := by decide +kernel
section
variable {Γ : Gl} {A : Around} {env : Env} {X : List Addr} {M : List Addr} {s : Shared} {Q : Flow → Shared → Prop}
theorem walk01 {aI aD c1 P1 c2 P2 aAdd aCnt aMeets aRows aRounds aPush : Addr} {ns : List Int} (ok : Γ.Ok) (b : BG Γ) (gI : Glo Γ "_int2digits" (.ref aI)) (dI : DefC Γ aI "_int2digits" (paramsAt P01 4) (bodyAt P01 4) (scopeAt P01 4) (.ref c1)) (gD : Glo Γ "_digits2int" (.ref aD)) (dD : DefC Γ aD "_digits2int" (paramsAt P01 5) (bodyAt P01 5) (scopeAt P01 5) (.ref c2))
    (L : LawDefs Γ aAdd aCnt aMeets aRows aRounds aPush) (C1 : CodeHd Γ.B c1 P1) (C2 : CodeHd Γ.B c2 P2) (T1 : TabsOk Γ env X M P1) (T2 : TabsOk Γ env X M P2) (hne : P1 ≠ P2)
    (f : FS Γ 40 (scopeAt P01 11).names lawXs A env Γ.B X env.locals M [("script", .py (.list (ns.map PyData.int)))] .none s) (hP1 : s.heap.get? P1 = some (tabObj #[])) (hP2 : s.heap.get? P2 = some (tabObj #[]))
    (fin : ∀ h' tk, Sub Γ.B h' → GrownAt P1 h' → GrownAt P2 h' → Q (.ret (.bool true)) { s with heap := h', toks := tk }) : wpAny (model Γ.prog Γ.w) A (execs (bodyAt P01 11) env) Q E0 s := by
  have h0 : 0 ≤ (absN (sumN ns)).fmod 1024 := by rw [Int.fmod_eq_emod_of_nonneg _ (by decide)]; exact Int.emod_nonneg _ (by decide)
  have h1 : (absN (sumN ns)).fmod 1024 < 1024 := by rw [Int.fmod_eq_emod_of_nonneg _ (by decide)]; exact Int.emod_lt_of_pos _ (by decide)
  obtain ⟨n, hn⟩ := Int.eq_ofNat_of_zero_le h0
  have hn2 : n < 1024 := by rw [hn] at h1; exact_mod_cast h1
  have g := plain_ok hn2 (good_all n hn2)
  have f1 := g.fig
  have a1 := g.htl
  have a2 := g.hsum
  have a3 := g.hbad
  have a4 := tw_deg n
  have a5 := g.hkat
  have a6 := g.hpush
  have a7 := mask_len n
  have a8 : ∀ t ∈ mask n, InFive t := fun t ht => (mask_ord n t ht).five
  have a9 : lotF (figF (n : Int)) = mask n := lot_mask n
  have m2 := mxOf_spec (l := sidesL.map fun sd => ((sd.filter fun p => decide (p ∈ mask n)).length : Int)) (fun q => c_sides (List.map_eq_nil_iff.mp q))
  clear g
  generalize mask n = lot at *
  generalize hT : twiceF lot = tw at *
  generalize mxOf (sidesL.map fun sd => ((sd.filter fun p => decide (p ∈ lot)).length : Int)) = mo at *
  have m1 := mxOf_spec (l := tw) (fun q => by rw [q] at a1; cases a1)
  refine law_head (N := n) ok b gI dI gD dD C1 C2 T1 T2 hne f hP1 hP2 hn.symm (Int.natCast_nonneg n) (by exact_mod_cast hn2) f1.hlen f1.hbits f1.hfl f1.hval f1.hdig fun h2 tk2 gr1 gr2 f2 => ?_
  refine law_mid (lot := lot) (tw := tw) (mx := mxOf tw) (ms := sortI tw) ok b L f2 f1.hfl a9 a7 a8 hT a1 a2 a4 m1.1 m1.2 (sortI_perm _) (sortI_sorted _) a3 fun h3 tk3 k3 f3 => ?_
  refine law_last (mo := mo) ok b L f3 a7 c_r12 c_r5 c_six m2.1 m2.2 a5 a6 fun h4 tk4 k4 => ?_
  have kk := k3.trans k4
  have off : ∀ {P : Addr}, TabsOk Γ env X M P → P ∉ env.locals :: X := fun T q => (List.mem_cons.mp q).elim (fun z => T.offL z.symm) T.offX
  refine fin h4 tk4 (fun a o e => k4 a o (fun q => ?_) (f3.old a o e)) ?_ ?_
  · rcases List.mem_cons.mp q with q | q
    · exact f3.bf (q ▸ ⟨o, e⟩)
    · exact f3.bx a q ⟨o, e⟩
  · obtain ⟨ps, e⟩ := gr1; exact ⟨ps, kk _ _ (off T1) e⟩
  · obtain ⟨ps, e⟩ := gr2; exact ⟨ps, kk _ _ (off T2) e⟩
end
end Mine
namespace Mine
open PySem PySem.Calls PySem.Spec PyProof.Rows PySem.W

section
variable {prog : Program} {w : World} {p : Program} {loose : List Str} {mean : ExcName → Option Value} {mg mb : Str → Option Value} {h : Heap} {tabs : List (Addr × Addr)}
theorem codeRec_ghost {cd : Value} {q : Str} (hT : TabsAt tabs h) (x : h.CodeRec cd q) : (ghostOf h tabs).CodeRec cd q := by
  obtain ⟨c, o, vs, t, e, g, hd, hv⟩ := x
  refine ⟨c, o, vs, t, e, ghost_get hT g (fun z => ?_), hd, hv⟩
  subst z
  cases hd
  simp at hv
theorem def_of {x : Str} {d : DefRec} (T : Top p loose mean mg mb h) (hT : TabsAt tabs h) (hr : (recsOf p).find? (fun e => e.name == x) = some d) :
    ∃ a, Glo ⟨prog, w, ghostOf h tabs, mg, mb⟩ x (.ref a) ∧ ∃ cd, DefC ⟨prog, w, ghostOf h tabs, mg, mb⟩ a x d.params d.body d.scope cd := by
  have hn : d.name = x := beq_iff_eq.mp (List.find?_some (p := fun e : DefRec => e.name == x) hr)
  obtain ⟨a, o, pm, code, doc, h1, h2, h3, h4⟩ := T.fn d (List.mem_of_find?_eq_some hr)
  rw [hn] at h1 h3 h4
  refine ⟨a, .inl h1, code, o, pm, doc, ghost_get hT h2 (fun z => ?_), h3, codeRec_ghost hT h4⟩
  subst z
  cases h3
theorem DefC.at' {Γ : Gl} {a : Addr} {name : Str} {params : Arguments} {body : List Stmt} {scope : Scope} {cd : Value} (d : DefC Γ a name params body scope cd) : DefAt Γ a name params body scope := let ⟨o, pm, doc, h1, h2, h3⟩ := d.at_; ⟨o, pm, cd, doc, h1, h2, h3⟩
end
end Mine
namespace Mine
open PySem PySem.Calls PySem.Spec PyProof.Rows PySem.W

section
variable {prog : Program} {w : World} {view : Program} {loose : List Str} {mean : ExcName → Option Value} {mg mb : Str → Option Value} {s₁ : Shared} {h₁ : Heap} {tk : Tok} {fa : Addr} {cd : Value} {K : Frag} {tabs : List (Addr × Addr)}
/-- a def that makes a def: its code's address is known -/
theorem def_code {x : Str} {d : DefRec} {c P : Addr} (T : Top view loose mean mg mb s₁.heap) (hT : TabsAt tabs s₁.heap) (X : K.In (ghostOf s₁.heap tabs)) (hr : (recsOf view).find? (fun e => e.name == x) = some d) (ht : tabIn K x = some (c, P)) :
    ∃ a, Glo ⟨prog, w, ghostOf s₁.heap tabs, mg, mb⟩ x (.ref a) ∧ DefC ⟨prog, w, ghostOf s₁.heap tabs, mg, mb⟩ a x d.params d.body d.scope (.ref c) := by
  have hn : d.name = x := beq_iff_eq.mp (List.find?_some (p := fun e : DefRec => e.name == x) hr)
  obtain ⟨a, o, pm, code, doc, h1, h2, h3, h4⟩ := T.fn d (List.mem_of_find?_eq_some hr)
  rw [hn] at h1 h3 h4
  have ho : (ghostOf s₁.heap tabs).get? a = some o := ghost_get hT h2 (fun z => by subst z; cases h3)
  have e : code = .ref c := law_code X (ghost_ns hT T.g) ht h1 ho h3
  subst e
  exact ⟨a, .inl h1, o, pm, doc, ho, h3, codeRec_ghost hT h4⟩

theorem ints_is {Γ : Gl} {h : Heap} {a : Addr} {vs : List Value} {ns : List Int} (hl : h.IsList a vs.toArray) (hI : IntsAre vs ns) : Is Γ h (.ref a) (.py (.list (ns.map PyData.int))) := by
  refine is_list.mpr ⟨a, vs.toArray, rfl, hl, ?_⟩
  show All2 _ vs _
  clear hl
  induction hI with
  | nil => exact .nil
  | cons _ _ _ ih => exact .cons ⟨_, .int _ _⟩ ih
end

theorem cellsAre_live {cm : Str → Option Value} : ∀ {cs : List (Str × Addr)} {cells : List (Addr × Obj)}, CellsAre cm cs cells → ∀ n c, (n, c) ∈ cs → ∃ o, (c, o) ∈ cells
  | _, _, .nil, _, _, h => nomatch h
  | _, _, .cons hd x, n, c, h => by
    rcases List.mem_cons.mp h with q | q
    · cases q; exact ⟨_, .head _⟩
    · obtain ⟨o, e⟩ := cellsAre_live x n c q; exact ⟨o, .tail _ e⟩
theorem rm_caller (env : Env) : Rm (callerA.deeper env) 40 := Rm.deeper ⟨rfl, by decide, by decide⟩ env

section
variable {prog : Program} {w : World} {mg mb : Str → Option Value} {s₁ s : Shared} {fa : Addr} {cd : Value} {tabs : List (Addr × Addr)}
abbrev lawX (s₁ : Shared) (sc : Scope) : List Addr := s₁.heap.objs.size :: (cellsFrom (s₁.heap.objs.size + 1) sc.names []).map (·.2)
theorem fs_of {name : Str} {sc : Scope} {xs : List Str} {m cm : Str → Option Value} {cells : List (Addr × Obj)} {ls : Addr} {vs : List Value} {ns : List Int}
    (F : Fr (ghostOf s₁.heap tabs) s₁.heap.objs.size s.heap m) (N : News (ghostOf s₁.heap tabs) s₁.heap.objs.size s.heap (cells ++ tabNews tabs)) (C : CellsAre cm (cellsFrom (s₁.heap.objs.size + 1) sc.names []) cells)
    (hm : m "script" = some (.ref ls)) (hscr : sc.names.lookup ("script" : Str) = some .local) (hl : (ghostOf s₁.heap tabs).IsList ls vs.toArray) (hI : IntsAre vs ns) (hk : defOkB sc ["script"] xs = true) :
    FS ⟨prog, w, ghostOf s₁.heap tabs, mg, mb⟩ 40 sc.names xs (callerA.deeper (envOfC name sc s₁.heap.objs.size fa cd)) (envOfC name sc s₁.heap.objs.size fa cd) (ghostOf s₁.heap tabs) (lawX s₁ sc) s₁.heap.objs.size (lawX s₁ sc ++ tabs.map (·.2)) [("script", .py (.list (ns.map PyData.int)))] .none s ∧
      (∀ x c, (envOfC name sc s₁.heap.objs.size fa cd).cells.lookup x = some c → @LT.lt Nat _ s₁.heap.objs.size c) ∧ ∀ c ∈ (cellsFrom (s₁.heap.objs.size + 1) sc.names []).map (·.2), @LT.lt Nat _ s₁.heap.objs.size c := by
  unfold defOkB at hk
  simp only [Bool.and_eq_true, Bool.not_eq_true'] at hk
  obtain ⟨⟨⟨⟨⟨⟨k1, k2⟩, k3⟩, k4⟩, k5⟩, k6⟩, k7⟩ := hk
  have hkind : sc.kind = .function := eq_of_beq k1
  have co := cellsFrom_ok sc.names (s₁.heap.push default) (s₁.heap.objs.size + 1) [] ⟨nofun, .nil⟩ (by rw [Heap.size_push]; exact Nat.le_refl _)
  rw [Heap.size_push] at co
  have above : ∀ n c, (n, c) ∈ cellsFrom (s₁.heap.objs.size + 1) sc.names [] → @LT.lt Nat _ s₁.heap.objs.size c := fun n c h => (co.empty n c h).2
  have Cc : Cl s₁.heap.objs.size (cellsFrom (s₁.heap.objs.size + 1) sc.names []) s.heap cm := Cl.of_news (own := tabNews tabs) (fun p hp => N p (List.mem_append.mpr (List.mem_append.mp hp).symm)) C co.apart above
  have own : ∀ x ∈ xs, sc.names.lookup x = some .local ∨ (sc.names.lookup x = some .cell ∧ (x, NameKind.cell) ∈ sc.names) := fun x hx => by
    have := List.all_eq_true.mp k4 x hx
    simpa [List.contains_iff_mem] using this
  have gsize : ∀ a, @LE.le Nat _ s₁.heap.objs.size a → ¬ Live (ghostOf s₁.heap tabs) a := fun a ha q => by
    have h1 : @LT.lt Nat _ a (ghostOf s₁.heap tabs).objs.size := live_lt q
    rw [hideAll_size] at h1
    omega
  have Xge : ∀ a ∈ lawX s₁ sc, @LE.le Nat _ s₁.heap.objs.size a := fun a ha => by
    rcases List.mem_cons.mp ha with q | q
    · subst q; exact Nat.le_refl _
    · obtain ⟨⟨n, c⟩, h, rfl⟩ := List.mem_map.mp q; exact Nat.le_of_lt (above n c h)
  have Xn : ∀ a ∈ lawX s₁ sc, ¬ Live (ghostOf s₁.heap tabs) a := fun a ha => gsize a (Xge a ha)
  have Tn : ∀ a ∈ tabs.map (·.2), (ghostOf s₁.heap tabs).get? a = none := fun a ha => hideAll_none _ ha
  have hli : (Hd (lawX s₁ sc ++ tabs.map (·.2)) s.heap).IsList ls vs.toArray := isList_sub (fun b o e => hd_get (F.keep b o e) fun q => by
    rcases List.mem_append.mp q with q | q
    · exact Xn b q ⟨o, e⟩
    · have := Tn b q; rw [e] at this; cases this) hl
  refine ⟨⟨⟨rm_caller _, ⟨hkind, rfl, rfl, rfl⟩, fun b o e => F.keep b o e, fun b hb => ?_, fun x d e => ?_, fun x c e => ?_⟩, ⟨⟨m, F.ns⟩, .head _, fun x hx => ?_⟩, fun b hb => List.mem_append.mpr (.inl hb), Sub.refl _, fun b o e => F.keep b o e, Xn, List.mem_append.mpr (.inl (.head _)), gsize _ (Nat.le_refl _), fun h => absurd rfl h, trivial⟩, fun x c e => above x c (mem_of_lookup e), fun c hc => ?_⟩
  · rcases List.mem_append.mp hb with q | q
    · rcases List.mem_cons.mp q with q | q
      · subst q; obtain ⟨o, _, _, e, _⟩ := F.ns; exact ⟨o, e⟩
      · obtain ⟨⟨n, c⟩, h, rfl⟩ := List.mem_map.mp q
        obtain ⟨o, ho⟩ := cellsAre_live C n c h
        exact ⟨o, (N _ (List.mem_append.mpr (.inl ho))).1⟩
    · obtain ⟨r, hr, rfl⟩ := List.mem_map.mp q
      exact ⟨_, (N (r.2, tabObj #[]) (List.mem_append.mpr (.inr (List.mem_map.mpr ⟨r, hr, rfl⟩)))).1⟩
  · rw [List.lookup_cons] at e
    cases hx : x == ("script" : Str) with
    | false => rw [hx] at e; cases e
    | true =>
      rw [hx] at e; cases e
      have hx := eq_of_beq hx
      subst hx
      exact ⟨.ref ls, .inl ⟨hscr, m, F.ns, hm⟩, ints_is hli hI⟩
  · exact ⟨_, (Cc.cell x c e).choose_spec.1⟩
  · rcases own x hx with q | ⟨q1, q2⟩
    · exact .inl q
    · obtain ⟨c0, h0⟩ := cellsFrom_has sc.names (s₁.heap.objs.size + 1) x q2
      obtain ⟨c, hc⟩ := lookup_mem_some h0
      exact .inr ⟨q1, c, hc, .tail _ (List.mem_map.mpr ⟨_, mem_of_lookup hc, rfl⟩), ⟨_, Cc.cell x c hc⟩, fun y hy => name_of_addr co.apart (mem_of_lookup hy) (mem_of_lookup hc)⟩
  · obtain ⟨⟨n, c'⟩, h, rfl⟩ := List.mem_map.mp hc
    exact above n c' h
end
end Mine
namespace Mine
open PySem PySem.Calls PySem.Spec PyProof.Rows PySem.W

theorem gfree {p : Program} {loose : List Str} {mean : ExcName → Option Value} {mg mb : Str → Option Value} {h : Heap} (T : Top p loose mean mg mb h) {xs : List Str}
    (hb : (xs.all fun x => !startupNames.contains x && !loose.contains x && !((recsOf p).map (·.name)).contains x && !((litsOf p).map (·.1)).contains x && !((clssOf p loose).map (·.name)).contains x) = true) : ∀ x ∈ xs, mg x = none := fun x hx => by
  have := List.all_eq_true.mp hb x hx
  simp only [Bool.and_eq_true, Bool.not_eq_true', ← Bool.not_eq_true, List.contains_iff_mem] at this
  obtain ⟨⟨⟨⟨a, b⟩, c⟩, d⟩, e⟩ := this
  exact T.free x a b c d e

def bNames : List Str := ["len", "range", "dict", "tuple", "sorted", "sum", "max", "abs", "enumerate", "isinstance"]
section
variable {prog : Program} {w : World} {view : Program} {loose : List Str} {mean : ExcName → Option Value} {mg mb : Str → Option Value} {s₁ s : Shared} {fa : Addr} {cd : Value} {K : Frag} {tabs : List (Addr × Addr)}
theorem builtAt {h : Heap} {P : Addr} (T : Top view loose mean mg mb s₁.heap) (hT : TabsAt tabs s₁.heap) (hP : P ∈ tabs.map (·.2)) : (ghostOf s₁.heap tabs).BuiltinsAt mg P ∧ mainGlobals ≠ P := by
  have T' := ghost_top hT T
  have hn : (ghostOf s₁.heap tabs).get? P = none := hideAll_none _ hP
  obtain ⟨bm, ob, b1, b2, b3, b4, b5, b6⟩ := T'.bmain
  have hg : mainGlobals ≠ P := fun q => by
    obtain ⟨o, es, ep, e, hd, _⟩ := T'.g
    rw [q, hn] at e; cases e
  refine ⟨⟨bm, ob, b1, b2, fun q => ?_, fun q => ?_, b3, b4, b5, b6⟩, hg⟩
  · obtain ⟨o, es, ep, e, hd, _⟩ := T'.g
    rw [q, e] at b3; cases b3; rw [hd] at b6; cases b6
  · rw [q, hn] at b3; cases b3

theorem gl_ok (T : Top view loose mean mg mb s₁.heap) (hT : TabsAt tabs s₁.heap) (hi : importsNone view = true) : Gl.Ok ⟨prog, w, ghostOf s₁.heap tabs, mg, mb⟩ where
  g := ghost_ns hT T.g
  b := ghost_ns hT T.b
  lim := (ghost_top hT T).nolimit
  sys := fun a e => by
    subst e
    obtain ⟨mm, x, _⟩ := (T.seer hi).mods
    obtain ⟨o, es, ep, e, _⟩ := ghost_ns hT x
    exact ⟨o, e⟩

theorem tabs_ok {name : Str} {sc : Scope} {P : Addr} {M : List Addr} (T : Top view loose mean mg mb s₁.heap) (hT : TabsAt tabs s₁.heap) (hP : P ∈ tabs.map (·.2)) (hM : P ∈ M)
    (ab : ∀ x c, (envOfC name sc s₁.heap.objs.size fa cd).cells.lookup x = some c → @LT.lt Nat _ s₁.heap.objs.size c) (ab2 : ∀ c ∈ (cellsFrom (s₁.heap.objs.size + 1) sc.names []).map (·.2), @LT.lt Nat _ s₁.heap.objs.size c) :
    TabsOk ⟨prog, w, ghostOf s₁.heap tabs, mg, mb⟩ (envOfC name sc s₁.heap.objs.size fa cd) (lawX s₁ sc) M P := by
  have hlt : @LT.lt Nat _ P s₁.heap.objs.size := by
    obtain ⟨q, hq, rfl⟩ := List.mem_map.mp hP
    exact Heap.lt_size (hT q hq).2
  obtain ⟨b1, b2⟩ := builtAt (h := s₁.heap) T hT hP
  refine ⟨hM, fun q => ?_, fun q => ?_, fun x c e q => ?_, fun ⟨o, e⟩ => ?_, b2, b1⟩
  · rcases List.mem_cons.mp q with q | q
    · subst q; exact Nat.lt_irrefl _ hlt
    · exact Nat.lt_asymm hlt (ab2 P q)
  · have q' : s₁.heap.objs.size = P := q
    subst q'; exact Nat.lt_irrefl _ hlt
  · subst q; exact Nat.lt_asymm hlt (ab x _ e)
  · rw [show (ghostOf s₁.heap tabs).get? P = none from hideAll_none _ hP] at e; cases e

structure RecIs (view : Program) (x : Str) (params : Arguments) (body : List Stmt) (scope : Scope) : Prop where
  h : ∃ d, (recsOf view).find? (fun e => e.name == x) = some d ∧ d.params = params ∧ d.body = body ∧ d.scope = scope

theorem def_at {x : Str} {params : Arguments} {body : List Stmt} {scope : Scope} (T : Top view loose mean mg mb s₁.heap) (hT : TabsAt tabs s₁.heap) (r : RecIs view x params body scope) :
    ∃ a, Glo ⟨prog, w, ghostOf s₁.heap tabs, mg, mb⟩ x (.ref a) ∧ DefAt ⟨prog, w, ghostOf s₁.heap tabs, mg, mb⟩ a x params body scope := by
  obtain ⟨d, hd, rfl, rfl, rfl⟩ := r.h
  obtain ⟨a, g, cd, q⟩ := def_of (prog := prog) (w := w) T hT hd
  exact ⟨a, g, q.at'⟩
theorem def_code' {x : Str} {c P : Addr} {params : Arguments} {body : List Stmt} {scope : Scope} (T : Top view loose mean mg mb s₁.heap) (hT : TabsAt tabs s₁.heap) (X : K.In (ghostOf s₁.heap tabs)) (r : RecIs view x params body scope) (ht : tabIn K x = some (c, P)) :
    ∃ a, Glo ⟨prog, w, ghostOf s₁.heap tabs, mg, mb⟩ x (.ref a) ∧ DefC ⟨prog, w, ghostOf s₁.heap tabs, mg, mb⟩ a x params body scope (.ref c) := by
  obtain ⟨d, hd, rfl, rfl, rfl⟩ := r.h
  exact def_code (prog := prog) (w := w) T hT X hd ht

structure View01 (view : Program) (loose : List Str) : Prop where
  int2 : RecIs view "_int2digits" (paramsAt P01 4) (bodyAt P01 4) (scopeAt P01 4)
  dig2 : RecIs view "_digits2int" (paramsAt P01 5) (bodyAt P01 5) (scopeAt P01 5)
  add : RecIs view "add_callers" (paramsAt P01 1) (bodyAt P01 1) (scopeAt P01 1)
  cnt : RecIs view "count_calls" (paramsAt P01 2) (bodyAt P01 2) (scopeAt P01 2)
  meets : RecIs view "_law_meets" (paramsAt P01 7) (bodyAt P01 7) (scopeAt P01 7)
  rows : RecIs view "_law_rows" (paramsAt P01 8) (bodyAt P01 8) (scopeAt P01 8)
  rounds : RecIs view "_law_rounds" (paramsAt P01 9) (bodyAt P01 9) (scopeAt P01 9)
  push : RecIs view "_law_pushed" (paramsAt P01 10) (bodyAt P01 10) (scopeAt P01 10)
  imps : importsNone view = true
  free : (bNames.all fun x => !startupNames.contains x && !loose.contains x && !((recsOf view).map (·.name)).contains x && !((litsOf view).map (·.1)).contains x && !((clssOf view loose).map (·.name)).contains x) = true

theorem head01 {c1 P1 c2 P2 : Addr} {name : Str} {m cm : Str → Option Value} {cells : List (Addr × Obj)} {ls : Addr} {vs : List Value} {ns : List Int} {E : Value → Shared → Prop} {Q : Flow → Shared → Prop} {tk : Tok} {h₁ : Heap}
    (V : View01 view loose) (T : Top view loose mean mg mb s₁.heap) (hT : TabsAt [(c1, P1), (c2, P2)] s₁.heap) (X : K.In (ghostOf s₁.heap [(c1, P1), (c2, P2)])) (t1 : tabIn K "_digits2int" = some (c1, P1)) (t2 : tabIn K "_int2digits" = some (c2, P2)) (hne : P1 ≠ P2)
    (C1 : CodeHd (ghostOf s₁.heap [(c1, P1), (c2, P2)]) c1 P1) (C2 : CodeHd (ghostOf s₁.heap [(c1, P1), (c2, P2)]) c2 P2)
    (F : Fr (ghostOf s₁.heap [(c1, P1), (c2, P2)]) s₁.heap.objs.size h₁ m) (N : News (ghostOf s₁.heap [(c1, P1), (c2, P2)]) s₁.heap.objs.size h₁ (cells ++ tabNews [(c1, P1), (c2, P2)])) (C : CellsAre cm (cellsFrom (s₁.heap.objs.size + 1) (scopeAt P01 11).names []) cells)
    (hm : m "script" = some (.ref ls)) (hl : (ghostOf s₁.heap [(c1, P1), (c2, P2)]).IsList ls vs.toArray) (hI : IntsAre vs ns)
    (fin : ∀ h' tk, Sub (ghostOf s₁.heap [(c1, P1), (c2, P2)]) h' → GrownAt P1 h' → GrownAt P2 h' → Q (.ret (.bool true)) { s₁ with heap := h', toks := tk }) :
    wpAny (model prog w) (callerA.deeper (envOfC name (scopeAt P01 11) s₁.heap.objs.size fa cd)) (execs (bodyAt P01 11) (envOfC name (scopeAt P01 11) s₁.heap.objs.size fa cd)) Q E { s₁ with heap := h₁, toks := tk } := by
  have ok := gl_ok (prog := prog) (w := w) T hT V.imps
  have b : BG ⟨prog, w, ghostOf s₁.heap [(c1, P1), (c2, P2)], mg, mb⟩ := bg_of T.builtins (gfree T V.free)
  obtain ⟨aI, gI, dI⟩ := def_code' (prog := prog) (w := w) T hT X V.int2 t2
  obtain ⟨aD, gD, dD⟩ := def_code' (prog := prog) (w := w) T hT X V.dig2 t1
  obtain ⟨a1, g1, d1⟩ := def_at (prog := prog) (w := w) T hT V.add
  obtain ⟨a2, g2, d2⟩ := def_at (prog := prog) (w := w) T hT V.cnt
  obtain ⟨a3, g3, d3⟩ := def_at (prog := prog) (w := w) T hT V.meets
  obtain ⟨a4, g4, d4⟩ := def_at (prog := prog) (w := w) T hT V.rows
  obtain ⟨a5, g5, d5⟩ := def_at (prog := prog) (w := w) T hT V.rounds
  obtain ⟨a6, g6, d6⟩ := def_at (prog := prog) (w := w) T hT V.push
  obtain ⟨f, ab, ab2⟩ := fs_of (s := { s₁ with heap := h₁, toks := tk }) (prog := prog) (w := w) (mg := mg) (mb := mb) (name := name) (fa := fa) (cd := cd) (xs := lawXs) F N C hm (by decide +kernel) hl hI (by decide +kernel)
  have P1m : P1 ∈ [(c1, P1), (c2, P2)].map (·.2) := .head _
  have P2m : P2 ∈ [(c1, P1), (c2, P2)].map (·.2) := .tail _ (.head _)
  refine wpAny_mono (E := E0) (walk01 ok b gI dI gD dD ⟨g1, d1, g2, d2, g3, d3, g4, d4, g5, d5, g6, d6⟩ C2 C1 (tabs_ok T hT P2m (List.mem_append.mpr (.inr P2m)) ab ab2) (tabs_ok T hT P1m (List.mem_append.mpr (.inr P1m)) ab ab2) hne.symm f ?_ ?_ fun h' tk' k g1 g2 => fin h' tk' k g2 g1) (fun _ _ x => x) fun _ _ x => x.elim
  · exact (N (P2, tabObj #[]) (List.mem_append.mpr (.inr (.tail _ (.head _))))).1
  · exact (N (P1, tabObj #[]) (List.mem_append.mpr (.inr (.head _)))).1
end
end Mine
open PySem PySem.W PyProof.Rows
set_option Elab.async false
set_option maxRecDepth 100000 in
set_option maxHeartbeats 8000000 in
theorem PySem.Challenge.cw_id0003_01_holds : PySem.Challenge.rw_id0003_01.Holds := by
  w_on; o_law; k_head
  (case hw => w_witness2)
  w_strict (
    k_go0
    rename Top _ _ _ _ _ (Shared.heap _) => T
    rename TabsAt _ _ => hT
    rename Frag.In _ _ => X
    rename Fr _ _ _ _ => F
    rename News _ _ _ _ => N
    rename CellsAre _ _ _ => C
    rename IntsAre _ _ => hI
    rename Shared.gens _ = _ => hg
    refine Mine.head01 (ns := _) ?V T hT X (by kernel_rfl) (by kernel_rfl) (by decide) (by assumption) (by assumption) F N C rfl (by assumption) hI ?_
    case V => exact ⟨⟨_, rfl, rfl, rfl, rfl⟩, ⟨_, rfl, rfl, rfl, rfl⟩, ⟨_, rfl, rfl, rfl, rfl⟩, ⟨_, rfl, rfl, rfl, rfl⟩, ⟨_, rfl, rfl, rfl, rfl⟩, ⟨_, rfl, rfl, rfl, rfl⟩, ⟨_, rfl, rfl, rfl, rfl⟩, ⟨_, rfl, rfl, rfl, rfl⟩, by decide +kernel, by decide +kernel⟩
    intro h' tk k g1 g2
    refine ⟨⟨.inl ⟨_, .bool true, [], rfl, fun _ => rfl, ?_, ?_, fun _ => ⟨List.nodup_nil, nofun⟩⟩, k, rfl, hg⟩, g1, g2, trivial⟩
    · exact .bool true
    · wrow_post)
