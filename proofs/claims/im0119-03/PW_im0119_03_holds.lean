import PyProof.Rows.All
import Wide.All
import OpenK.AllK
import Wide.FinOn
import PySem.Challenge.RW_im0119_03
set_option Elab.async false
set_option autoImplicit false
set_option maxRecDepth 10000
namespace Mine
open PySem PyProof.Rows PySem.W

/-- a text as its signs -/
abbrev Tx := List Char
abbrev mkS (x : Tx) : PySem.Str := ⟨(x.map Char.toNat).toArray⟩

/-- plain values -/
inductive V where
  | none
  | bool (b : Bool)
  | int (i : Int)
  | str (s : Tx)
  | flt (x : UInt64)
  | tup (vs : List V)
  | rng (a b c : Int)
  | obj (a : Addr)

/-- objects that may change -/
inductive O where
  | list (vs : List V)
  | ro (o : Obj) (vs : List V)
  | raw (o : Obj)
  | inst (C d : Addr)
  | dict (fs : List (PySem.Str × V))

abbrev Mem := Addr → Option O
structure St where
  loc : List (Option V)
  mem : Mem

inductive Fl where
  | next | brk | cont
  | ret (v : V)

mutual
inductive RV (h : Heap) : Value → V → Prop
  | none : RV h .none .none
  | bool (b : Bool) : RV h (.bool b) (.bool b)
  | int (i : Int) (t : Tok) : RV h (.int i t) (.int i)
  | str (x : Tx) (t : Tok) : RV h (.str (mkS x) t) (.str x)
  | flt (x : UInt64) (t : Tok) : RV h (.float x t) (.flt x)
  | tup {a : Addr} {arr : Array Value} {n : Nat} {xs : List V} : h.get? a = some { cls := .type "tuple", data := .seq arr n } → RVs h arr.toList xs → RV h (.ref a) (.tup xs)
  | rng {a : Addr} {x y z : Int} {t u w : Tok} : h.get? a = some { cls := .type "range", data := .fields #[.int x t, .int y u, .int z w] } → RV h (.ref a) (.rng x y z)
  | obj (a : Addr) : RV h (.ref a) (.obj a)
inductive RVs (h : Heap) : List Value → List V → Prop
  | nil : RVs h [] []
  | cons {v : Value} {x : V} {vs : List Value} {xs : List V} : RV h v x → RVs h vs xs → RVs h (v :: vs) (x :: xs)
end

/-- tuples and ranges stay -/
noncomputable def Imm (o : Obj) : Prop := (o.cls = .type "tuple" ∧ ∃ xs n, o.data = .seq xs n) ∨ (o.cls = .type "range" ∧ ∃ xs, o.data = .fields xs ∧ ∃ x t, xs[1]? = some (.int x t))
noncomputable def TK (h h' : Heap) : Prop := ∀ b o, h.get? b = some o → Imm o → h'.get? b = some o
theorem TK.refl (h : Heap) : TK h h := fun _ _ e _ => e
theorem TK.trans {h h' h'' : Heap} (a : TK h h') (b : TK h' h'') : TK h h'' := fun x o e c => b x o (a x o e c) c
theorem TK.of {h h' : Heap} (a : ∀ b o, h.get? b = some o → h'.get? b = some o) : TK h h' := fun x o e _ => a x o e

theorem RV.both {h : Heap} {M : Value → V → Prop} {N : List Value → List V → Prop} (h1 : M .none .none) (h2 : ∀ b, M (.bool b) (.bool b)) (h3 : ∀ i t, M (.int i t) (.int i)) (h4 : ∀ x t, M (.str (mkS x) t) (.str x)) (h5 : ∀ x t, M (.float x t) (.flt x))
    (h6 : ∀ (a : Addr) (arr : Array Value) (n : Nat) (xs : List V), h.get? a = some { cls := .type "tuple", data := .seq arr n } → N arr.toList xs → M (.ref a) (.tup xs))
    (h7 : ∀ (a : Addr) (x y z : Int) (t u w : Tok), h.get? a = some { cls := .type "range", data := .fields #[.int x t, .int y u, .int z w] } → M (.ref a) (.rng x y z)) (h8 : ∀ a, M (.ref a) (.obj a)) (n1 : N [] [])
    (n2 : ∀ (v : Value) (x : V) (vs : List Value) (xs : List V), RV h v x → RVs h vs xs → M v x → N vs xs → N (v :: vs) (x :: xs)) :
    (∀ {v : Value} {x : V}, RV h v x → M v x) ∧ ∀ {vs : List Value} {xs : List V}, RVs h vs xs → N vs xs :=
  ⟨fun r => RV.rec (motive_1 := fun v x _ => M v x) (motive_2 := fun v x _ => N v x) h1 h2 h3 h4 h5 (fun e _ q => h6 _ _ _ _ e q) (fun e => h7 _ _ _ _ _ _ _ e) h8 n1 (fun a b c d => n2 _ _ _ _ a b c d) r,
   fun r => RVs.rec (motive_1 := fun v x _ => M v x) (motive_2 := fun v x _ => N v x) h1 h2 h3 h4 h5 (fun e _ q => h6 _ _ _ _ e q) (fun e => h7 _ _ _ _ _ _ _ e) h8 n1 (fun a b c d => n2 _ _ _ _ a b c d) r⟩
theorem RV.tks {h h' : Heap} (k : TK h h') : (∀ {v : Value} {x : V}, RV h v x → RV h' v x) ∧ ∀ {vs : List Value} {xs : List V}, RVs h vs xs → RVs h' vs xs :=
  RV.both (M := RV h') (N := RVs h') .none .bool .int .str .flt (fun _ _ _ _ e r => .tup (k _ _ e (.inl ⟨rfl, _, _, rfl⟩)) r) (fun _ _ _ _ _ _ _ e => .rng (k _ _ e (.inr ⟨rfl, _, rfl, _, _, rfl⟩))) .obj .nil (fun _ _ _ _ _ _ a r => .cons a r)
theorem RV.tk {h h' : Heap} (k : TK h h') {v : Value} {x : V} (r : RV h v x) : RV h' v x := (RV.tks k).1 r
theorem RVs.tk {h h' : Heap} (k : TK h h') {v : List Value} {x : List V} (r : RVs h v x) : RVs h' v x := (RV.tks k).2 r
theorem RVs.ind {h : Heap} {N : List Value → List V → Prop} (n1 : N [] []) (n2 : ∀ (v : Value) (x : V) (vs : List Value) (xs : List V), RV h v x → RVs h vs xs → N vs xs → N (v :: vs) (x :: xs)) {vs : List Value} {xs : List V} (r : RVs h vs xs) : N vs xs :=
  (RV.both (h := h) (M := fun _ _ => True) (N := N) trivial (fun _ => trivial) (fun _ _ => trivial) (fun _ _ => trivial) (fun _ _ => trivial) (fun _ _ _ _ _ _ => trivial) (fun _ _ _ _ _ _ _ _ => trivial) (fun _ => trivial) n1 (fun v x vs xs a b _ d => n2 v x vs xs a b d)).2 r
theorem RVs.length {h : Heap} {vs : List Value} {xs : List V} (r : RVs h vs xs) : vs.length = xs.length := RVs.ind (N := fun vs xs => vs.length = xs.length) rfl (fun _ _ _ _ _ _ e => congrArg (· + 1) e) r
theorem RVs.append {h : Heap} {vs ws : List Value} {xs ys : List V} (r : RVs h vs xs) (b : RVs h ws ys) : RVs h (vs ++ ws) (xs ++ ys) := RVs.ind (N := fun vs xs => RVs h (vs ++ ws) (xs ++ ys)) b (fun _ _ _ _ a _ e => .cons a e) r
theorem RVs.get {h : Heap} {vs : List Value} {xs : List V} (r : RVs h vs xs) : ∀ {i : Nat} {x : V}, xs[i]? = some x → ∃ v, vs[i]? = some v ∧ RV h v x := by
  refine RVs.ind (N := fun vs xs => ∀ {i : Nat} {x : V}, xs[i]? = some x → ∃ v, vs[i]? = some v ∧ RV h v x) ?_ ?_ r
  · intro i x e; cases i <;> cases e
  · intro v x vs xs a _ ih i y e
    cases i with
    | zero => cases e; exact ⟨_, rfl, a⟩
    | succ i => exact ih (i := i) e
theorem RVs.take {h : Heap} {vs : List Value} {xs : List V} (r : RVs h vs xs) : ∀ n : Nat, RVs h (vs.take n) (xs.take n) := by
  refine RVs.ind (N := fun vs xs => ∀ n : Nat, RVs h (vs.take n) (xs.take n)) ?_ ?_ r
  · intro n; cases n <;> exact .nil
  · intro v x vs xs a _ ih n
    cases n with
    | zero => exact .nil
    | succ n => exact .cons a (ih n)
theorem RVs.drop {h : Heap} {vs : List Value} {xs : List V} (r : RVs h vs xs) : ∀ n : Nat, RVs h (vs.drop n) (xs.drop n) := by
  refine RVs.ind (N := fun vs xs => ∀ n : Nat, RVs h (vs.drop n) (xs.drop n)) ?_ ?_ r
  · intro n; cases n <;> exact .nil
  · intro v x vs xs a b ih n
    cases n with
    | zero => exact .cons a b
    | succ n => exact ih n
theorem RVs.set {h : Heap} {vs : List Value} {xs : List V} (r : RVs h vs xs) : ∀ (n : Nat) {v : Value} {x : V}, RV h v x → RVs h (vs.set n v) (xs.set n x) := by
  refine RVs.ind (N := fun vs xs => ∀ (n : Nat) {v : Value} {x : V}, RV h v x → RVs h (vs.set n v) (xs.set n x)) ?_ ?_ r
  · intro n _ _ _; cases n <;> exact .nil
  · intro v x vs xs a b ih n _ _ c
    cases n with
    | zero => exact .cons c b
    | succ n => exact .cons a (ih n c)
theorem RVs.one {h : Heap} {v : Value} {x : V} (r : RV h v x) : RVs h [v] [x] := .cons r .nil

-- ways in
section
variable {h : Heap} {cv : Value} {cs : List Value} {M : Value → Prop} {N : List Value → Prop}
@[elab_as_elim] theorem RV.eN (r : RV h cv .none) (k : M .none) : M cv := by cases r; exact k
@[elab_as_elim] theorem RV.eB {b : Bool} (r : RV h cv (.bool b)) (k : M (.bool b)) : M cv := by cases r; exact k
@[elab_as_elim] theorem RV.eI {i : Int} (r : RV h cv (.int i)) (k : ∀ t, M (.int i t)) : M cv := by cases r; exact k _
@[elab_as_elim] theorem RV.eS {x : Tx} (r : RV h cv (.str x)) (k : ∀ t, M (.str (mkS x) t)) : M cv := by cases r; exact k _
@[elab_as_elim] theorem RV.eT {xs : List V} (r : RV h cv (.tup xs)) (k : ∀ a arr n, h.get? a = some { cls := .type "tuple", data := .seq arr n } → RVs h arr.toList xs → M (.ref a)) : M cv := by cases r with | tup g q => exact k _ _ _ g q
@[elab_as_elim] theorem RV.eO {a : Addr} (r : RV h cv (.obj a)) (k : M (.ref a)) : M cv := by cases r; exact k
@[elab_as_elim] theorem RVs.e0 (r : RVs h cs []) (k : N []) : N cs := by cases r; exact k
@[elab_as_elim] theorem RVs.eC {x : V} {xs : List V} (r : RVs h cs (x :: xs)) (k : ∀ c cs, RV h c x → RVs h cs xs → N (c :: cs)) : N cs := by cases r with | cons a b => exact k _ _ a b
@[elab_as_elim] theorem RVs.e1 {x : V} (r : RVs h cs [x]) (k : ∀ c, RV h c x → N [c]) : N cs := by cases r with | cons a b => cases b; exact k _ a
@[elab_as_elim] theorem RVs.e2 {x y : V} (r : RVs h cs [x, y]) (k : ∀ c d, RV h c x → RV h d y → N [c, d]) : N cs := by cases r with | cons a b => cases b with | cons c d => cases d; exact k _ _ a c
@[elab_as_elim] theorem RVs.e3 {x y z : V} (r : RVs h cs [x, y, z]) (k : ∀ c d e, RV h c x → RV h d y → RV h e z → N [c, d, e]) : N cs := by cases r with | cons a b => cases b with | cons c d => cases d with | cons e f => cases f; exact k _ _ _ a c e
end

/-- names of an instance's dict -/
noncomputable def Fields (h : Heap) : List DictEntry → List (PySem.Str × V) → Prop
  | [], [] => True
  | e :: es, f :: fs => (∃ t, e.key = .str f.1 t) ∧ RV h e.val f.2 ∧ Fields h es fs
  | _, _ => False
theorem Fields.tk {h h' : Heap} (k : TK h h') : ∀ {es : List DictEntry} {fs : List (PySem.Str × V)}, Fields h es fs → Fields h' es fs
  | [], [], _ => trivial
  | _ :: _, _ :: _, ⟨a, b, c⟩ => ⟨a, b.tk k, Fields.tk k c⟩
  | [], _ :: _, x => x.elim
  | _ :: _, [], x => x.elim

/-- the object in the heap -/
inductive RO (h : Heap) (a : Addr) : O → Prop
  | list {arr : Array Value} {n : Nat} {vs : List V} : h.get? a = some { cls := .type "list", data := .seq arr n } → RVs h arr.toList vs → RO h a (.list vs)
  | ro {arr : Array Value} {n : Nat} {o : Obj} {vs : List V} : h.get? a = some o → o.cls = .type "list" → o.data = .seq arr n → RVs h arr.toList vs → RO h a (.ro o vs)
  | raw {o : Obj} : h.get? a = some o → ¬ Imm o → RO h a (.raw o)
  | inst {C d : Addr} : h.get? a = some (instObj C d) → RO h a (.inst C d)
  | dict {es : List DictEntry} {n : Nat} {fs : List (PySem.Str × V)} : h.get? a = some (dictOf es n) → Fields h es fs → RO h a (.dict fs)

theorem RO.l {h : Heap} {a : Addr} {vs : List V} (r : RO h a (.list vs)) : ∃ arr n, h.get? a = some { cls := .type "list", data := .seq arr n } ∧ RVs h arr.toList vs ∧ arr.size = vs.length := by
  cases r with
  | list g q => exact ⟨_, _, g, q, q.length⟩
theorem RO.obj {h : Heap} {a : Addr} {o : O} (r : RO h a o) : ∃ x, h.get? a = some x ∧ ¬ Imm x := by
  cases r with
  | list e _ => exact ⟨_, e, by simp [Imm]⟩
  | ro e c _ _ => exact ⟨_, e, by rw [Imm, c]; simp⟩
  | raw e c => exact ⟨_, e, c⟩
  | inst e => exact ⟨_, e, by simp [Imm]⟩
  | dict e _ => exact ⟨_, e, by simp [Imm]⟩
theorem RO.lt {h : Heap} {a : Addr} {o : O} (r : RO h a o) : a < h.objs.size := let ⟨_, e, _⟩ := r.obj; Heap.lt_size e
theorem RO.keep {h h' : Heap} {a : Addr} {o : O} (r : RO h a o) (k : TK h h') (e : ∀ x, h.get? a = some x → h'.get? a = some x) : RO h' a o := by
  cases r with
  | list g s => exact .list (e _ g) (s.tk k)
  | ro g c d s => exact .ro (e _ g) c d (s.tk k)
  | raw g c => exact .raw (e _ g) c
  | inst g => exact .inst (e _ g)
  | dict g s => exact .dict (e _ g) (s.tk k)

/-- the run's fixed part -/
structure GS where
  prog : Program
  w : World
  s0 : Shared
  base : Heap
  keep : Addr → Option Obj
  mg : PySem.Str → Option Value
  mb : PySem.Str → Option Value
  K : Frag
  fns : List String
  meths : List String

structure GS.ok (G : GS) : Prop where
  g : G.base.Ns mainGlobals G.mg
  b : G.base.Ns builtinsNs G.mb
  lim : G.base.NoLimit
  k : G.K.In G.base

inductive VK where
  | loc
  | own (c : Addr)
  | ref (c : Addr)

structure FE where
  env : Env
  vars : List (PySem.Str × VK)

abbrev cellO (v : Option Value) : Obj := { cls := .type "cell", data := .cell v }

structure FE.ok (Γ : FE) : Prop where
  fn : Γ.env.scope.kind = .function
  glb : Γ.env.globals = mainGlobals
  bui : Γ.env.builtins = builtinsNs
  loc : ∀ (i : Nat) x, Γ.vars[i]? = some (x, .loc) → Γ.env.kindOf x = some .local
  own : ∀ (i : Nat) x c, Γ.vars[i]? = some (x, .own c) → Γ.env.kindOf x = some .cell ∧ Γ.env.cells.lookup x = some c ∧ c ≠ Γ.env.locals
  ref : ∀ (i : Nat) x c, Γ.vars[i]? = some (x, .ref c) → (Γ.env.kindOf x = some .cell ∨ Γ.env.kindOf x = some .free) ∧ Γ.env.cells.lookup x = some c
  names : ∀ (i j : Nat) x k k', Γ.vars[i]? = some (x, k) → Γ.vars[j]? = some (x, k') → i = j
  cells : ∀ (i j : Nat) x y c, Γ.vars[i]? = some (x, .own c) → Γ.vars[j]? = some (y, .own c) → i = j
  dbg : ∀ (i : Nat) x k, Γ.vars[i]? = some (x, k) → (x == ("__debug__" : PySem.Str)) = false ∧ (x == ("__classdict__" : PySem.Str)) = false

abbrev Frz := Addr → Option Obj

structure Rep (G : GS) (Γ : FE) (frz : Frz) (σ : St) (s : Shared) : Prop where
  same : ∃ h tk, s = { G.s0 with heap := h, toks := tk }
  hbase : ∀ b o, G.base.get? b = some o → frz b = some o
  hkeep : ∀ b o, G.keep b = some o → frz b = some o
  hfrz : ∀ b o, frz b = some o → s.heap.get? b = some o
  hmem : ∀ a o, σ.mem a = some o → RO s.heap a o
  hmemF : ∀ a o, σ.mem a = some o → frz a = none
  hab : G.base.objs.size ≤ Γ.env.locals
  hlf : frz Γ.env.locals = none
  hlm : σ.mem Γ.env.locals = none
  hns : ∃ m, s.heap.Ns Γ.env.locals m ∧ ∀ (i : Nat) x v, Γ.vars[i]? = some (x, .loc) → σ.loc[i]? = some (some v) → ∃ cv, m x = some cv ∧ RV s.heap cv v
  hown : ∀ (i : Nat) x c, Γ.vars[i]? = some (x, .own c) → frz c = none ∧ σ.mem c = none ∧ ∃ o ov, s.heap.get? c = some o ∧ o.data = .cell ov ∧ ∀ v, σ.loc[i]? = some (some v) → ∃ cv, ov = some cv ∧ RV s.heap cv v
  href : ∀ (i : Nat) x c, Γ.vars[i]? = some (x, .ref c) → ∃ o ov, frz c = some o ∧ o.data = .cell ov ∧ ∀ v, σ.loc[i]? = some (some v) → ∃ cv, ov = some cv ∧ RV s.heap cv v

/-- without a frame -/
structure Rp (G : GS) (frz : Frz) (m : Mem) (s : Shared) : Prop where
  same : ∃ h tk, s = { G.s0 with heap := h, toks := tk }
  hbase : ∀ b o, G.base.get? b = some o → frz b = some o
  hkeep : ∀ b o, G.keep b = some o → frz b = some o
  hfrz : ∀ b o, frz b = some o → s.heap.get? b = some o
  hmem : ∀ a o, m a = some o → RO s.heap a o
  hmemF : ∀ a o, m a = some o → frz a = none
  hsz : G.base.objs.size ≤ s.heap.objs.size

noncomputable def upd (m : Mem) (a : Addr) (o : O) : Mem := fun b => if b = a then some o else m b
theorem upd_self (m : Mem) (a : Addr) (o : O) : upd m a o a = some o := by simp [upd]
theorem upd_ne (m : Mem) {a b : Addr} (o : O) (h : b ≠ a) : upd m a o b = m b := by simp [upd, h]
theorem upd_upd (m : Mem) (a : Addr) (o o' : O) : upd (upd m a o) a o' = upd m a o' := by
  funext b; by_cases h : b = a <;> simp [upd, h]
theorem upd_id {m : Mem} {a : Addr} {o : O} (h : m a = some o) : upd m a o = m := by
  funext b; by_cases e : b = a
  · subst e; rw [upd_self, h]
  · simp [upd, e]
theorem upd_comm (m : Mem) {a b : Addr} (o o' : O) (h : a ≠ b) : upd (upd m a o) b o' = upd (upd m b o') a o := by
  funext c; by_cases e : c = a
  · subst e; simp [upd, h]
  · simp [upd, e]

section
variable {G : GS} {Γ : FE} {frz : Frz} {σ : St} {s : Shared}

/-- all stands but what hangs on the frame's own dict -/
structure Kp (L : Addr) (h h' : Heap) : Prop where
  all : ∀ b o, b ≠ L → h.get? b = some o → h'.get? b = some o
  ns : ∀ m, h.Ns L m → h'.Ns L m
theorem Kp.of {L : Addr} {h h' : Heap} (k : ∀ b o, h.get? b = some o → h'.get? b = some o) : Kp L h h' := ⟨fun b o _ => k b o, fun _ n => n.keeps k⟩
theorem ns_not_imm {h : Heap} {L : Addr} {m : PySem.Str → Option Value} (n : h.Ns L m) {o : Obj} (e : h.get? L = some o) : ¬ Imm o := by
  obtain ⟨o', es, ep, e', d, _⟩ := n
  rw [e] at e'; cases e'
  rintro (⟨_, _, _, q⟩ | ⟨_, _, q, _⟩) <;> rw [d] at q <;> cases q
theorem Rep.kp_tk (r : Rep G Γ frz σ s) {h' : Heap} (k : Kp Γ.env.locals s.heap h') : TK s.heap h' := fun b o e i => by
  by_cases hb : b = Γ.env.locals
  · subst hb
    obtain ⟨m, n, _⟩ := r.hns
    exact absurd i (ns_not_imm n e)
  · exact k.all b o hb e
theorem Rep.mem_ne (r : Rep G Γ frz σ s) {a : Addr} {o : O} (e : σ.mem a = some o) : a ≠ Γ.env.locals := fun q => by subst q; rw [r.hlm] at e; cases e
theorem Rep.frz_ne (r : Rep G Γ frz σ s) {a : Addr} {o : Obj} (e : frz a = some o) : a ≠ Γ.env.locals := fun q => by subst q; rw [r.hlf] at e; cases e

/-- growth: all that stood stands -/
theorem Rep.growL (ok : Γ.ok) (r : Rep G Γ frz σ s) {h' : Heap} {tk : Nat} (k : Kp Γ.env.locals s.heap h') : Rep G Γ frz σ { s with heap := h', toks := tk } where
  same := let ⟨_, _, e⟩ := r.same; ⟨h', tk, by rw [e]⟩
  hbase := r.hbase
  hkeep := r.hkeep
  hfrz := fun b o e => k.all b o (r.frz_ne e) (r.hfrz b o e)
  hmem := fun a o e => (r.hmem a o e).keep (r.kp_tk k) fun x => k.all a x (r.mem_ne e)
  hmemF := r.hmemF
  hab := r.hab
  hlf := r.hlf
  hlm := r.hlm
  hns := let ⟨m, n, f⟩ := r.hns; ⟨m, k.ns m n, fun i x v a b => let ⟨cv, e, q⟩ := f i x v a b; ⟨cv, e, q.tk (r.kp_tk k)⟩⟩
  hown := fun i x c e => let ⟨a, b, o, ov, g, d, f⟩ := r.hown i x c e; ⟨a, b, o, ov, k.all _ _ (ok.own i x c e).2.2 g, d, fun v q => let ⟨cv, e1, e2⟩ := f v q; ⟨cv, e1, e2.tk (r.kp_tk k)⟩⟩
  href := fun i x c a => let ⟨o, ov, e, d, f⟩ := r.href i x c a; ⟨o, ov, e, d, fun v b => let ⟨cv, e1, e2⟩ := f v b; ⟨cv, e1, e2.tk (r.kp_tk k)⟩⟩
theorem Rep.grow (r : Rep G Γ frz σ s) {h' : Heap} {tk : Nat} (k : ∀ b o, s.heap.get? b = some o → h'.get? b = some o) : Rep G Γ frz σ { s with heap := h', toks := tk } where
  same := let ⟨_, _, e⟩ := r.same; ⟨h', tk, by rw [e]⟩
  hbase := r.hbase
  hkeep := r.hkeep
  hfrz := fun b o e => k b o (r.hfrz b o e)
  hmem := fun a o e => (r.hmem a o e).keep (.of k) (k a)
  hmemF := r.hmemF
  hab := r.hab
  hlf := r.hlf
  hlm := r.hlm
  hns := let ⟨m, n, f⟩ := r.hns; ⟨m, n.keeps k, fun i x v a b => let ⟨cv, e, q⟩ := f i x v a b; ⟨cv, e, q.tk (.of k)⟩⟩
  hown := fun i x c e => let ⟨a, b, o, ov, g, d, f⟩ := r.hown i x c e; ⟨a, b, o, ov, k _ _ g, d, fun v q => let ⟨cv, e1, e2⟩ := f v q; ⟨cv, e1, e2.tk (.of k)⟩⟩
  href := fun i x c a => let ⟨o, ov, e, d, f⟩ := r.href i x c a; ⟨o, ov, e, d, fun v b => let ⟨cv, e1, e2⟩ := f v b; ⟨cv, e1, e2.tk (.of k)⟩⟩

theorem Rep.toks (r : Rep G Γ frz σ s) (tk : Nat) : Rep G Γ frz σ { s with toks := tk } := r.grow (h' := s.heap) fun _ _ e => e

/-- a change at one object of the memory -/
theorem Rep.changeL (ok : Γ.ok) (r : Rep G Γ frz σ s) {a : Addr} {o₀ o : O} (ha : σ.mem a = some o₀) {h' : Heap} {tk : Nat}
    (k : ∀ b o, b ≠ a → b ≠ Γ.env.locals → s.heap.get? b = some o → h'.get? b = some o) (kn : ∀ m, s.heap.Ns Γ.env.locals m → h'.Ns Γ.env.locals m)
    (ro : TK s.heap h' → RO h' a o) : Rep G Γ frz { σ with mem := upd σ.mem a o } { s with heap := h', toks := tk } ∧ TK s.heap h' := by
  have tkk : TK s.heap h' := fun b x e c => by
    by_cases hb : b = a
    · subst hb
      obtain ⟨y, ey, hy⟩ := (r.hmem _ _ ha).obj
      rw [e] at ey; cases ey; exact absurd c hy
    · by_cases hl : b = Γ.env.locals
      · subst hl
        obtain ⟨m, n, _⟩ := r.hns
        exact absurd c (ns_not_imm n e)
      · exact k b x hb hl e
  have nf : ∀ b o, frz b = some o → b ≠ a := fun b o e q => by subst q; rw [r.hmemF _ _ ha] at e; cases e
  refine ⟨⟨let ⟨_, _, e⟩ := r.same; ⟨h', tk, by rw [e]⟩, r.hbase, r.hkeep, fun b o e => k b o (nf b o e) (r.frz_ne e) (r.hfrz b o e), ?_, ?_, r.hab, r.hlf, ?_, ?_, ?_, ?_⟩, tkk⟩
  · intro b x e
    replace e : upd _ _ _ _ = _ := e
    by_cases hb : b = a
    · subst hb; rw [upd_self] at e; cases e; exact ro tkk
    · rw [upd_ne _ _ hb] at e; exact (r.hmem b x e).keep tkk fun y => k b y hb (r.mem_ne e)
  · intro b x e
    replace e : upd _ _ _ _ = _ := e
    by_cases hb : b = a
    · subst hb; exact r.hmemF _ _ ha
    · rw [upd_ne _ _ hb] at e; exact r.hmemF b x e
  · show upd _ _ _ _ = none
    rw [upd_ne]; exact r.hlm
    intro q; rw [← q, r.hlm] at ha; cases ha
  · obtain ⟨m, n, f⟩ := r.hns
    refine ⟨m, kn m n, fun i x v p q => ?_⟩
    obtain ⟨cv, e1, e2⟩ := f i x v p q
    exact ⟨cv, e1, e2.tk tkk⟩
  · intro i x c e
    obtain ⟨p, q, o, ov, g, d, f⟩ := r.hown i x c e
    have hc : c ≠ a := by intro z; rw [z, ha] at q; cases q
    refine ⟨p, ?_, o, ov, k _ _ hc (ok.own i x c e).2.2 g, d, fun v z => ?_⟩
    · show upd _ _ _ _ = none
      rw [upd_ne _ _ hc]; exact q
    · obtain ⟨cv, e1, e2⟩ := f v z; exact ⟨cv, e1, e2.tk tkk⟩
  · intro i x c p
    obtain ⟨o, ov, e1, d, f⟩ := r.href i x c p
    exact ⟨o, ov, e1, d, fun v b => let ⟨cv, e1, e2⟩ := f v b; ⟨cv, e1, e2.tk tkk⟩⟩
theorem Rep.change (ok : Γ.ok) (r : Rep G Γ frz σ s) {a : Addr} {o₀ o : O} (ha : σ.mem a = some o₀) {h' : Heap} {tk : Nat} (k : ∀ b o, b ≠ a → s.heap.get? b = some o → h'.get? b = some o)
    (ro : TK s.heap h' → RO h' a o) : Rep G Γ frz { σ with mem := upd σ.mem a o } { s with heap := h', toks := tk } ∧ TK s.heap h' :=
  r.changeL ok ha (fun b o hb _ => k b o hb) (fun m n => n.extBut (b := a) (fun b o hb e => k b o hb e) (Ne.symm (r.mem_ne ha))) ro

theorem Rep.none_of_ge (r : Rep G Γ frz σ s) {a : Addr} (h : s.heap.objs.size ≤ a) : σ.mem a = none ∧ frz a = none := by
  constructor
  · cases e : σ.mem a with
    | none => rfl
    | some o => exact absurd (r.hmem _ _ e).lt (Nat.not_lt.mpr h)
  · cases e : frz a with
    | none => rfl
    | some o => exact absurd (Heap.lt_size (r.hfrz _ _ e)) (Nat.not_lt.mpr h)

theorem Rep.rp (r : Rep G Γ frz σ s) : Rp G frz σ.mem s :=
  ⟨r.same, r.hbase, r.hkeep, r.hfrz, r.hmem, r.hmemF, Nat.le_of_lt (Nat.lt_of_le_of_lt r.hab (let ⟨_, n, _⟩ := r.hns; n.lt))⟩
theorem Rep.lt_locals (r : Rep G Γ frz σ s) : Γ.env.locals < s.heap.objs.size := let ⟨_, n, _⟩ := r.hns; n.lt

/-- a new object joins the memory -/
theorem Rep.join (r : Rep G Γ frz σ s) {a : Addr} {o : O} (hm : σ.mem a = none) (hf : frz a = none) (hl : a ≠ Γ.env.locals) (hc : ∀ (i : Nat) x c, Γ.vars[i]? = some (x, .own c) → c ≠ a) (ro : RO s.heap a o) :
    Rep G Γ frz { σ with mem := upd σ.mem a o } s := by
  refine ⟨r.same, r.hbase, r.hkeep, r.hfrz, ?_, ?_, r.hab, r.hlf, ?_, r.hns, ?_, r.href⟩
  · intro b x e
    replace e : upd _ _ _ _ = _ := e
    by_cases hb : b = a
    · subst hb; rw [upd_self] at e; cases e; exact ro
    · rw [upd_ne _ _ hb] at e; exact r.hmem b x e
  · intro b x e
    replace e : upd _ _ _ _ = _ := e
    by_cases hb : b = a
    · subst hb; exact hf
    · rw [upd_ne _ _ hb] at e; exact r.hmemF b x e
  · show upd _ _ _ _ = none
    rw [upd_ne _ _ (Ne.symm hl)]; exact r.hlm
  · intro i x c e
    obtain ⟨p, q, o, ov, g, d, f⟩ := r.hown i x c e
    refine ⟨p, ?_, o, ov, g, d, f⟩
    show upd _ _ _ _ = none
    rw [upd_ne _ _ (hc i x c e)]; exact q
theorem Rep.freshL (ok : Γ.ok) (r : Rep G Γ frz σ s) {a : Addr} {o : O} (ha : s.heap.objs.size ≤ a) {h' : Heap} {tk : Nat} (k : Kp Γ.env.locals s.heap h')
    (ro : RO h' a o) : Rep G Γ frz { σ with mem := upd σ.mem a o } { s with heap := h', toks := tk } := by
  have r' := r.growL ok (tk := tk) k
  refine r'.join (r.none_of_ge ha).1 (r.none_of_ge ha).2 (Ne.symm (Nat.ne_of_lt (Nat.lt_of_lt_of_le r.lt_locals ha))) (fun i x c e => ?_) ro
  obtain ⟨_, _, o', ov', g', _, _⟩ := r.hown i x c e
  exact Nat.ne_of_lt (Nat.lt_of_lt_of_le (Heap.lt_size g') ha)
theorem Rep.fresh (r : Rep G Γ frz σ s) {a : Addr} {o : O} (ha : s.heap.objs.size ≤ a) {h' : Heap} {tk : Nat} (k : ∀ b o, s.heap.get? b = some o → h'.get? b = some o)
    (ro : RO h' a o) : Rep G Γ frz { σ with mem := upd σ.mem a o } { s with heap := h', toks := tk } := by
  have r' := r.grow (tk := tk) k
  refine r'.join (r.none_of_ge ha).1 (r.none_of_ge ha).2 (Ne.symm (Nat.ne_of_lt (Nat.lt_of_lt_of_le r.lt_locals ha))) (fun i x c e => ?_) ro
  obtain ⟨_, _, o', ov', g', _, _⟩ := r.hown i x c e
  exact Nat.ne_of_lt (Nat.lt_of_lt_of_le (Heap.lt_size g') ha)

/-- an object aside: neither told nor held -/
structure Aside (G : GS) (Γ : FE) (frz : Frz) (σ : St) (a : Addr) : Prop where
  m : σ.mem a = none
  f : frz a = none
  l : a ≠ Γ.env.locals
  c : ∀ (i : Nat) x c, Γ.vars[i]? = some (x, .own c) → c ≠ a
  r : ∀ (i : Nat) x c, Γ.vars[i]? = some (x, .ref c) → c ≠ a
theorem Rep.asideNew (r : Rep G Γ frz σ s) {a : Addr} (h : s.heap.objs.size ≤ a) : Aside G Γ frz σ a where
  m := (r.none_of_ge h).1
  f := (r.none_of_ge h).2
  l := Ne.symm (Nat.ne_of_lt (Nat.lt_of_lt_of_le r.lt_locals h))
  c := fun i x c e => let ⟨_, _, _, _, g, _⟩ := r.hown i x c e; Nat.ne_of_lt (Nat.lt_of_lt_of_le (Heap.lt_size g) h)
  r := fun i x c e => let ⟨_, _, g, _⟩ := r.href i x c e; Nat.ne_of_lt (Nat.lt_of_lt_of_le (Heap.lt_size (r.hfrz _ _ g)) h)
theorem Rep.asideTk (r : Rep G Γ frz σ s) {a : Addr} {o : Obj} (_d : Aside G Γ frz σ a) (ho : s.heap.get? a = some o) (ni : ¬ Imm o) {h' : Heap} (k : ∀ b o, b ≠ a → s.heap.get? b = some o → h'.get? b = some o) : TK s.heap h' := fun b x e c => by
  by_cases hb : b = a
  · subst hb; rw [ho] at e; cases e; exact absurd c ni
  · exact k b x hb e
theorem Rep.aside (r : Rep G Γ frz σ s) {a : Addr} {o : Obj} (d : Aside G Γ frz σ a) (ho : s.heap.get? a = some o) (ni : ¬ Imm o) {h' : Heap} {tk : Nat} (k : ∀ b o, b ≠ a → s.heap.get? b = some o → h'.get? b = some o) :
    Rep G Γ frz σ { s with heap := h', toks := tk } ∧ TK s.heap h' := by
  have t := r.asideTk d ho ni k
  have nf : ∀ b o, frz b = some o → b ≠ a := fun b o e q => by subst q; rw [d.f] at e; cases e
  have nm : ∀ b o, σ.mem b = some o → b ≠ a := fun b o e q => by subst q; rw [d.m] at e; cases e
  refine ⟨⟨let ⟨_, _, e⟩ := r.same; ⟨h', tk, by rw [e]⟩, r.hbase, r.hkeep, fun b o e => k b o (nf b o e) (r.hfrz b o e), fun b x e => (r.hmem b x e).keep t fun y ey => k b y (nm b x e) ey, r.hmemF, r.hab, r.hlf, r.hlm, ?_, ?_, ?_⟩, t⟩
  · obtain ⟨m, n, f⟩ := r.hns
    exact ⟨m, n.extBut (b := a) (fun b o hb e => k b o hb e) (Ne.symm d.l), fun i x v p q => let ⟨cv, e1, e2⟩ := f i x v p q; ⟨cv, e1, e2.tk t⟩⟩
  · intro i x c e
    obtain ⟨p, q, o, ov, g, dd, f⟩ := r.hown i x c e
    exact ⟨p, q, o, ov, k _ _ (d.c i x c e) g, dd, fun v z => let ⟨cv, e1, e2⟩ := f v z; ⟨cv, e1, e2.tk t⟩⟩
  · intro i x c e
    obtain ⟨o, ov, g, dd, f⟩ := r.href i x c e
    exact ⟨o, ov, g, dd, fun v z => let ⟨cv, e1, e2⟩ := f v z; ⟨cv, e1, e2.tk t⟩⟩

/-- the frame as the library says it -/
theorem Rep.fr (r : Rep G Γ frz σ s) {m : PySem.Str → Option Value} (n : s.heap.Ns Γ.env.locals m) : Fr G.base Γ.env.locals s.heap m :=
  ⟨n, fun b o e => r.hfrz b o (r.hbase b o e), r.hab⟩
/-- all else, as a ledger -/
noncomputable def restOf (G : GS) (L : Addr) (h : Heap) (D : List Addr) : List (Addr × Obj) :=
  (List.range h.objs.size).filterMap fun b => if b = L ∨ b ∈ D ∨ (G.base.get? b).isSome then none else (h.get? b).map (b, ·)
theorem restOf_mem {L : Addr} {h : Heap} {D : List Addr} {b : Addr} {o : Obj} : (b, o) ∈ restOf G L h D ↔ b ≠ L ∧ b ∉ D ∧ G.base.get? b = none ∧ h.get? b = some o := by
  unfold restOf
  rw [List.mem_filterMap]
  constructor
  · rintro ⟨c, _, e⟩
    split at e
    · cases e
    · rename_i q
      rw [Option.map_eq_some_iff] at e
      obtain ⟨x, e1, e2⟩ := e
      cases e2
      simp only [not_or, Option.not_isSome_iff_eq_none] at q
      exact ⟨q.1, q.2.1, q.2.2, e1⟩
  · rintro ⟨h1, h2, h3, h4⟩
    refine ⟨b, List.mem_range.mpr (Heap.lt_size h4), ?_⟩
    rw [if_neg (by simp [h1, h2, h3]), h4]; rfl
theorem Rep.rest (_r : Rep G Γ frz σ s) (D : List Addr) : News G.base Γ.env.locals s.heap (restOf G Γ.env.locals s.heap D) := fun p hp => by
  obtain ⟨b, o⟩ := p
  obtain ⟨h1, h2, h3, h4⟩ := restOf_mem.mp hp
  exact ⟨h4, h1, h3⟩
theorem Rep.keep_of_rest (r : Rep G Γ frz σ s) {D : List Addr} {h' : Heap} {m : PySem.Str → Option Value} (F : Fr G.base Γ.env.locals h' m) (N : News G.base Γ.env.locals h' (restOf G Γ.env.locals s.heap D)) :
    ∀ b o, b ∉ D → b ≠ Γ.env.locals → s.heap.get? b = some o → h'.get? b = some o := fun b o hd hl e => by
  cases q : G.base.get? b with
  | some o' =>
    have := r.hfrz b o' (r.hbase b o' q)
    rw [e] at this; cases this
    exact F.keep b o q
  | none => exact (N (b, o) (restOf_mem.mpr ⟨hl, hd, q, e⟩)).1

/-- less memory is told -/
theorem Rep.less (r : Rep G Γ frz σ s) {m : Mem} (h : ∀ a o, m a = some o → σ.mem a = some o) : Rep G Γ frz { σ with mem := m } s := by
  have nn : ∀ a, σ.mem a = none → m a = none := fun a e => by
    cases q : m a with
    | none => rfl
    | some o => rw [h a o q] at e; cases e
  exact ⟨r.same, r.hbase, r.hkeep, r.hfrz, fun a o e => r.hmem a o (h a o e), fun a o e => r.hmemF a o (h a o e), r.hab, r.hlf, nn _ r.hlm, r.hns, fun i x c e => let ⟨p, q, t⟩ := r.hown i x c e; ⟨p, nn _ q, t⟩, r.href⟩

/-- more is frozen -/
theorem Rep.freeze (r : Rep G Γ frz σ s) {frz' : Frz} (h1 : ∀ b o, frz b = some o → frz' b = some o) (h2 : ∀ b o, frz' b = some o → s.heap.get? b = some o)
    (h3 : ∀ a o, σ.mem a = some o → frz' a = none) (h4 : frz' Γ.env.locals = none) (h5 : ∀ (i : Nat) x c, Γ.vars[i]? = some (x, .own c) → frz' c = none) : Rep G Γ frz' σ s :=
  ⟨r.same, fun b o e => h1 b o (r.hbase b o e), fun b o e => h1 b o (r.hkeep b o e), h2, r.hmem, h3, r.hab, h4, r.hlm, r.hns, fun i x c e => ⟨h5 i x c e, (r.hown i x c e).2⟩, fun i x c a => let ⟨o, ov, e, d, q⟩ := r.href i x c a; ⟨o, ov, h1 _ _ e, d, q⟩⟩
noncomputable def frzAdd (frz : Frz) (a : Addr) (o : Obj) : Frz := fun b => if b = a then some o else frz b
theorem Rep.freezeOne (r : Rep G Γ frz σ s) {a : Addr} {o : Obj} (ho : s.heap.get? a = some o) (hf : ∀ o', frz a = some o' → o' = o) (hm : σ.mem a = none) (hl : a ≠ Γ.env.locals) (hc : ∀ (i : Nat) x c, Γ.vars[i]? = some (x, .own c) → c ≠ a) :
    Rep G Γ (frzAdd frz a o) σ s := by
  refine r.freeze ?_ ?_ ?_ ?_ ?_
  · intro b x e; unfold frzAdd; split
    · rename_i q; subst q; rw [hf x e]
    · exact e
  · intro b x e; unfold frzAdd at e; split at e
    · rename_i q; subst q; cases e; exact ho
    · exact r.hfrz b x e
  · intro b x e; unfold frzAdd; split
    · rename_i q; subst q; rw [hm] at e; cases e
    · exact r.hmemF b x e
  · unfold frzAdd; rw [if_neg (Ne.symm hl)]; exact r.hlf
  · intro i x c e; unfold frzAdd; rw [if_neg (hc i x c e)]; exact (r.hown i x c e).1
theorem Rep.thaw (r : Rep G Γ frz σ s) {frz' : Frz} (h0 : ∀ b o, G.base.get? b = some o → frz' b = some o) (h0' : ∀ b o, G.keep b = some o → frz' b = some o) (h1 : ∀ b o, frz' b = some o → frz b = some o) (h2 : ∀ (i : Nat) x c o, Γ.vars[i]? = some (x, .ref c) → frz c = some o → frz' c = some o) : Rep G Γ frz' σ s := by
  have nn : ∀ a, frz a = none → frz' a = none := fun a e => by
    cases q : frz' a with
    | none => rfl
    | some o => rw [h1 a o q] at e; cases e
  exact ⟨r.same, h0, h0', fun b o e => r.hfrz b o (h1 b o e), r.hmem, fun a o e => nn _ (r.hmemF a o e), r.hab, nn _ r.hlf, r.hlm, r.hns, fun i x c e => ⟨nn _ (r.hown i x c e).1, (r.hown i x c e).2⟩,
    fun i x c a => let ⟨o, ov, e, d, q⟩ := r.href i x c a; ⟨o, ov, h2 i x c _ a e, d, q⟩⟩
theorem Rep.asideIn (r : Rep G Γ frz σ s) {a : Addr} {o : Obj} (d : Aside G Γ frz σ a) (ho : s.heap.get? a = some o) : Rep G Γ (frzAdd frz a o) σ s :=
  r.freezeOne ho (fun o' e => by rw [d.f] at e; cases e) d.m d.l d.c
theorem Rep.asideOut {σ₀ : St} {s₀ : Shared} (r₀ : Rep G Γ frz σ₀ s₀) {a : Addr} {o : Obj} (d : Aside G Γ frz σ₀ a) (r : Rep G Γ (frzAdd frz a o) σ s) : Rep G Γ frz σ s ∧ Aside G Γ frz σ a ∧ s.heap.get? a = some o := by
  have e : frzAdd frz a o a = some o := by simp [frzAdd]
  have hm : σ.mem a = none := by
    cases q : σ.mem a with
    | none => rfl
    | some x => have := r.hmemF a x q; rw [e] at this; cases this
  refine ⟨r.thaw r₀.hbase r₀.hkeep (fun b x q => ?_) (fun i x c x' p q => ?_), ⟨hm, d.f, d.l, d.c, d.r⟩, r.hfrz _ _ e⟩
  · unfold frzAdd; rw [if_neg (fun z => by subst z; rw [d.f] at q; cases q)]; exact q
  · unfold frzAdd at q; rw [if_neg (d.r i x c p)] at q; exact q
end

abbrev NoE : Value → Shared → Prop := fun _ _ => False

/-- what a value's tree hands on -/
noncomputable def PV (G : GS) (Γ : FE) (frz : Frz) (s : Shared) (Q : V → St → Prop) : Value → Shared → Prop :=
  fun cv s' => ∃ v σ', RV s'.heap cv v ∧ Rep G Γ frz σ' s' ∧ TK s.heap s'.heap ∧ Q v σ'
noncomputable def PVs (G : GS) (Γ : FE) (frz : Frz) (s : Shared) (Q : List V → St → Prop) : List Value → Shared → Prop :=
  fun cv s' => ∃ v σ', RVs s'.heap cv v ∧ Rep G Γ frz σ' s' ∧ TK s.heap s'.heap ∧ Q v σ'
noncomputable def PB (G : GS) (Γ : FE) (frz : Frz) (s : Shared) (Q : Bool → St → Prop) : Bool → Shared → Prop :=
  fun b s' => ∃ σ', Rep G Γ frz σ' s' ∧ TK s.heap s'.heap ∧ Q b σ'
noncomputable def PU (G : GS) (Γ : FE) (frz : Frz) (s : Shared) (Q : St → Prop) : Unit → Shared → Prop :=
  fun _ s' => ∃ σ', Rep G Γ frz σ' s' ∧ TK s.heap s'.heap ∧ Q σ'
inductive RF (h : Heap) : Flow → Fl → Prop
  | next : RF h .next .next
  | brk : RF h .brk .brk
  | cont : RF h .cont .cont
  | ret {v : Value} {x : V} : RV h v x → RF h (.ret v) (.ret x)
noncomputable def PF (G : GS) (Γ : FE) (frz : Frz) (s : Shared) (Q : Fl → St → Prop) : Flow → Shared → Prop :=
  fun f s' => ∃ fl σ', RF s'.heap f fl ∧ Rep G Γ frz σ' s' ∧ TK s.heap s'.heap ∧ Q fl σ'

noncomputable def W (G : GS) (A : Around) (Γ : FE) (t : Sem Value) (Q : V → St → Prop) (σ : St) : Prop :=
  ∀ frz s, Rep G Γ frz σ s → wpAny (model G.prog G.w) A t (PV G Γ frz s Q) NoE s
noncomputable def Ws (G : GS) (A : Around) (Γ : FE) (t : Sem (List Value)) (Q : List V → St → Prop) (σ : St) : Prop :=
  ∀ frz s, Rep G Γ frz σ s → wpAny (model G.prog G.w) A t (PVs G Γ frz s Q) NoE s
noncomputable def WB (G : GS) (A : Around) (Γ : FE) (t : Sem Bool) (Q : Bool → St → Prop) (σ : St) : Prop :=
  ∀ frz s, Rep G Γ frz σ s → wpAny (model G.prog G.w) A t (PB G Γ frz s Q) NoE s
noncomputable def WU (G : GS) (A : Around) (Γ : FE) (t : Sem Unit) (Q : St → Prop) (σ : St) : Prop :=
  ∀ frz s, Rep G Γ frz σ s → wpAny (model G.prog G.w) A t (PU G Γ frz s Q) NoE s
noncomputable def WF (G : GS) (A : Around) (Γ : FE) (t : Sem Flow) (Q : Fl → St → Prop) (σ : St) : Prop :=
  ∀ frz s, Rep G Γ frz σ s → wpAny (model G.prog G.w) A t (PF G Γ frz s Q) NoE s

end Mine
set_option autoImplicit false
set_option maxRecDepth 10000
namespace Mine
open PySem PyProof.Rows PySem.W

inductive Bi where
  | len | min | max | sum | range | list | chr | ord
noncomputable def Bi.name : Bi → String
  | .len => "len" | .min => "min" | .max => "max" | .sum => "sum" | .range => "range" | .list => "list" | .chr => "chr" | .ord => "ord"
inductive Me where
  | find | startswith | endswith | join | append | pop | insert
noncomputable def Me.name : Me → String
  | .find => "find" | .startswith => "startswith" | .endswith => "endswith" | .join => "join" | .append => "append" | .pop => "pop" | .insert => "insert"

inductive Ex where
  | lit (v : V)
  | var (i : Nat)
  | bin (op : Operator) (a b : Ex)
  | neg (a : Ex)
  | not (a : Ex)
  | ite (c a b : Ex)
  | list (es : List Ex)
  | tup (es : List Ex)
  | cmp (a : Ex) (ops : List CmpOp) (es : List Ex)
  | band (es : List Ex)
  | bor (es : List Ex)
  | idx (a i : Ex)
  | slc (a lo hi st : Ex)
  | attr (o : Ex) (n : String)
  | bi (b : Bi) (args : List Ex)
  | call (f : String) (args : List Ex)
  | me (o : Ex) (m : Me) (args : List Ex)
  | imeth (o : Ex) (m : String) (args : List Ex)
  | lcall (i : Nat) (args : List Ex)
  | comp (elt : Ex) (one : Bool) (is : List Nat) (it : Ex) (cs : List Ex) (n : Nat) (caps : List Nat)

inductive Tg where
  | var (i : Nat)
  | tup (is : List Nat)
  | idx (o i : Ex)
  | slc (o lo hi : Ex)
  | attr (o : Ex) (n : String)

inductive Sm where
  | expr (e : Ex)
  | assign (ts : List Tg) (e : Ex)
  | aug (i : Nat) (op : Operator) (e : Ex)
  | del (o i : Ex)
  | ife (c : Ex) (a b : List Sm)
  | whl (c : Ex) (b : List Sm)
  | fr (t : Tg) (it : Ex) (b : List Sm)
  | ret (e : Ex)
  | brk
  | raise

/-- what the text's own names mean -/
structure PC where
  cls : Addr
  fld : String → Bool
  cc : String → Option V
  call : String → List V → (V → Mem → Prop) → Mem → Prop
  meth : String → List V → (V → Mem → Prop) → Mem → Prop
  loc : V → List V → (V → Mem → Prop) → Mem → Prop

noncomputable def pyGet {α : Type} (xs : List α) (i : Int) : Option α := (seqIndex? i xs.length).bind (xs[·]?)
noncomputable def clip (n : Nat) (i : Int) : Nat := clipAt n i
noncomputable def slLo (n : Nat) (lo : Option Int) : Nat := lo.elim 0 (clip n)
noncomputable def slHi (n : Nat) (hi : Option Int) : Nat := hi.elim n (clip n)
noncomputable def pySl {α : Type} (xs : List α) (lo hi : Option Int) : List α :=
  (xs.drop (slLo xs.length lo)).take (slHi xs.length hi - slLo xs.length lo)

noncomputable def slPart : V → Option (Option Int)
  | .none => some none
  | .int i => some (some i)
  | _ => none

noncomputable def rd0 (v : V) : Option PyData := match v with
  | .none => some .none
  | .bool b => some (.bool b)
  | .int i => some (.int i)
  | .str s => some (.str (mkS s))
  | _ => none
noncomputable def listAt (m : Mem) (a : Addr) : Option (List V) := (m a).bind fun o => match o with
  | .list vs => some vs
  | _ => none
noncomputable def rd : Nat → Mem → V → Option PyData
  | 0, _, v => rd0 v
  | n + 1, m, v => match v with
    | .tup vs => (vs.mapM (rd n m)).map .tuple
    | .obj a => (listAt m a).bind fun vs => (vs.mapM (rd n m)).map .list
    | v => rd0 v

noncomputable def lookF (n : String) : List (PySem.Str × V) → Option V
  | [] => none
  | (x, v) :: r => if x = PySem.Str.ofString n then some v else lookF n r
noncomputable def setF (n : String) (v : V) : List (PySem.Str × V) → List (PySem.Str × V)
  | [] => [(PySem.Str.ofString n, v)]
  | (x, u) :: r => if x = PySem.Str.ofString n then (x, v) :: r else (x, u) :: setF n v r

/-- n ints from a on by c -/
noncomputable def rngFrom (a c : Int) : Nat → List V
  | 0 => []
  | n + 1 => .int a :: rngFrom (a + c) c n
noncomputable def rngL (a b c : Int) : List V := rngFrom a c (Builtin.Range.rangeSize a b c).toNat

noncomputable def small (n : Nat) : Prop := n ≤ 1000000
noncomputable def tiny (i : Int) : Prop := -1000000000 < i ∧ i < 1000000000

noncomputable def arg1 (vs : List V) (K : V → Prop) : Prop := match vs with
  | [v] => K v
  | _ => False
noncomputable def arg2 (vs : List V) (K : V → V → Prop) : Prop := match vs with
  | [v, u] => K v u
  | _ => False
noncomputable def asI (v : V) (K : Int → Prop) : Prop := match v with
  | .int i => K i
  | _ => False
noncomputable def asS (v : V) (K : Tx → Prop) : Prop := match v with
  | .str i => K i
  | _ => False
noncomputable def asO (v : V) (K : Addr → Prop) : Prop := match v with
  | .obj i => K i
  | _ => False
theorem arg1_inv {vs : List V} {K : V → Prop} (h : arg1 vs K) : ∃ v, vs = [v] ∧ K v := by
  cases vs with
  | nil => exact h.elim
  | cons v r => cases r with
    | nil => exact ⟨v, rfl, h⟩
    | cons => exact h.elim
theorem arg2_inv {vs : List V} {K : V → V → Prop} (h : arg2 vs K) : ∃ v u, vs = [v, u] ∧ K v u := by
  cases vs with
  | nil => exact h.elim
  | cons v r => cases r with
    | nil => exact h.elim
    | cons u r => cases r with
      | nil => exact ⟨v, u, rfl, h⟩
      | cons => exact h.elim
theorem asI_inv {v : V} {K : Int → Prop} (h : asI v K) : ∃ i, v = .int i ∧ K i := by cases v <;> first | exact False.elim h | exact ⟨_, rfl, h⟩
theorem asS_inv {v : V} {K : Tx → Prop} (h : asS v K) : ∃ i, v = .str i ∧ K i := by cases v <;> first | exact False.elim h | exact ⟨_, rfl, h⟩
theorem asO_inv {v : V} {K : Addr → Prop} (h : asO v K) : ∃ i, v = .obj i ∧ K i := by cases v <;> first | exact False.elim h | exact ⟨_, rfl, h⟩

noncomputable def ordI (a b : V) (K : Int → Int → Prop) : Prop := asI a fun x => asI b fun y => K x y
noncomputable def addV (m : Mem) (v u : V) (Q : V → Mem → Prop) : Prop := match v with
  | .int a => asI u fun b => Q (.int (a + b)) m
  | .str a => asS u fun b => small a.length ∧ small b.length ∧ Q (.str (a ++ b)) m
  | .obj a => asO u fun b => ∃ xs ys, m a = some (.list xs) ∧ m b = some (.list ys) ∧ small xs.length ∧ small ys.length ∧ ∀ c, m c = none → Q (.obj c) (upd m c (.list (xs ++ ys)))
  | _ => False
noncomputable def mulV (m : Mem) (v u : V) (Q : V → Mem → Prop) : Prop := match v with
  | .int a => asI u fun b => tiny a ∧ Q (.int (a * b)) m
  | .obj a => asI u fun k => ∃ x, m a = some (.list [x]) ∧ tiny k ∧ small k.toNat ∧ ∀ c, m c = none → Q (.obj c) (upd m c (.list (List.replicate k.toNat x)))
  | _ => False
noncomputable def wpBin (m : Mem) (op : Operator) (v u : V) (Q : V → Mem → Prop) : Prop := match op with
  | .Add => addV m v u Q
  | .Sub => ordI v u fun a b => Q (.int (a - b)) m
  | .Mult => mulV m v u Q
  | .FloorDiv => ordI v u fun a b => 0 < b ∧ tiny b ∧ Q (.int (a / b)) m
  | .Mod => ordI v u fun a b => 0 < b ∧ Q (.int (a % b)) m
  | _ => False

noncomputable def eqAny (m : Mem) (a b : V) (K : Bool → Prop) : Prop := ∃ d e, rd 8 m a = some d ∧ rd 8 m b = some e ∧ K (PyData.eqv d e)
noncomputable def cmpEq (m : Mem) (a b : V) (K : Bool → Prop) : Prop := match a with
  | .int x => (match b with | .int y => K (decide (x = y)) | _ => eqAny m a b K)
  | .str x => (match b with | .str y => K (decide (x = y)) | _ => eqAny m a b K)
  | _ => eqAny m a b K
noncomputable def inAny (m : Mem) (a b : V) (K : Bool → Prop) : Prop := asO b fun l => ∃ vs d ds, m l = some (.list vs) ∧ small vs.length ∧ rd 7 m a = some d ∧ vs.mapM (rd 7 m) = some ds ∧ K (ds.any fun e => PyData.eqv e d)
noncomputable def cmpIs (a b : V) (K : Bool → Prop) : Prop := match b with
  | .none => (match a with | .none => K true | .tup _ => K false | _ => False)
  | _ => False
noncomputable def wpCmp (m : Mem) (op : CmpOp) (a b : V) (Q : Bool → Prop) : Prop := match op with
  | .Eq => cmpEq m a b Q
  | .NotEq => cmpEq m a b fun t => Q (!t)
  | .Lt => ordI a b fun x y => Q (decide (x < y))
  | .LtE => ordI a b fun x y => Q (decide (x ≤ y))
  | .Gt => ordI a b fun x y => Q (decide (y < x))
  | .GtE => ordI a b fun x y => Q (decide (y ≤ x))
  | .Is => cmpIs a b Q
  | .IsNot => cmpIs a b fun t => Q (!t)
  | .In => inAny m a b Q
  | .NotIn => inAny m a b fun t => Q (!t)

noncomputable def wpTruth (m : Mem) : V → (Bool → Prop) → Prop
  | .none, Q => Q false
  | .bool b, Q => Q b
  | .int i, Q => Q (i != 0)
  | .str s, Q => small s.length ∧ Q (!s.isEmpty)
  | .tup vs, Q => small vs.length ∧ Q (!vs.isEmpty)
  | .obj a, Q => ∃ vs, m a = some (.list vs) ∧ small vs.length ∧ Q (!vs.isEmpty)
  | _, _ => False

noncomputable def ixV (m : Mem) (v : V) (i : Int) (Q : V → Prop) : Prop := match v with
  | .str s => tiny i ∧ ∃ c, pyGet s i = some c ∧ Q (.str [c])
  | .tup vs => tiny i ∧ ∃ v, pyGet vs i = some v ∧ Q v
  | .obj a => tiny i ∧ ∃ vs v, m a = some (.list vs) ∧ pyGet vs i = some v ∧ Q v
  | _ => False
noncomputable def wpIdx (m : Mem) (v u : V) (Q : V → Prop) : Prop := asI u fun i => ixV m v i Q

noncomputable def slK (v : V) (K : Option Int → Prop) : Prop := match v with
  | .none => K none
  | .int i => K (some i)
  | _ => False
noncomputable def stK (v : V) (K : Option Int → Prop) : Prop := match v with
  | .none => K none
  | .int i => 0 < i ∧ K (some i)
  | _ => False
/-- with a step, if any -/
noncomputable def pySt {α : Type} (xs : List α) (lo hi : Option Int) (st : Option Int) : List α := match st with
  | none => pySl xs lo hi
  | some k => (sliceRange (sliceBounds lo hi (some k) xs.length).1 (sliceBounds lo hi (some k) xs.length).2.1 (sliceBounds lo hi (some k) xs.length).2.2).filterMap (xs[·]?)
noncomputable def slS (m : Mem) (s : Tx) (lo hi st : V) (Q : V → Mem → Prop) : Prop := match st with
  | .none => slK lo fun a => slK hi fun b => small s.length ∧ Q (.str (pySl s a b)) m
  | _ => False
noncomputable def wpSlc (m : Mem) (v lo hi st : V) (Q : V → Mem → Prop) : Prop := match v with
  | .str s => slS m s lo hi st Q
  | .obj l => slK lo fun a => slK hi fun b => stK st fun k => ∃ vs, (m l = some (.list vs) ∨ ∃ o, m l = some (.ro o vs)) ∧ small vs.length ∧ ∀ c, m c = none → Q (.obj c) (upd m c (.list (pySt vs a b k)))
  | _ => False

noncomputable def wpAttr (P : PC) (m : Mem) : V → String → (V → Prop) → Prop
  | .obj a, n, Q => ∃ d fs, m a = some (.inst P.cls d) ∧ m d = some (.dict fs) ∧ match lookF n fs with
      | some v => P.fld n = true ∧ Q v
      | none => ∃ v, P.cc n = some v ∧ Q v
  | _, _, _ => False

noncomputable def Occ (s t : Tx) (i : Nat) : Prop := i + t.length ≤ s.length ∧ (s.drop i).take t.length = t
/-- r: the first place from k on, or -1 -/
noncomputable def FindIs (s t : Tx) (k : Nat) (r : Int) : Prop := (r = -1 ∧ ∀ i, k ≤ i → ¬ Occ s t i) ∨ ∃ i : Nat, r = i ∧ k ≤ i ∧ Occ s t i ∧ ∀ j, k ≤ j → j < i → ¬ Occ s t j

noncomputable def lenV (m : Mem) (v : V) (Q : V → Mem → Prop) : Prop := match v with
  | .str s => small s.length ∧ Q (.int s.length) m
  | .tup vs => small vs.length ∧ Q (.int vs.length) m
  | .obj a => ∃ vs, (m a = some (.list vs) ∨ ∃ o, m a = some (.ro o vs)) ∧ small vs.length ∧ Q (.int vs.length) m
  | _ => False
noncomputable def maxV (m : Mem) (v : V) (Q : V → Mem → Prop) : Prop := asO v fun a => ∃ ns : List Int, m a = some (.list (ns.map V.int)) ∧ 0 < ns.length ∧ ∀ M : Int, M ∈ ns → (∀ a, a ∈ ns → a ≤ M) → Q (.int M) m
noncomputable def listV (m : Mem) (v : V) (Q : V → Mem → Prop) : Prop := match v with
  | .tup vs => small vs.length ∧ ∀ c, m c = none → Q (.obj c) (upd m c (.list vs))
  | .obj a => ∃ vs, m a = some (.list vs) ∧ small vs.length ∧ ∀ c, m c = none → Q (.obj c) (upd m c (.list vs))
  | _ => False
noncomputable def sumV (m : Mem) (v : V) (Q : V → Mem → Prop) : Prop := asO v fun a => ∃ ns : List Int, (m a = some (.list (ns.map V.int)) ∨ ∃ o, m a = some (.ro o (ns.map V.int))) ∧ Q (.int ns.sum) m
noncomputable def arg12 (vs : List V) (K : V → Prop) (L : V → V → Prop) : Prop := match vs with
  | [v] => K v
  | [v, u] => L v u
  | _ => False
noncomputable def arg13 (vs : List V) (K : V → Prop) (L : V → V → Prop) (N : V → V → V → Prop) : Prop := match vs with
  | [v] => K v
  | [v, u] => L v u
  | [v, u, w] => N v u w
  | _ => False
noncomputable def wpBi (m : Mem) (b : Bi) (args : List V) (Q : V → Mem → Prop) : Prop := match b with
  | .len => arg1 args fun v => lenV m v Q
  | .min => arg2 args fun v u => ordI v u fun a b => Q (.int (if b < a then b else a)) m
  | .max => arg12 args (fun v => maxV m v Q) fun v u => ordI v u fun a b => Q (.int (if a < b then b else a)) m
  | .range => arg13 args (fun v => asI v fun a => tiny a ∧ Q (.rng 0 a 1) m) (fun v u => ordI v u fun a b => tiny a ∧ tiny b ∧ Q (.rng a b 1) m)
      fun v u w => ordI v u fun a b => asI w fun c => tiny a ∧ tiny b ∧ tiny c ∧ 0 < c ∧ Q (.rng a b c) m
  | .list => arg1 args fun v => listV m v Q
  | .sum => arg1 args fun v => sumV m v Q
  | _ => False

theorem arg12_inv {vs : List V} {K : V → Prop} {L : V → V → Prop} (h : arg12 vs K L) : (∃ v, vs = [v] ∧ K v) ∨ ∃ v u, vs = [v, u] ∧ L v u := by
  match vs, h with
  | [v], h => exact .inl ⟨_, rfl, h⟩
  | [v, u], h => exact .inr ⟨_, _, rfl, h⟩
theorem arg13_inv {vs : List V} {K : V → Prop} {L : V → V → Prop} {N : V → V → V → Prop} (h : arg13 vs K L N) : (∃ v, vs = [v] ∧ K v) ∨ (∃ v u, vs = [v, u] ∧ L v u) ∨ ∃ v u w, vs = [v, u, w] ∧ N v u w := by
  match vs, h with
  | [v], h => exact .inl ⟨_, rfl, h⟩
  | [v, u], h => exact .inr (.inl ⟨_, _, rfl, h⟩)
  | [v, u, w], h => exact .inr (.inr ⟨_, _, _, rfl, h⟩)
noncomputable def meOk (m : Mem) (v : V) (me : Me) : Prop := match me with
  | .find => asS v fun _ => True
  | .startswith => asS v fun _ => True
  | .endswith => asS v fun _ => True
  | .join => asS v fun _ => True
  | .append => asO v fun a => ∃ l, m a = some (.list l)
  | .pop => asO v fun a => ∃ l, m a = some (.list l)
  | .insert => asO v fun a => ∃ l, m a = some (.list l)
noncomputable def wpMe (m : Mem) (o : V) (me : Me) (args : List V) (Q : V → Mem → Prop) : Prop := match me with
  | .find => asS o fun s => arg12 args (fun v => asS v fun t => small s.length ∧ small t.length ∧ ∀ r, FindIs s t 0 r → Q (.int r) m)
      fun v u => asS v fun t => asI u fun i => small s.length ∧ small t.length ∧ 0 ≤ i ∧ ∀ r, FindIs s t i.toNat r → Q (.int r) m
  | .startswith => asS o fun s => arg1 args fun v => asS v fun t => Q (.bool (decide (s.take t.length = t))) m
  | .endswith => asS o fun s => arg1 args fun v => asS v fun t => Q (.bool (decide (t.length ≤ s.length ∧ s.drop (s.length - t.length) = t))) m
  | .append => asO o fun a => arg1 args fun v => ∃ vs, m a = some (.list vs) ∧ small vs.length ∧ Q .none (upd m a (.list (vs ++ [v])))
  | .join => asS o fun s => s = [] ∧ arg1 args fun v => asO v fun a => ∃ xs : List Tx, m a = some (.list (xs.map V.str)) ∧ xs.length ≤ 500000 ∧ xs.flatten.length ≤ 500000 ∧ Q (.str xs.flatten) m
  | .pop => asO o fun a => args = [] ∧ ∃ vs v, m a = some (.list (vs ++ [v])) ∧ small vs.length ∧ Q v (upd m a (.list vs))
  | .insert => asO o fun a => arg2 args fun i v => asI i fun k => 0 ≤ k ∧ tiny k ∧ ∃ vs, m a = some (.list vs) ∧ small vs.length ∧ Q .none (upd m a (.list (vs.take k.toNat ++ v :: vs.drop k.toNat)))

noncomputable def St.set (σ : St) (i : Nat) (v : V) : St := { σ with loc := σ.loc.set i (some v) }
noncomputable def St.setAll (σ : St) : List Nat → List V → St
  | i :: is, v :: vs => (σ.set i v).setAll is vs
  | _, _ => σ

noncomputable def bindIs (one : Bool) (is : List Nat) (v : V) (Q : St → Prop) (σ : St) : Prop :=
  if one then (match is with | [i] => Q (σ.set i v) | _ => False) else match v with | .tup vs => vs.length = is.length ∧ Q (σ.setAll is vs) | _ => False
noncomputable def wpItems (m : Mem) : V → (List V → (Mem → Prop) → Prop) → Prop
  | .tup vs, K => small vs.length ∧ K vs fun _ => True
  | .str s, K => small s.length ∧ K (s.map fun c => .str [c]) fun _ => True
  | .rng a b c, K => tiny a ∧ tiny b ∧ tiny c ∧ 0 < c ∧ K (rngL a b c) fun _ => True
  | .obj a, K => ∃ vs, m a = some (.list vs) ∧ small vs.length ∧ K vs fun m' => m' a = some (.list vs)
  | _, _ => False
noncomputable def wpComp (bind : V → (St → Prop) → St → Prop) (test : (Bool → St → Prop) → St → Prop) (elt : (V → St → Prop) → St → Prop) (g : Mem → Prop) (R : List V → Mem → Prop) : List V → List V → St → Prop
  | [], us, σ => g σ.mem ∧ R us σ.mem
  | v :: vs, us, σ => g σ.mem ∧ bind v (test fun b σ₁ => if b then elt (fun u σ₂ => wpComp bind test elt g R vs (us ++ [u]) σ₂) σ₁ else wpComp bind test elt g R vs us σ₁) σ
noncomputable def compSt (σ : St) (n : Nat) (caps : List Nat) : St := ⟨List.replicate n none ++ caps.map fun i => (σ.loc[i]?).join, σ.mem⟩

mutual
noncomputable def wpE (P : PC) : Ex → (V → St → Prop) → St → Prop
  | .lit v, Q, σ => Q v σ
  | .var i, Q, σ => match σ.loc[i]? with | some (some v) => Q v σ | _ => False
  | .bin op a b, Q, σ => wpE P a (fun v σ₁ => wpE P b (fun u σ₂ => wpBin σ₂.mem op v u fun r m => Q r { σ₂ with mem := m }) σ₁) σ
  | .neg a, Q, σ => wpE P a (fun v σ₁ => match v with | .int i => Q (.int (-i)) σ₁ | _ => False) σ
  | .not a, Q, σ => wpE P a (fun v σ₁ => wpTruth σ₁.mem v fun b => Q (.bool (!b)) σ₁) σ
  | .ite c a b, Q, σ => wpT P c (wpE P c) (fun t σ₁ => if t then wpE P a Q σ₁ else wpE P b Q σ₁) σ
  | .list es, Q, σ => wpEs P es (fun vs σ₁ => ∀ a, σ₁.mem a = none → Q (.obj a) { σ₁ with mem := upd σ₁.mem a (.list vs) }) σ
  | .tup es, Q, σ => wpEs P es (fun vs σ₁ => Q (.tup vs) σ₁) σ
  | .cmp a ops es, Q, σ => wpE P a (fun v σ₁ => wpCh P ops es v (fun b σ₂ => Q (.bool b) σ₂) σ₁) σ
  | .band es, Q, σ => wpBo P true es Q σ
  | .bor es, Q, σ => wpBo P false es Q σ
  | .idx a i, Q, σ => wpE P a (fun v σ₁ => wpE P i (fun u σ₂ => wpIdx σ₂.mem v u fun r => Q r σ₂) σ₁) σ
  | .slc a lo hi st, Q, σ => wpE P a (fun v σ₁ => wpE P lo (fun l σ₂ => wpE P hi (fun h σ₃ => wpE P st (fun s σ₄ => wpSlc σ₄.mem v l h s fun r m => Q r { σ₄ with mem := m }) σ₃) σ₂) σ₁) σ
  | .attr o n, Q, σ => wpE P o (fun v σ₁ => wpAttr P σ₁.mem v n fun r => Q r σ₁) σ
  | .bi b args, Q, σ => wpEs P args (fun vs σ₁ => wpBi σ₁.mem b vs fun r m => Q r { σ₁ with mem := m }) σ
  | .call f args, Q, σ => wpEs P args (fun vs σ₁ => P.call f vs (fun r m => Q r { σ₁ with mem := m }) σ₁.mem) σ
  | .me o m args, Q, σ => wpE P o (fun v σ₁ => meOk σ₁.mem v m ∧ wpEs P args (fun vs σ₂ => wpMe σ₂.mem v m vs fun r m' => Q r { σ₂ with mem := m' }) σ₁) σ
  | .imeth o n args, Q, σ => wpE P o (fun v σ₁ => (∃ a d fs, v = .obj a ∧ σ₁.mem a = some (.inst P.cls d) ∧ σ₁.mem d = some (.dict fs) ∧ lookF n fs = none) ∧
      wpEs P args (fun vs σ₂ => P.meth n (v :: vs) (fun r m => Q r { σ₂ with mem := m }) σ₂.mem) σ₁) σ
  | .lcall i args, Q, σ => match σ.loc[i]? with | some (some v) => wpEs P args (fun vs σ₁ => P.loc v vs (fun r m => Q r { σ₁ with mem := m }) σ₁.mem) σ | _ => False
  | .comp elt one is it cs n caps, Q, σ => wpE P it (fun v σ₁ => wpItems σ₁.mem v fun vs g => small vs.length ∧
      wpComp (bindIs one is) (wpTs P true cs) (wpE P elt) g (fun us m => ∀ a, m a = none → Q (.obj a) { σ₁ with mem := upd m a (.list us) }) vs [] (compSt σ₁ n caps)) σ
noncomputable def wpEs (P : PC) : List Ex → (List V → St → Prop) → St → Prop
  | [], Q, σ => Q [] σ
  | e :: es, Q, σ => wpE P e (fun v σ₁ => wpEs P es (fun vs σ₂ => Q (v :: vs) σ₂) σ₁) σ
noncomputable def wpCh (P : PC) : List CmpOp → List Ex → V → (Bool → St → Prop) → St → Prop
  | op :: ops, e :: es, v, Q, σ => match ops with
    | [] => (match es with | [] => wpE P e (fun u σ₁ => wpCmp σ₁.mem op v u fun b => Q b σ₁) σ | _ :: _ => False)
    | _ :: _ => wpE P e (fun u σ₁ => wpCmp σ₁.mem op v u fun b => if b then wpCh P ops es u Q σ₁ else Q false σ₁) σ
  | _, _, _, _, _ => False
noncomputable def wpBo (P : PC) (k : Bool) : List Ex → (V → St → Prop) → St → Prop
  | [], _, _ => False
  | [e], Q, σ => wpE P e Q σ
  | e :: es, Q, σ => wpE P e (fun v σ₁ => wpTruth σ₁.mem v fun b => if b = k then wpBo P k es Q σ₁ else Q v σ₁) σ
noncomputable def wpT (P : PC) : Ex → ((V → St → Prop) → St → Prop) → (Bool → St → Prop) → St → Prop
  | .not a, _, Q, σ => wpT P a (wpE P a) (fun b σ₁ => Q (!b) σ₁) σ
  | .band es, _, Q, σ => wpTs P true es Q σ
  | .bor es, _, Q, σ => wpTs P false es Q σ
  | .ite c a b, _, Q, σ => wpT P c (wpE P c) (fun t σ₁ => if t then wpT P a (wpE P a) Q σ₁ else wpT P b (wpE P b) Q σ₁) σ
  | .cmp a ops es, _, Q, σ => wpE P a (fun v σ₁ => wpCh P ops es v Q σ₁) σ
  | _, w, Q, σ => w (fun v σ₁ => wpTruth σ₁.mem v fun b => Q b σ₁) σ
noncomputable def wpTs (P : PC) (k : Bool) : List Ex → (Bool → St → Prop) → St → Prop
  | [], Q, σ => Q k σ
  | e :: es, Q, σ => wpT P e (wpE P e) (fun b σ₁ => if b = k then wpTs P k es Q σ₁ else Q (!k) σ₁) σ
end

theorem loc_inv {o : Option (Option V)} {K : V → Prop} (h : match o with | some (some v) => K v | _ => False) : ∃ v, o = some (some v) ∧ K v := by
  cases o with
  | none => exact h.elim
  | some o => cases o with
    | none => exact h.elim
    | some v => exact ⟨v, rfl, h⟩
theorem tup_inv {v : V} {K : List V → Prop} (h : match v with | .tup vs => K vs | _ => False) : ∃ vs, v = .tup vs ∧ K vs := by
  cases v <;> first | exact h.elim | exact ⟨_, rfl, h⟩
noncomputable def pyIx (n : Nat) (i : Int) : Option Nat := seqIndex? i n

noncomputable def wpAug (_m : Mem) (op : Operator) (v u : V) (Q : V → Prop) : Prop := match op with
  | .Add => (match v with
    | .int a => asI u fun b => Q (.int (a + b))
    | .str a => asS u fun b => small a.length ∧ small b.length ∧ Q (.str (a ++ b))
    | _ => False)
  | .Sub => ordI v u fun a b => Q (.int (a - b))
  | _ => False

noncomputable def wpTg (P : PC) : Tg → V → (St → Prop) → St → Prop
  | .var i, v, Q, σ => Q (σ.set i v)
  | .tup is, v, Q, σ => match v with | .tup vs => vs.length = is.length ∧ Q (σ.setAll is vs) | _ => False
  | .idx o i, v, Q, σ => wpE P o (fun ov σ₁ => wpE P i (fun iv σ₂ => ∃ a k vs j, ov = .obj a ∧ iv = .int k ∧ tiny k ∧ σ₂.mem a = some (.list vs) ∧ pyIx vs.length k = some j ∧
      Q { σ₂ with mem := upd σ₂.mem a (.list (vs.set j v)) }) σ₁) σ
  | .slc o lo hi, v, Q, σ => wpE P o (fun ov σ₁ => wpE P lo (fun l σ₂ => wpE P hi (fun h σ₃ => ∃ a b ia ib xs ys, ov = .obj a ∧ v = .obj b ∧ slPart l = some ia ∧ slPart h = some ib ∧ a ≠ b ∧
      σ₃.mem a = some (.list xs) ∧ σ₃.mem b = some (.list ys) ∧ small xs.length ∧ small ys.length ∧
      Q { σ₃ with mem := upd σ₃.mem a (.list (xs.take (slLo xs.length ia) ++ ys ++ xs.drop (max (slLo xs.length ia) (slHi xs.length ib)))) }) σ₂) σ₁) σ
  | .attr o n, v, Q, σ => wpE P o (fun ov σ₁ => ∃ a d fs, ov = .obj a ∧ σ₁.mem a = some (.inst P.cls d) ∧ σ₁.mem d = some (.dict fs) ∧ fs.length ≤ 100 ∧ P.fld n = true ∧
      Q { σ₁ with mem := upd σ₁.mem d (.dict (setF n v fs)) }) σ
noncomputable def wpTgs (P : PC) : List Tg → V → (St → Prop) → St → Prop
  | [], _, Q, σ => Q σ
  | t :: ts, v, Q, σ => wpTg P t v (fun σ₁ => wpTgs P ts v Q σ₁) σ

noncomputable def wpLoop (bind : V → (St → Prop) → St → Prop) (body : (Fl → St → Prop) → St → Prop) (g : Mem → Prop) (Q : Fl → St → Prop) : List V → St → Prop
  | [], σ => g σ.mem ∧ Q .next σ
  | v :: vs, σ => g σ.mem ∧ bind v (body fun fl σ₁ => match fl with
      | .next => wpLoop bind body g Q vs σ₁
      | .cont => wpLoop bind body g Q vs σ₁
      | .brk => Q .next σ₁
      | .ret r => Q (.ret r) σ₁) σ

noncomputable def wpWhile (test : (Bool → St → Prop) → St → Prop) (body : (Fl → St → Prop) → St → Prop) (Q : Fl → St → Prop) (σ : St) : Prop :=
  ∃ I : Nat → St → Prop, (∃ n, I n σ) ∧ ∀ n σ', I n σ' → test (fun b σ₁ => if b then body (fun fl σ₂ => match fl with
      | .next => ∃ k, k < n ∧ I k σ₂
      | .cont => ∃ k, k < n ∧ I k σ₂
      | .brk => Q .next σ₂
      | .ret r => Q (.ret r) σ₂) σ₁ else Q .next σ₁) σ'

mutual
noncomputable def wpS (P : PC) : Sm → (Fl → St → Prop) → St → Prop
  | .expr e, Q, σ => wpE P e (fun _ σ₁ => Q .next σ₁) σ
  | .assign ts e, Q, σ => wpE P e (fun v σ₁ => wpTgs P ts v (fun σ₂ => Q .next σ₂) σ₁) σ
  | .aug i op e, Q, σ => match σ.loc[i]? with | some (some v) => wpE P e (fun u σ₁ => wpAug σ₁.mem op v u fun r => Q .next (σ₁.set i r)) σ | _ => False
  | .del o i, Q, σ => wpE P o (fun ov σ₁ => wpE P i (fun iv σ₂ => ∃ a k vs j, ov = .obj a ∧ iv = .int k ∧ tiny k ∧ σ₂.mem a = some (.list vs) ∧ pyIx vs.length k = some j ∧ small vs.length ∧
      Q .next { σ₂ with mem := upd σ₂.mem a (.list (vs.eraseIdx j)) }) σ₁) σ
  | .ife c a b, Q, σ => wpT P c (wpE P c) (fun t σ₁ => if t then wpSs P a Q σ₁ else wpSs P b Q σ₁) σ
  | .whl c b, Q, σ => wpWhile (wpT P c (wpE P c)) (wpSs P b) Q σ
  | .fr t it b, Q, σ => wpE P it (fun v σ₁ => wpItems σ₁.mem v fun vs g => wpLoop (wpTg P t) (wpSs P b) g Q vs σ₁) σ
  | .ret e, Q, σ => wpE P e (fun v σ₁ => Q (.ret v) σ₁) σ
  | .brk, Q, σ => Q .brk σ
  | .raise, _, _ => False
noncomputable def wpSs (P : PC) : List Sm → (Fl → St → Prop) → St → Prop
  | [], Q, σ => Q .next σ
  | s :: ss, Q, σ => wpS P s (fun fl σ₁ => match fl with | .next => wpSs P ss Q σ₁ | .brk => Q .brk σ₁ | .cont => Q .cont σ₁ | .ret r => Q (.ret r) σ₁) σ
end

/-- what is known of a block's names -/
structure SC where
  vars : List (PySem.Str × Bool)
  names : List (PySem.Str × NameKind)
  fns : List String
  meths : List String
  cells : List PySem.Str

noncomputable def litOk (v : V) (c : Const) : Bool := match v with
  | .none => c == .none
  | .bool b => c == .bool b
  | .int i => c == .int i
  | .flt x => c == .float x
  | .str s => c == .str (mkS s)
  | _ => false

noncomputable def SC.is (C : SC) (i : Nat) (x : PySem.Str) : Bool := match C.vars[i]? with | some (y, _) => y == x | none => false
noncomputable def SC.isW (C : SC) (i : Nat) (x : PySem.Str) : Bool := match C.vars[i]? with | some (y, r) => y == x && !r | none => false
noncomputable def SC.glob (C : SC) (n : String) (x : PySem.Str) : Bool := PySem.Str.ofString n == x && C.names.lookup x == some .globalImplicit && !(x == PySem.Str.ofString "__debug__")

noncomputable def notCall (e : Expr) : Bool := e.ctorIdx != 16
/-- no starred, no set -/
noncomputable def plainE (e : Expr) : Bool := e.ctorIdx != 22 && e.ctorIdx != 7

-- views of a given expression
theorem dif_e {c : Prop} [Decidable c] {f : c → Bool} (h : (if h : c then f h else false) = true) : ∃ i, f i = true := by
  by_cases i : c
  · rw [dif_pos i] at h; exact ⟨i, h⟩
  · rw [dif_neg i] at h; cases h
noncomputable def isConst (e : Expr) (K : Const → Bool) : Bool := if h : e.ctorIdx = 19 then Expr.Constant.elim (motive_1 := fun _ => Bool) e h fun c _ _ => K c else false
theorem isConst_e {e : Expr} {K : Const → Bool} {M : Expr → Prop} (h : isConst e K = true) (kk : ∀ (c : Const) (k : Nat) (p : Pos), K c = true → M (.Constant c k p)) : M e :=
  let ⟨i, q⟩ := dif_e h
  Expr.Constant.elim (motive_1 := fun e => ∀ i, Expr.Constant.elim (motive_1 := fun _ => Bool) e i (fun c _ _ => K c) = true → M e) e i (fun c k p _ q => kk c k p q) i q
noncomputable def isName (e : Expr) (K : PySem.Str → Bool) : Bool := if h : e.ctorIdx = 23 then Expr.Name.elim (motive_1 := fun _ => Bool) e h fun n _ => K n else false
theorem isName_e {e : Expr} {K : PySem.Str → Bool} {M : Expr → Prop} (h : isName e K = true) (kk : ∀ (n : PySem.Str) (p : Pos), K n = true → M (.Name n p)) : M e :=
  let ⟨i, q⟩ := dif_e h
  Expr.Name.elim (motive_1 := fun e => ∀ i, Expr.Name.elim (motive_1 := fun _ => Bool) e i (fun n _ => K n) = true → M e) e i (fun n p _ q => kk n p q) i q
noncomputable def isBin (e : Expr) (K : Expr → Operator → Expr → Bool) : Bool := if h : e.ctorIdx = 2 then Expr.BinOp.elim (motive_1 := fun _ => Bool) e h fun l o r _ => K l o r else false
theorem isBin_e {e : Expr} {K : Expr → Operator → Expr → Bool} {M : Expr → Prop} (h : isBin e K = true) (kk : ∀ (l : Expr) (o : Operator) (r : Expr) (p : Pos), K l o r = true → M (.BinOp l o r p)) : M e :=
  let ⟨i, q⟩ := dif_e h
  Expr.BinOp.elim (motive_1 := fun e => ∀ i, Expr.BinOp.elim (motive_1 := fun _ => Bool) e i (fun l o r _ => K l o r) = true → M e) e i (fun l o r p _ q => kk l o r p q) i q
noncomputable def isUn (e : Expr) (K : UnaryOp → Expr → Bool) : Bool := if h : e.ctorIdx = 3 then Expr.UnaryOp.elim (motive_1 := fun _ => Bool) e h fun o y _ => K o y else false
theorem isUn_e {e : Expr} {K : UnaryOp → Expr → Bool} {M : Expr → Prop} (h : isUn e K = true) (kk : ∀ (o : UnaryOp) (y : Expr) (p : Pos), K o y = true → M (.UnaryOp o y p)) : M e :=
  let ⟨i, q⟩ := dif_e h
  Expr.UnaryOp.elim (motive_1 := fun e => ∀ i, Expr.UnaryOp.elim (motive_1 := fun _ => Bool) e i (fun o y _ => K o y) = true → M e) e i (fun o y p _ q => kk o y p q) i q
noncomputable def isIf (e : Expr) (K : Expr → Expr → Expr → Bool) : Bool := if h : e.ctorIdx = 5 then Expr.IfExp.elim (motive_1 := fun _ => Bool) e h fun t y z _ => K t y z else false
theorem isIf_e {e : Expr} {K : Expr → Expr → Expr → Bool} {M : Expr → Prop} (h : isIf e K = true) (kk : ∀ (t : Expr) (y : Expr) (z : Expr) (p : Pos), K t y z = true → M (.IfExp t y z p)) : M e :=
  let ⟨i, q⟩ := dif_e h
  Expr.IfExp.elim (motive_1 := fun e => ∀ i, Expr.IfExp.elim (motive_1 := fun _ => Bool) e i (fun t y z _ => K t y z) = true → M e) e i (fun t y z p _ q => kk t y z p q) i q
noncomputable def isList (e : Expr) (K : List Expr → Bool) : Bool := if h : e.ctorIdx = 24 then Expr.List.elim (motive_1 := fun _ => Bool) e h fun xs _ => K xs else false
theorem isList_e {e : Expr} {K : List Expr → Bool} {M : Expr → Prop} (h : isList e K = true) (kk : ∀ (xs : List Expr) (p : Pos), K xs = true → M (.List xs p)) : M e :=
  let ⟨i, q⟩ := dif_e h
  Expr.List.elim (motive_1 := fun e => ∀ i, Expr.List.elim (motive_1 := fun _ => Bool) e i (fun xs _ => K xs) = true → M e) e i (fun xs p _ q => kk xs p q) i q
noncomputable def isTup (e : Expr) (K : List Expr → Bool) : Bool := if h : e.ctorIdx = 25 then Expr.Tuple.elim (motive_1 := fun _ => Bool) e h fun xs _ _ => K xs else false
theorem isTup_e {e : Expr} {K : List Expr → Bool} {M : Expr → Prop} (h : isTup e K = true) (kk : ∀ (xs : List Expr) (k : Nat) (p : Pos), K xs = true → M (.Tuple xs k p)) : M e :=
  let ⟨i, q⟩ := dif_e h
  Expr.Tuple.elim (motive_1 := fun e => ∀ i, Expr.Tuple.elim (motive_1 := fun _ => Bool) e i (fun xs _ _ => K xs) = true → M e) e i (fun xs k p _ q => kk xs k p q) i q
noncomputable def isCmp (e : Expr) (K : Expr → List CmpOp → List Expr → Bool) : Bool := if h : e.ctorIdx = 15 then Expr.Compare.elim (motive_1 := fun _ => Bool) e h fun l os cs _ => K l os cs else false
theorem isCmp_e {e : Expr} {K : Expr → List CmpOp → List Expr → Bool} {M : Expr → Prop} (h : isCmp e K = true) (kk : ∀ (l : Expr) (os : List CmpOp) (cs : List Expr) (p : Pos), K l os cs = true → M (.Compare l os cs p)) : M e :=
  let ⟨i, q⟩ := dif_e h
  Expr.Compare.elim (motive_1 := fun e => ∀ i, Expr.Compare.elim (motive_1 := fun _ => Bool) e i (fun l os cs _ => K l os cs) = true → M e) e i (fun l os cs p _ q => kk l os cs p q) i q
noncomputable def isBool (e : Expr) (K : BoolOp → List Expr → Bool) : Bool := if h : e.ctorIdx = 0 then Expr.BoolOp.elim (motive_1 := fun _ => Bool) e h fun o xs _ => K o xs else false
theorem isBool_e {e : Expr} {K : BoolOp → List Expr → Bool} {M : Expr → Prop} (h : isBool e K = true) (kk : ∀ (o : BoolOp) (xs : List Expr) (p : Pos), K o xs = true → M (.BoolOp o xs p)) : M e :=
  let ⟨i, q⟩ := dif_e h
  Expr.BoolOp.elim (motive_1 := fun e => ∀ i, Expr.BoolOp.elim (motive_1 := fun _ => Bool) e i (fun o xs _ => K o xs) = true → M e) e i (fun o xs p _ q => kk o xs p q) i q
noncomputable def isSub (e : Expr) (K : Expr → Expr → Bool) : Bool := if h : e.ctorIdx = 21 then Expr.Subscript.elim (motive_1 := fun _ => Bool) e h fun v s _ => K v s else false
theorem isSub_e {e : Expr} {K : Expr → Expr → Bool} {M : Expr → Prop} (h : isSub e K = true) (kk : ∀ (v : Expr) (s : Expr) (p : Pos), K v s = true → M (.Subscript v s p)) : M e :=
  let ⟨i, q⟩ := dif_e h
  Expr.Subscript.elim (motive_1 := fun e => ∀ i, Expr.Subscript.elim (motive_1 := fun _ => Bool) e i (fun v s _ => K v s) = true → M e) e i (fun v s p _ q => kk v s p q) i q
noncomputable def isSlice (e : Expr) (K : Option Expr → Option Expr → Option Expr → Bool) : Bool := if h : e.ctorIdx = 26 then Expr.Slice.elim (motive_1 := fun _ => Bool) e h fun l u s _ => K l u s else false
theorem isSlice_e {e : Expr} {K : Option Expr → Option Expr → Option Expr → Bool} {M : Expr → Prop} (h : isSlice e K = true) (kk : ∀ (l : Option Expr) (u : Option Expr) (s : Option Expr) (p : Pos), K l u s = true → M (.Slice l u s p)) : M e :=
  let ⟨i, q⟩ := dif_e h
  Expr.Slice.elim (motive_1 := fun e => ∀ i, Expr.Slice.elim (motive_1 := fun _ => Bool) e i (fun l u s _ => K l u s) = true → M e) e i (fun l u s p _ q => kk l u s p q) i q
noncomputable def isAttr (e : Expr) (K : Expr → PySem.Str → Pos → Bool) : Bool := if h : e.ctorIdx = 20 then Expr.Attribute.elim (motive_1 := fun _ => Bool) e h fun v y p => K v y p else false
theorem isAttr_e {e : Expr} {K : Expr → PySem.Str → Pos → Bool} {M : Expr → Prop} (h : isAttr e K = true) (kk : ∀ (v : Expr) (y : PySem.Str) (p : Pos), K v y p = true → M (.Attribute v y p)) : M e :=
  let ⟨i, q⟩ := dif_e h
  Expr.Attribute.elim (motive_1 := fun e => ∀ i, Expr.Attribute.elim (motive_1 := fun _ => Bool) e i (fun v y p => K v y p) = true → M e) e i (fun v y p _ q => kk v y p q) i q
noncomputable def isCall (e : Expr) (K : Expr → List Expr → List Keyword → Pos → Bool) : Bool := if h : e.ctorIdx = 16 then Expr.Call.elim (motive_1 := fun _ => Bool) e h fun f xs k p => K f xs k p else false
theorem isCall_e {e : Expr} {K : Expr → List Expr → List Keyword → Pos → Bool} {M : Expr → Prop} (h : isCall e K = true) (kk : ∀ (f : Expr) (xs : List Expr) (k : List Keyword) (p : Pos), K f xs k p = true → M (.Call f xs k p)) : M e :=
  let ⟨i, q⟩ := dif_e h
  Expr.Call.elim (motive_1 := fun e => ∀ i, Expr.Call.elim (motive_1 := fun _ => Bool) e i (fun f xs k p => K f xs k p) = true → M e) e i (fun f xs k p _ q => kk f xs k p q) i q
noncomputable def isLC (e : Expr) (K : Expr → List Comprehension → Scope → Bool) : Bool := if h : e.ctorIdx = 8 then Expr.ListComp.elim (motive_1 := fun _ => Bool) e h fun elt gs sc _ => K elt gs sc else false
theorem isLC_e {e : Expr} {K : Expr → List Comprehension → Scope → Bool} {M : Expr → Prop} (h : isLC e K = true) (kk : ∀ (elt : Expr) (gs : List Comprehension) (sc : Scope) (p : Pos), K elt gs sc = true → M (.ListComp elt gs sc p)) : M e :=
  let ⟨i, q⟩ := dif_e h
  Expr.ListComp.elim (motive_1 := fun e => ∀ i, Expr.ListComp.elim (motive_1 := fun _ => Bool) e i (fun elt gs sc _ => K elt gs sc) = true → M e) e i (fun elt gs sc p _ q => kk elt gs sc p q) i q
noncomputable def gen1 (gs : List Comprehension) (K : Expr → Expr → List Expr → Bool) : Bool := match gs with
  | [] => false
  | g :: r => r.isEmpty && g.is_async == 0 && K g.target g.iter g.ifs
theorem gen1_inv {gs : List Comprehension} {K : Expr → Expr → List Expr → Bool} (h : gen1 gs K = true) : ∃ t i cs, gs = [⟨t, i, cs, 0⟩] ∧ K t i cs = true := by
  cases gs with
  | nil => cases h
  | cons g r =>
    replace h : (r.isEmpty && g.is_async == 0 && K g.target g.iter g.ifs) = true := h
    rw [Bool.and_eq_true, Bool.and_eq_true, List.isEmpty_iff, beq_iff_eq] at h
    obtain ⟨⟨rfl, q⟩, h⟩ := h
    cases g
    cases q
    exact ⟨_, _, _, rfl, h⟩
theorem and_e {a b : Bool} (h : (a && b) = true) : a = true ∧ b = true := (Bool.and_eq_true a b).mp h

noncomputable def chkIs (C : SC) : List Nat → List Expr → Bool
  | [], xs => xs.isEmpty
  | i :: is, xs => xs.head?.any fun e => isName e fun x => C.isW i x && chkIs C is xs.tail
noncomputable def nodupN : List Nat → Bool
  | [] => true
  | i :: is => !is.contains i && nodupN is
/-- one name or several as a target -/
noncomputable def chkBind (C : SC) (one : Bool) (is : List Nat) (x : Expr) : Bool :=
  if one then (match is with | [i] => isName x fun n => C.isW i n | _ => false) else isTup x fun xs => nodupN is && chkIs C is xs
noncomputable def nodupS : List PySem.Str → Bool
  | [] => true
  | x :: xs => !xs.contains x && nodupS xs
noncomputable def locL (names : List (PySem.Str × NameKind)) : List PySem.Str := names.filterMap fun p => if p.2 == .local && !(p.1 == PySem.Str.ofString ".0") then some p.1 else none
noncomputable def freeL (names : List (PySem.Str × NameKind)) : List PySem.Str := names.filterMap fun p => if p.2 == .free then some p.1 else none
noncomputable def compSC (C : SC) (sc : Scope) : SC := ⟨(locL sc.names).map (·, false) ++ (freeL sc.names).map (·, true), sc.names.filter fun p => p.2 == .globalImplicit, C.fns, C.meths, freeL sc.names⟩
noncomputable def capsOk (C : SC) : List Nat → List PySem.Str → Bool
  | [], xs => xs.isEmpty
  | i :: is, xs => xs.head?.any fun x => C.is i x && C.cells.contains x && capsOk C is xs.tail
/-- a comprehension's own block -/
noncomputable def compOk (C : SC) (sc : Scope) (n : Nat) (caps : List Nat) : Bool :=
  sc.kind == .function && (locL sc.names).length == n && capsOk C caps (freeL sc.names) && nodupS (sc.names.map (·.1)) &&
  sc.names.all (fun p => (p.2 == .local || p.2 == .free || p.2 == .globalImplicit) && !(p.1 == PySem.Str.ofString "__debug__") && !(p.1 == PySem.Str.ofString "__classdict__"))
noncomputable def isNoneEx : Ex → Bool
  | .lit v => match v with
    | .none => true
    | _ => false
  | _ => false
noncomputable def optOk (n : Bool) (f : Expr → Bool) (x : Option Expr) : Bool := match x with
  | none => n
  | some e => f e
mutual
noncomputable def chkE (C : SC) : Ex → Expr → Bool
  | .lit v, x => isConst x fun c => litOk v c
  | .var i, x => isName x fun n => C.is i n
  | .bin op a b, x => isBin x fun l o r => op == o && (chkE C a l && chkE C b r)
  | .neg a, x => isUn x fun o y => o == .USub && chkE C a y
  | .not a, x => isUn x fun o y => o == .Not && chkE C a y
  | .ite c a b, x => isIf x fun t y z => chkE C c t && (chkE C a y && chkE C b z)
  | .list es, x => isList x fun xs => decide (xs.length < 1000) && chkEs C es xs
  | .tup es, x => isTup x fun xs => decide (xs.length < 1000) && chkEs C es xs
  | .cmp a ops es, x => isCmp x fun l os cs => ops == os && (chkE C a l && chkEs C es cs)
  | .band es, x => isBool x fun o xs => o == .And && chkEs C es xs
  | .bor es, x => isBool x fun o xs => o == .Or && chkEs C es xs
  | .idx a i, x => isSub x fun v s => chkE C a v && chkE C i s
  | .slc a lo hi st, x => isSub x fun v s => isSlice s fun l u k => chkE C a v && (optOk (isNoneEx lo) (fun e => chkE C lo e) l && (optOk (isNoneEx hi) (fun e => chkE C hi e) u && optOk (isNoneEx st) (fun e => chkE C st e) k))
  | .attr o n, x => isAttr x fun v y _ => PySem.Str.ofString n == y && (notCall v && chkE C o v)
  | .bi b args, x => isCall x fun f xs k _ => isName f fun f => k.isEmpty && (C.glob b.name f && chkEs C args xs)
  | .call n args, x => isCall x fun f xs k _ => isName f fun f => k.isEmpty && (C.fns.contains n && (C.glob n f && chkEs C args xs))
  | .me o m args, x => isCall x fun f xs k p => isAttr f fun v y q => k.isEmpty && (PySem.Str.ofString m.name == y && (q.endLine == p.line && (decide (xs.length < 20) && (notCall v && (chkE C o v && chkEs C args xs)))))
  | .imeth o n args, x => C.meths.contains n && isCall x fun f xs k p => isAttr f fun v y q => k.isEmpty && (PySem.Str.ofString n == y && (q.endLine == p.line && (decide (xs.length < 20) && (notCall v && (chkE C o v && chkEs C args xs)))))
  | .lcall i args, x => isCall x fun f xs k _ => isName f fun y => k.isEmpty && (C.is i y && chkEs C args xs)
  | .comp elt one is it cs n caps, x => isLC x fun e gs sc => gen1 gs fun t i ifs => plainE i && (chkE C it i && (compOk C sc n caps && (chkBind (compSC C sc) one is t && (chkEs (compSC C sc) cs ifs && chkE (compSC C sc) elt e))))
noncomputable def chkEs (C : SC) : List Ex → List Expr → Bool
  | [], xs => xs.isEmpty
  | a :: as, xs => xs.head?.any fun e => plainE e && chkE C a e && chkEs C as xs.tail
end
noncomputable def chkO (C : SC) (a : Ex) (x : Option Expr) : Bool := optOk (isNoneEx a) (fun e => chkE C a e) x
theorem chkEs_cons {C : SC} {a : Ex} {as : List Ex} {xs : List Expr} (h : chkEs C (a :: as) xs = true) : ∃ e es, xs = e :: es ∧ plainE e = true ∧ chkE C a e = true ∧ chkEs C as es = true := by
  cases xs with
  | nil => cases h
  | cons e es =>
    have h : (plainE e && chkE C a e && chkEs C as es) = true := h
    rw [Bool.and_eq_true, Bool.and_eq_true] at h
    exact ⟨e, es, rfl, h.1.1, h.1.2, h.2⟩
theorem chkEs_nil {C : SC} {xs : List Expr} (h : chkEs C [] xs = true) : xs = [] := by
  cases xs with
  | nil => rfl
  | cons => cases h
section
variable {C : SC} {x : Expr} {M : Expr → Prop}
@[elab_as_elim] theorem chk_bin {op : Operator} {a b : Ex} (h : chkE C (.bin op a b) x = true) (k : ∀ l r p, chkE C a l = true → chkE C b r = true → M (.BinOp l op r p)) : M x :=
  isBin_e (e := x) (K := fun l o r => op == o && (chkE C a l && chkE C b r)) h fun l o r p q => by
    obtain ⟨q1, q2⟩ := and_e q; cases beq_iff_eq.mp q1; exact k l r p (and_e q2).1 (and_e q2).2
@[elab_as_elim] theorem chk_neg {a : Ex} (h : chkE C (.neg a) x = true) (k : ∀ y p, chkE C a y = true → M (.UnaryOp .USub y p)) : M x :=
  isUn_e (e := x) (K := fun o y => o == .USub && chkE C a y) h fun o y p q => by
    obtain ⟨q1, q2⟩ := and_e q; cases beq_iff_eq.mp q1; exact k y p q2
@[elab_as_elim] theorem chk_not {a : Ex} (h : chkE C (.not a) x = true) (k : ∀ y p, chkE C a y = true → M (.UnaryOp .Not y p)) : M x :=
  isUn_e (e := x) (K := fun o y => o == .Not && chkE C a y) h fun o y p q => by
    obtain ⟨q1, q2⟩ := and_e q; cases beq_iff_eq.mp q1; exact k y p q2
@[elab_as_elim] theorem chk_ite {c a b : Ex} (h : chkE C (.ite c a b) x = true) (k : ∀ t y z p, chkE C c t = true → chkE C a y = true → chkE C b z = true → M (.IfExp t y z p)) : M x :=
  isIf_e (e := x) (K := fun t y z => chkE C c t && (chkE C a y && chkE C b z)) h fun t y z p q => k t y z p (and_e q).1 (and_e (and_e q).2).1 (and_e (and_e q).2).2
@[elab_as_elim] theorem chk_list {es : List Ex} (h : chkE C (.list es) x = true) (k : ∀ xs p, xs.length < 1000 → chkEs C es xs = true → M (.List xs p)) : M x :=
  isList_e (e := x) (K := fun xs => decide (xs.length < 1000) && chkEs C es xs) h fun xs p q => k xs p (of_decide_eq_true (and_e q).1) (and_e q).2
@[elab_as_elim] theorem chk_tup {es : List Ex} (h : chkE C (.tup es) x = true) (k : ∀ xs n p, xs.length < 1000 → chkEs C es xs = true → M (.Tuple xs n p)) : M x :=
  isTup_e (e := x) (K := fun xs => decide (xs.length < 1000) && chkEs C es xs) h fun xs n p q => k xs n p (of_decide_eq_true (and_e q).1) (and_e q).2
@[elab_as_elim] theorem chk_cmp {a : Ex} {ops : List CmpOp} {es : List Ex} (h : chkE C (.cmp a ops es) x = true) (k : ∀ l cs p, chkE C a l = true → chkEs C es cs = true → M (.Compare l ops cs p)) : M x :=
  isCmp_e (e := x) (K := fun l os cs => ops == os && (chkE C a l && chkEs C es cs)) h fun l os cs p q => by
    obtain ⟨q1, q2⟩ := and_e q; cases beq_iff_eq.mp q1; exact k l cs p (and_e q2).1 (and_e q2).2
@[elab_as_elim] theorem chk_band {es : List Ex} (h : chkE C (.band es) x = true) (k : ∀ xs p, chkEs C es xs = true → M (.BoolOp .And xs p)) : M x :=
  isBool_e (e := x) (K := fun o xs => o == .And && chkEs C es xs) h fun o y p q => by
    obtain ⟨q1, q2⟩ := and_e q; cases beq_iff_eq.mp q1; exact k y p q2
@[elab_as_elim] theorem chk_bor {es : List Ex} (h : chkE C (.bor es) x = true) (k : ∀ xs p, chkEs C es xs = true → M (.BoolOp .Or xs p)) : M x :=
  isBool_e (e := x) (K := fun o xs => o == .Or && chkEs C es xs) h fun o y p q => by
    obtain ⟨q1, q2⟩ := and_e q; cases beq_iff_eq.mp q1; exact k y p q2
@[elab_as_elim] theorem chk_idx {a i : Ex} (h : chkE C (.idx a i) x = true) (k : ∀ v s p, chkE C a v = true → chkE C i s = true → M (.Subscript v s p)) : M x :=
  isSub_e (e := x) (K := fun v s => chkE C a v && chkE C i s) h fun v s p q => k v s p (and_e q).1 (and_e q).2
@[elab_as_elim] theorem chk_attr {o : Ex} {n : String} (h : chkE C (.attr o n) x = true) (k : ∀ v p, notCall v = true → chkE C o v = true → M (.Attribute v (PySem.Str.ofString n) p)) : M x :=
  isAttr_e (e := x) (K := fun v y _ => PySem.Str.ofString n == y && (notCall v && chkE C o v)) h fun v y p q => by
    obtain ⟨q1, q2⟩ := and_e q; cases beq_iff_eq.mp q1; exact k v p (and_e q2).1 (and_e q2).2
/-- a call of a name -/
theorem call_name {K : PySem.Str → List Expr → Bool} (h : (isCall x fun f xs k _ => isName f fun f => k.isEmpty && K f xs) = true) (k : ∀ n q xs p, K n xs = true → M (.Call (.Name n q) xs [] p)) : M x :=
  isCall_e (e := x) (K := fun f xs k _ => isName f fun f => k.isEmpty && K f xs) h fun f xs kw p q =>
    isName_e (e := f) (K := fun f => kw.isEmpty && K f xs) (M := fun f => M (.Call f xs kw p)) q fun n q' q2 => by have q3 := (and_e q2).2; cases List.isEmpty_iff.mp (and_e q2).1; exact k n q' xs p q3
/-- a call of a method -/
theorem call_attr {n : String} {o : Ex} {args : List Ex} (h : (isCall x fun f xs k p => isAttr f fun v y q => k.isEmpty && (PySem.Str.ofString n == y && (q.endLine == p.line && (decide (xs.length < 20) && (notCall v && (chkE C o v && chkEs C args xs)))))) = true)
    (k : ∀ v q xs p, q.endLine = p.line → xs.length < 20 → notCall v = true → chkE C o v = true → chkEs C args xs = true → M (.Call (.Attribute v (PySem.Str.ofString n) q) xs [] p)) : M x :=
  isCall_e (e := x) (K := fun f xs k p => isAttr f fun v y q => k.isEmpty && (PySem.Str.ofString n == y && (q.endLine == p.line && (decide (xs.length < 20) && (notCall v && (chkE C o v && chkEs C args xs)))))) h fun f xs kw p q =>
    isAttr_e (e := f) (K := fun v y q => kw.isEmpty && (PySem.Str.ofString n == y && (q.endLine == p.line && (decide (xs.length < 20) && (notCall v && (chkE C o v && chkEs C args xs)))))) (M := fun f => M (.Call f xs kw p)) q fun v y q' q => by
      obtain ⟨q1, q⟩ := and_e q
      obtain ⟨q2, q⟩ := and_e q
      obtain ⟨q3, q⟩ := and_e q
      obtain ⟨q4, q⟩ := and_e q
      obtain ⟨q5, q⟩ := and_e q
      obtain ⟨q6, q7⟩ := and_e q
      cases List.isEmpty_iff.mp q1; cases beq_iff_eq.mp q2
      exact k v q' xs p (beq_iff_eq.mp q3) (of_decide_eq_true q4) q5 q6 q7
end
end Mine
set_option autoImplicit false
set_option maxRecDepth 10000
namespace Mine
open PySem PyProof.Rows PySem.W

theorem mkS_append (a b : Tx) : (mkS a ++ mkS b : PySem.Str) = mkS (a ++ b) := by
  show PySem.Str.append (mkS a) (mkS b) = _
  simp [PySem.Str.append, mkS]
theorem mkS_length (a : Tx) : (mkS a).length = a.length := by simp [PySem.Str.length]
theorem toNat_inj {a b : Char} (h : a.toNat = b.toNat) : a = b := by
  apply Char.ext; apply UInt32.toNat_inj.mp; exact h
theorem mkS_inj {a b : Tx} (h : mkS a = mkS b) : a = b := by
  have h2 : (a.map Char.toNat) = (b.map Char.toNat) := by
    have := congrArg (fun x : PySem.Str => x.cps.toList) h
    simpa using this
  exact (List.map_inj_right fun x y e => toNat_inj e).mp h2
theorem mkS_beq (a b : Tx) : (mkS a == mkS b) = decide (a = b) := by
  by_cases h : a = b
  · subst h; simp
  · simp only [h, decide_false]
    exact beq_eq_false_iff_ne.mpr fun e => h (mkS_inj e)
theorem mkS_ok (a : Tx) : PyData.strOk (mkS a) = true := by
  rw [PyData.strOk, Array.all_eq_true_iff_forall_mem]
  intro n hn
  have hn' : n ∈ a.map Char.toNat := by simpa [mkS] using hn
  obtain ⟨c, _, rfl⟩ := List.mem_map.mp hn'
  have := c.valid
  simp only [decide_eq_true_eq]
  have h : c.toNat = c.val.toNat := rfl
  rw [h]
  rcases this with h1 | h1
  · omega
  · omega

section
variable {G : GS} {A : Around} {Γ : FE} {frz : Frz} {σ : St} {s : Shared} {Q : V → Mem → Prop}

/-- what an operation hands on -/
noncomputable def PO (G : GS) (Γ : FE) (frz : Frz) (σ : St) (s : Shared) (Q : V → Mem → Prop) : Value → Shared → Prop :=
  fun cv s' => ∃ v m, RV s'.heap cv v ∧ Rep G Γ frz { σ with mem := m } s' ∧ TK s.heap s'.heap ∧ Q v m

theorem PO.pure (r : Rep G Γ frz σ s) {cv : Value} {v : V} {tk : Nat} (h : RV s.heap cv v) (q : Q v σ.mem) : PO G Γ frz σ s Q cv { s with toks := tk } :=
  ⟨v, σ.mem, h, r.toks tk, .refl _, q⟩
theorem PO.here (r : Rep G Γ frz σ s) {cv : Value} {v : V} (h : RV s.heap cv v) (q : Q v σ.mem) : PO G Γ frz σ s Q cv s :=
  ⟨v, σ.mem, h, r, .refl _, q⟩
theorem push_keeps (h : Heap) (o : Obj) : ∀ b o', h.get? b = some o' → (h.push o).get? b = some o' := fun _ _ e => Heap.get?_push_of_some o e
/-- a new list -/
theorem PO.newList (r : Rep G Γ frz σ s) {arr : Array Value} {vs : List V} {tk : Nat} (h : RVs s.heap arr.toList vs) (q : ∀ c, σ.mem c = none → Q (.obj c) (upd σ.mem c (.list vs))) :
    PO G Γ frz σ s Q (.ref s.heap.objs.size) { s with heap := s.heap.push { cls := .type "list", data := .seq arr }, toks := tk } := by
  have k := push_keeps s.heap { cls := .type "list", data := .seq arr }
  refine ⟨.obj s.heap.objs.size, _, .obj _, r.fresh (Nat.le_refl _) k (.list (Heap.get?_push_size _ rfl) (h.tk (.of k))), .of k, q _ (r.none_of_ge (Nat.le_refl _)).1⟩
theorem PO.newTup (r : Rep G Γ frz σ s) {arr : Array Value} {vs : List V} {tk : Nat} (h : RVs s.heap arr.toList vs) (q : Q (.tup vs) σ.mem) :
    PO G Γ frz σ s Q (.ref s.heap.objs.size) { s with heap := s.heap.push { cls := .type "tuple", data := .seq arr }, toks := tk } := by
  have k := push_keeps s.heap { cls := .type "tuple", data := .seq arr }
  exact ⟨.tup vs, _, .tup (Heap.get?_push_size _ rfl) (h.tk (.of k)), r.grow k, .of k, q⟩

theorem small_line {n : Nat} (h : small n) : n ≤ sizeLine := by unfold small at h; rw [sizeLine_eq]; omega

theorem tiny_mul {a b : Int} (h : tiny a) : IntMulOk a b := by
  refine IntMulOk.of_left ?_
  unfold tiny at h
  unfold Builtin.Int.intBits
  have h2 : a.natAbs < 2 ^ 63 := by omega
  by_cases h0 : a.natAbs = 0
  · have h1 : a = 0 := by omega
    subst h1; decide
  · have := Nat.log2_lt (n := a.natAbs) (k := 63) h0
    have h3 := this.mpr h2
    split <;> omega

theorem foldl_rep {α : Type} (x : α) : ∀ (n : Nat) (acc : Array α), (List.foldl (fun x1 x2 => x1 ++ x2) acc (List.replicate n #[x])).toList = acc.toList ++ List.replicate n x
  | 0, acc => by simp
  | n + 1, acc => by rw [List.replicate_succ, List.foldl_cons, foldl_rep x n]; simp [List.replicate_succ]
theorem RVs.rep {h : Heap} {v : Value} {x : V} (a : RV h v x) : ∀ n : Nat, RVs h (List.replicate n v) (List.replicate n x)
  | 0 => .nil
  | n + 1 => .cons a (RVs.rep a n)

theorem fdiv_pos {a b : Int} (h : 0 < b) : a.fdiv b = a / b := by rw [Int.fdiv_eq_ediv_of_nonneg]; omega
theorem fmod_pos {a b : Int} (h : 0 < b) : a.fmod b = a % b := by rw [Int.fmod_eq_emod_of_nonneg]; omega

theorem ord_e {v u : V} {cv cu : Value} {K : Int → Int → Prop} {M : Value → Value → Prop} (h : ordI v u K) (hv : RV s.heap cv v) (hu : RV s.heap cu u) (q : ∀ a b t t', K a b → M (.int a t) (.int b t')) : M cv cu := by
  obtain ⟨a, rfl, h1⟩ := asI_inv h
  obtain ⟨b, rfl, h2⟩ := asI_inv h1
  exact hv.eI fun _ => hu.eI fun _ => q _ _ _ _ h2
theorem b_cat {a b : Tx} {t u : Tok} (h : small a.length ∧ small b.length ∧ Q (.str (a ++ b)) σ.mem) (r : Rep G Γ frz σ s) :
    wpAny (model G.prog G.w) A (binaryOp .Add (.str (mkS a) t) (.str (mkS b) u)) (PO G Γ frz σ s Q) NoE s :=
  add_str (fun t' tk => by rw [mkS_append]; exact PO.pure r (.str _ _) h.2.2) (by rw [mkS_length, mkS_length, sizeLine_eq]; exact Nat.le_trans (Nat.add_le_add h.1 h.2.1) (by decide))
theorem b_cc {a b : Addr} (h : ∃ xs ys, σ.mem a = some (.list xs) ∧ σ.mem b = some (.list ys) ∧ small xs.length ∧ small ys.length ∧ ∀ c, σ.mem c = none → Q (.obj c) (upd σ.mem c (.list (xs ++ ys)))) (r : Rep G Γ frz σ s) :
    wpAny (model G.prog G.w) A (binaryOp .Add (.ref a) (.ref b)) (PO G Γ frz σ s Q) NoE s := by
  obtain ⟨xs, ys, e1, e2, h1, h2, h3⟩ := h
  obtain ⟨p, _, g1, r1, l1⟩ := (r.hmem _ _ e1).l
  obtain ⟨q, _, g2, r2, l2⟩ := (r.hmem _ _ e2).l
  exact concat_meets ⟨_, g1, rfl⟩ ⟨_, g2, rfl⟩ noFill_list_add seq_list_add PySem.F.slot_list_add PySem.F.entry_list_add (PySem.F.args_list_add_2 _ _)
      (list_addW _ _ _ _ _ _ _ _ _ _ (by rw [l1, l2, sizeLine_eq]; exact Nat.le_trans (Nat.add_le_add h1 h2) (by decide))) ⟨g1, g2, PO.newList r (by rw [Array.toList_append]; exact r1.append r2) h3⟩
theorem arr_one {h : Heap} {arr : Array Value} {x : V} (r : RVs h arr.toList [x]) : ∃ y, arr = #[y] ∧ RV h y x := by
  obtain ⟨y, e, q⟩ : ∃ y, arr.toList = [y] ∧ RV h y x := RVs.e1 (N := fun l => ∃ y, l = [y] ∧ RV h y x) r fun c q => ⟨c, rfl, q⟩
  exact ⟨y, by rw [← Array.toArray_toList (xs := arr), e], q⟩
theorem b_rep {a : Addr} {k : Int} {u : Tok} (h : ∃ x, σ.mem a = some (.list [x]) ∧ tiny k ∧ small k.toNat ∧ ∀ c, σ.mem c = none → Q (.obj c) (upd σ.mem c (.list (List.replicate k.toNat x)))) (r : Rep G Γ frz σ s) :
    wpAny (model G.prog G.w) A (binaryOp .Mult (.ref a) (.int k u)) (PO G Γ frz σ s Q) NoE s := by
  obtain ⟨x, e1, h1, h2, h3⟩ := h
  obtain ⟨arr, _, g1, r1, _⟩ := (r.hmem _ _ e1).l
  obtain ⟨y, rfl, ry⟩ := arr_one r1
  unfold tiny at h1
  unfold small at h2
  refine wpAny_binaryOp_repeat_ref (T := "list") (U := "int") (by decide) ⟨_, g1, rfl⟩ (fun s' => typeIs_int s' _ _) noFill_list_mul PySem.F.fills_int_mul PySem.F.slot_int_rmul repeat_list PySem.F.slot_int_index.lookup
    (call_meets PySem.F.slot_int_rmul (typeIs_int s _ _) PySem.F.entry_int_rmul (PySem.F.args_int_rmul_2 _ _) (int___rmul___int_list _ _ _ _ _)
      ⟨g1, rfl, ⟨_, g1, rfl⟩, call_meets PySem.F.slot_list_mul ⟨_, g1, rfl⟩ PySem.F.entry_list_mul (PySem.F.args_list_mul_2 _ _)
        (AutoListH.list___mul___list_int_3 _ _ _ _ _ (by simp [Builtin.List.listFitsIndex]; omega) (by have : (#[y] : Array Value).size = 1 := rfl; rw [this]; omega) (by simp [Builtin.List.listTooLong, sizeLine]; omega)) ⟨g1, ?_⟩⟩)
  refine PO.newList r ?_ h3
  rw [if_neg (by simp), foldl_rep]
  exact RVs.rep ry _
theorem b_add {v u : V} {cv cu : Value} (h : addV σ.mem v u Q) (r : Rep G Γ frz σ s) (hv : RV s.heap cv v) (hu : RV s.heap cu u) : wpAny (model G.prog G.w) A (binaryOp .Add cv cu) (PO G Γ frz σ s Q) NoE s := by
  cases v <;> first | exact False.elim h | skip
  · obtain ⟨b, rfl, h⟩ := asI_inv h
    exact hv.eI fun _ => hu.eI fun _ => add_int (PO.pure r (.int _ _) h)
  · obtain ⟨b, rfl, h⟩ := asS_inv h
    exact hv.eS fun _ => hu.eS fun _ => b_cat h r
  · obtain ⟨b, rfl, h⟩ := asO_inv h
    exact hv.eO (hu.eO (b_cc h r))
theorem b_mul {v u : V} {cv cu : Value} (h : mulV σ.mem v u Q) (r : Rep G Γ frz σ s) (hv : RV s.heap cv v) (hu : RV s.heap cu u) : wpAny (model G.prog G.w) A (binaryOp .Mult cv cu) (PO G Γ frz σ s Q) NoE s := by
  cases v <;> first | exact False.elim h | skip
  · obtain ⟨b, rfl, h⟩ := asI_inv h
    exact hv.eI fun _ => hu.eI fun _ => PyProof.Rows.mul_int (PO.pure r (.int _ _) h.2) (tiny_mul h.1)
  · obtain ⟨b, rfl, h⟩ := asI_inv h
    exact hv.eO (hu.eI fun _ => b_rep h r)
theorem b_mod {a b : Int} {t u : Tok} (h : 0 < b ∧ Q (.int (a % b)) σ.mem) (r : Rep G Γ frz σ s) : wpAny (model G.prog G.w) A (binaryOp .Mod (.int a t) (.int b u)) (PO G Γ frz σ s Q) NoE s :=
  mod_int' (Int.ne_of_gt h.1) (by rw [fmod_pos h.1]; exact PO.pure r (.int _ _) h.2)
theorem b_div {a b : Int} {t u : Tok} (h : 0 < b ∧ tiny b ∧ Q (.int (a / b)) σ.mem) (r : Rep G Γ frz σ s) : wpAny (model G.prog G.w) A (binaryOp .FloorDiv (.int a t) (.int b u)) (PO G Γ frz σ s Q) NoE s :=
  floordiv_int (Int.ne_of_gt h.1) (by rw [fdiv_pos h.1]; exact PO.pure r (.int _ _) h.2.2) (.inl (PyProof.noPylong_small (by have := h.2.1; have := h.1; unfold tiny at *; omega)))
theorem s_bin {op : Operator} {v u : V} {cv cu : Value} (h : wpBin σ.mem op v u Q) (r : Rep G Γ frz σ s) (hv : RV s.heap cv v) (hu : RV s.heap cu u) :
    wpAny (model G.prog G.w) A (binaryOp op cv cu) (PO G Γ frz σ s Q) NoE s := by
  cases op <;> first | exact False.elim h | skip
  · exact b_add h r hv hu
  · exact ord_e (M := fun cv cu => wpAny (model G.prog G.w) A (binaryOp .Sub cv cu) (PO G Γ frz σ s Q) NoE s) h hv hu fun _ _ _ _ h => sub_int' (PO.pure r (.int _ _) h)
  · exact b_mul h r hv hu
  · exact ord_e (M := fun cv cu => wpAny (model G.prog G.w) A (binaryOp .Mod cv cu) (PO G Γ frz σ s Q) NoE s) h hv hu fun _ _ _ _ h => b_mod h r
  · exact ord_e (M := fun cv cu => wpAny (model G.prog G.w) A (binaryOp .FloorDiv cv cu) (PO G Γ frz σ s Q) NoE s) h hv hu fun _ _ _ _ h => b_div h r

theorem rds_reads {m : Mem} {h : Heap} {n : Nat} (ih : ∀ {cv : Value} {v : V} {d : PyData}, rd n m v = some d → RV h cv v → ∃ as, Reads h cv d as) {cs : List Value} {vs : List V} (r : RVs h cs vs) : ∀ {ds : List PyData}, vs.mapM (rd n m) = some ds → ∃ as, ReadsAll h cs ds as := by
  refine RVs.ind (N := fun cs vs => ∀ {ds : List PyData}, vs.mapM (rd n m) = some ds → ∃ as, ReadsAll h cs ds as) ?_ ?_ r
  · intro ds e; cases e; exact ⟨_, .nil⟩
  · intro v x vs xs a b hi ds e
    rw [List.mapM_cons] at e
    cases q : rd n m x with
    | none => rw [q] at e; cases e
    | some d =>
      rw [q] at e
      cases q2 : xs.mapM (rd n m) with
      | none => rw [q2] at e; cases e
      | some ds' =>
        rw [q2] at e
        cases e
        obtain ⟨as, p⟩ := ih q a
        obtain ⟨bs, p2⟩ := hi q2
        exact ⟨_, .cons p p2⟩
theorem rd0_reads {h : Heap} {cv : Value} {v : V} {d : PyData} (e : rd0 v = some d) (r : RV h cv v) : ∃ as, Reads h cv d as := by
  cases v <;> first | cases e
  · exact r.eN ⟨_, .none⟩
  · exact r.eB ⟨_, .bool _⟩
  · exact r.eI fun _ => ⟨_, .int _ _⟩
  · exact r.eS fun _ => ⟨_, .str _ _⟩
theorem listAt_inv {m : Mem} {a : Addr} {vs : List V} (e : listAt m a = some vs) : m a = some (.list vs) := by
  obtain ⟨o, e1, e2⟩ := Option.bind_eq_some_iff.mp e
  cases o <;> cases e2
  exact e1
theorem rd_obj {n : Nat} {m : Mem} {a : Addr} {vs : List V} (h : m a = some (.list vs)) : rd (n + 1) m (.obj a) = (vs.mapM (rd n m)).map .list := by
  show ((m a).bind _).bind _ = _
  rw [h]; rfl
theorem rd_reads {m : Mem} {h : Heap} (hm : ∀ a o, m a = some o → RO h a o) : ∀ (n : Nat) {cv : Value} {v : V} {d : PyData}, rd n m v = some d → RV h cv v → ∃ as, Reads h cv d as
  | 0, _, _, _, e, r => rd0_reads e r
  | n + 1, _, .tup _, _, e, r => by
    obtain ⟨ds, q, rfl⟩ := Option.map_eq_some_iff.mp e
    exact r.eT fun _ _ _ g rs => let ⟨as, p⟩ := rds_reads (rd_reads hm n) rs q; ⟨as, .tuple g rfl rfl p⟩
  | n + 1, _, .obj _, _, e, r => by
    obtain ⟨vs, e1, e⟩ := Option.bind_eq_some_iff.mp e
    obtain ⟨ds, q, rfl⟩ := Option.map_eq_some_iff.mp e
    obtain ⟨_, _, g, rs, _⟩ := (hm _ _ (listAt_inv e1)).l
    exact r.eO (let ⟨as, p⟩ := rds_reads (rd_reads hm n) rs q; ⟨_, .list g rfl rfl p⟩)
  | n + 1, _, .none, _, e, r => rd0_reads (v := .none) e r
  | n + 1, _, .bool _, _, e, r => rd0_reads (v := .bool _) e r
  | n + 1, _, .int _, _, e, r => rd0_reads (v := .int _) e r
  | n + 1, _, .str _, _, e, r => rd0_reads (v := .str _) e r
  | n + 1, _, .flt _, _, e, r => rd0_reads (v := .flt _) e r
  | n + 1, _, .rng .., _, e, r => rd0_reads (v := .rng _ _ _) e r
theorem rd0_shape {v : V} {d : PyData} (e : rd0 v = some d) : d.canLay0 = true ∧ d.depth = 0 := by
  cases v <;> first | cases e
  · exact ⟨rfl, rfl⟩
  · exact ⟨rfl, rfl⟩
  · exact ⟨rfl, rfl⟩
  · exact ⟨mkS_ok _, rfl⟩
theorem rd0_sh {n : Nat} {v : V} {d : PyData} (e : rd0 v = some d) : d.canLay0 = true ∧ d.depth ≤ n := ⟨(rd0_shape e).1, Nat.le_trans (Nat.le_of_eq (rd0_shape e).2) (Nat.zero_le _)⟩
theorem rds_shape {m : Mem} {n : Nat} (ih : ∀ {v : V} {d : PyData}, rd n m v = some d → d.canLay0 = true ∧ d.depth ≤ n) : ∀ (vs : List V) {ds : List PyData}, vs.mapM (rd n m) = some ds → PyData.canLayAll0 ds = true ∧ PyData.depthAll ds ≤ n
  | [], ds, e => by cases e; exact ⟨rfl, Nat.zero_le _⟩
  | v :: vs, ds, e => by
    rw [List.mapM_cons] at e
    obtain ⟨d, e1, e⟩ := Option.bind_eq_some_iff.mp e
    obtain ⟨ds', e2, e⟩ := Option.bind_eq_some_iff.mp e
    cases e
    have p := ih e1
    have q := rds_shape ih vs e2
    exact ⟨(Bool.and_eq_true _ _).mpr ⟨p.1, q.1⟩, Nat.max_le.mpr ⟨p.2, q.2⟩⟩
theorem rd_shape {m : Mem} : ∀ (n : Nat) {v : V} {d : PyData}, rd n m v = some d → d.canLay0 = true ∧ d.depth ≤ n
  | 0, _, _, e => ⟨(rd0_shape e).1, Nat.le_of_eq (rd0_shape e).2⟩
  | n + 1, .tup vs, _, e => by
    obtain ⟨ds, q, rfl⟩ := Option.map_eq_some_iff.mp e
    have p := rds_shape (rd_shape n) vs q
    exact ⟨p.1, Nat.succ_le_succ p.2⟩
  | n + 1, .obj a, _, e => by
    obtain ⟨vs, e1, e⟩ := Option.bind_eq_some_iff.mp e
    obtain ⟨ds, q, rfl⟩ := Option.map_eq_some_iff.mp e
    have p := rds_shape (rd_shape n) vs q
    exact ⟨p.1, Nat.succ_le_succ p.2⟩
  | n + 1, .none, _, e => rd0_sh (v := .none) e
  | n + 1, .bool _, _, e => rd0_sh (v := .bool _) e
  | n + 1, .int _, _, e => rd0_sh (v := .int _) e
  | n + 1, .str _, _, e => rd0_sh (v := .str _) e
  | n + 1, .flt x, _, e => rd0_sh (v := .flt x) e
  | n + 1, .rng x y z, _, e => rd0_sh (v := .rng x y z) e
theorem rd_shaped {m : Mem} {v : V} {d : PyData} (e : rd 8 m v = some d) : SeqAt.shaped d = true := by
  have := rd_shape 8 e
  unfold SeqAt.shaped
  rw [this.1, Bool.true_and]
  exact decide_eq_true (Nat.le_trans this.2 (by decide))

/-- what a test hands on -/
noncomputable def PQ (G : GS) (Γ : FE) (frz : Frz) (σ : St) (s : Shared) (Q : Bool → Prop) : Value → Shared → Prop :=
  fun cv s' => ∃ b, cv = .bool b ∧ Rep G Γ frz σ s' ∧ TK s.heap s'.heap ∧ Q b
noncomputable def PT (G : GS) (Γ : FE) (frz : Frz) (σ : St) (s : Shared) (Q : Bool → Prop) : Bool → Shared → Prop :=
  fun b s' => Rep G Γ frz σ s' ∧ TK s.heap s'.heap ∧ Q b

noncomputable def roomU (A : Around) : Prop := A.units + 64 < cLine

theorem s_ord {v u : V} {cv cu : Value} {K : Int → Int → Prop} (h : ordI v u K) (hv : RV s.heap cv v) (hu : RV s.heap cu u) : ∃ a b t t', cv = .int a t ∧ cu = .int b t' ∧ K a b := by
  obtain ⟨a, rfl, h1⟩ := asI_inv h
  obtain ⟨b, rfl, h2⟩ := asI_inv h1
  cases hv; cases hu
  exact ⟨a, b, _, _, rfl, rfl, h2⟩
theorem s_eqv {v u : V} {cv cu : Value} {K : Bool → Prop} {ne : Bool} {Q : Bool → Prop} (hu' : roomU A) (h : eqAny σ.mem v u fun t => Q (if ne then !t else t)) (r : Rep G Γ frz σ s) (hv : RV s.heap cv v) (hu : RV s.heap cu u) :
    wpAny (model G.prog G.w) A (compareOp (if ne then .NotEq else .Eq) cv cu) (PQ G Γ frz σ s Q) NoE s := by
  obtain ⟨d, e, h1, h2, h3⟩ := h
  obtain ⟨as, ra⟩ := rd_reads r.hmem 8 h1 hv
  obtain ⟨bs, rb⟩ := rd_reads r.hmem 8 h2 hu
  cases ne with
  | false => exact eq_dataH ra rb (rd_shaped h1) (rd_shaped h2) hu' ⟨_, rfl, r, .refl _, h3⟩
  | true => exact ne_dataH ra rb (rd_shaped h1) (rd_shaped h2) hu' ⟨_, rfl, r, .refl _, h3⟩
theorem cmpEq_inv {m : Mem} {a b : V} {K : Bool → Prop} (h : cmpEq m a b K) : (∃ x y, a = .int x ∧ b = .int y ∧ K (decide (x = y))) ∨ (∃ x y, a = .str x ∧ b = .str y ∧ K (decide (x = y))) ∨ eqAny m a b K := by
  cases a <;> first
    | exact .inr (.inr h)
    | (cases b <;> first | exact .inr (.inr h) | exact .inl ⟨_, _, rfl, rfl, h⟩ | exact .inr (.inl ⟨_, _, rfl, rfl, h⟩))
theorem s_in {v u : V} {cv cu : Value} {nt : Bool} {Q : Bool → Prop} (hu' : roomU A) (h : inAny σ.mem v u fun t => Q (if nt then !t else t)) (r : Rep G Γ frz σ s) (hv : RV s.heap cv v) (hu : RV s.heap cu u) :
    wpAny (model G.prog G.w) A (compareOp (if nt then .NotIn else .In) cv cu) (PQ G Γ frz σ s Q) NoE s := by
  obtain ⟨l, rfl, vs, d, ds, hl, _, h1, h2, h3⟩ := asO_inv h
  have h4 : rd 8 σ.mem (.obj l) = some (.list ds) := by rw [rd_obj hl, h2]; rfl
  obtain ⟨as, ra⟩ := rd_reads r.hmem 7 h1 hv
  obtain ⟨bs, rb⟩ := rd_reads r.hmem 8 h4 hu
  have s1 := rd_shape 7 h1
  have s2 := rd_shape 8 h4
  simp only [PyData.canLay0, PyData.depth] at s2
  have hm : A.units + 1 + min (PyData.depthAll ds) d.depth < cLine := by
    have := Nat.min_le_right (PyData.depthAll ds) d.depth
    unfold roomU at hu'; omega
  cases nt with
  | false => exact SeqAt.in_list_reads rb ra s2.1 s1.1 hm ⟨_, rfl, r, .refl _, h3⟩
  | true => exact SeqAt.notIn_list_reads rb ra s2.1 s1.1 hm ⟨_, rfl, r, .refl _, h3⟩
theorem cmpIs_inv {a b : V} {K : Bool → Prop} (h : cmpIs a b K) : b = .none ∧ ((a = .none ∧ K true) ∨ ∃ vs, a = .tup vs ∧ K false) := by
  cases b <;> first
    | exact False.elim h
    | (cases a <;> first | exact False.elim h | exact ⟨rfl, .inl ⟨rfl, h⟩⟩ | exact ⟨rfl, .inr ⟨_, rfl, h⟩⟩)
theorem PQ.of {Q : Bool → Prop} (r : Rep G Γ frz σ s) {b : Bool} (h : Q b) : PQ G Γ frz σ s Q (.bool b) s := ⟨b, rfl, r, .refl _, h⟩
theorem s_eqA {v u : V} {cv cu : Value} {Q : Bool → Prop} (hu' : roomU A) (h : cmpEq σ.mem v u Q) (r : Rep G Γ frz σ s) (hv : RV s.heap cv v) (hu : RV s.heap cu u) :
    wpAny (model G.prog G.w) A (compareOp .Eq cv cu) (PQ G Γ frz σ s Q) NoE s := by
  rcases cmpEq_inv h with ⟨x, y, rfl, rfl, h⟩ | ⟨x, y, rfl, rfl, h⟩ | h
  · exact hv.eI fun _ => hu.eI fun _ => eq_int (.of r h)
  · exact hv.eS fun _ => hu.eS fun _ => eq_str (.of r ((mkS_beq _ _).symm ▸ h))
  · exact s_eqv (ne := false) (K := Q) hu' h r hv hu
theorem s_neA {v u : V} {cv cu : Value} {Q : Bool → Prop} (hu' : roomU A) (h : cmpEq σ.mem v u fun t => Q (!t)) (r : Rep G Γ frz σ s) (hv : RV s.heap cv v) (hu : RV s.heap cu u) :
    wpAny (model G.prog G.w) A (compareOp .NotEq cv cu) (PQ G Γ frz σ s Q) NoE s := by
  rcases cmpEq_inv (K := fun t => Q (!t)) h with ⟨x, y, rfl, rfl, h⟩ | ⟨x, y, rfl, rfl, h⟩ | h
  · exact hv.eI fun _ => hu.eI fun _ => ne_int (.of r h)
  · exact hv.eS fun _ => hu.eS fun _ => ne_str (.of r (by rw [bne, mkS_beq]; exact h))
  · exact s_eqv (ne := true) (K := Q) hu' h r hv hu
theorem s_isA {v u : V} {cv cu : Value} {Q : Bool → Prop} (h : cmpIs v u Q) (r : Rep G Γ frz σ s) (hv : RV s.heap cv v) (hu : RV s.heap cu u) :
    wpAny (model G.prog G.w) A (compareOp .Is cv cu) (PQ G Γ frz σ s Q) NoE s := by
  obtain ⟨rfl, ⟨rfl, h⟩ | ⟨vs, rfl, h⟩⟩ := cmpIs_inv h
  · exact hv.eN (hu.eN (is_none_none (.of r h)))
  · exact hv.eT fun _ _ _ _ _ => hu.eN (is_none_ne (fun e => nomatch e) (.of r h))
theorem s_isntA {v u : V} {cv cu : Value} {Q : Bool → Prop} (h : cmpIs v u fun t => Q (!t)) (r : Rep G Γ frz σ s) (hv : RV s.heap cv v) (hu : RV s.heap cu u) :
    wpAny (model G.prog G.w) A (compareOp .IsNot cv cu) (PQ G Γ frz σ s Q) NoE s := by
  obtain ⟨rfl, ⟨rfl, h⟩ | ⟨vs, rfl, h⟩⟩ := cmpIs_inv (K := fun t => Q (!t)) h
  · exact hv.eN (hu.eN (isnot_none_none (.of r h)))
  · exact hv.eT fun _ _ _ _ _ => hu.eN (isnot_none_ne (fun e => nomatch e) (.of r h))
theorem s_cmp {op : CmpOp} {v u : V} {cv cu : Value} {Q : Bool → Prop} (hu' : roomU A) (h : wpCmp σ.mem op v u Q) (r : Rep G Γ frz σ s) (hv : RV s.heap cv v) (hu : RV s.heap cu u) :
    wpAny (model G.prog G.w) A (compareOp op cv cu) (PQ G Γ frz σ s Q) NoE s :=
  match op, h with
  | .Eq, h => s_eqA hu' h r hv hu
  | .NotEq, h => s_neA hu' h r hv hu
  | .Lt, h => ord_e (M := fun cv cu => wpAny (model G.prog G.w) A (compareOp .Lt cv cu) (PQ G Γ frz σ s Q) NoE s) h hv hu fun _ _ _ _ h => lt_int (.of r h)
  | .LtE, h => ord_e (M := fun cv cu => wpAny (model G.prog G.w) A (compareOp .LtE cv cu) (PQ G Γ frz σ s Q) NoE s) h hv hu fun _ _ _ _ h => le_int (.of r h)
  | .Gt, h => ord_e (M := fun cv cu => wpAny (model G.prog G.w) A (compareOp .Gt cv cu) (PQ G Γ frz σ s Q) NoE s) h hv hu fun _ _ _ _ h => gt_int (.of r h)
  | .GtE, h => ord_e (M := fun cv cu => wpAny (model G.prog G.w) A (compareOp .GtE cv cu) (PQ G Γ frz σ s Q) NoE s) h hv hu fun _ _ _ _ h => ge_int (.of r h)
  | .Is, h => s_isA h r hv hu
  | .IsNot, h => s_isntA h r hv hu
  | .In, h => s_in (nt := false) hu' h r hv hu
  | .NotIn, h => s_in (nt := true) hu' h r hv hu

theorem small63 {n : Nat} (h : small n) : (n : Int) < 2 ^ 63 := by unfold small at h; omega

theorem isEmpty_of {arr : Array Value} {vs : List V} (e : arr.size = vs.length) : arr.isEmpty = vs.isEmpty := by
  unfold Array.isEmpty
  cases vs with
  | nil => simp at e; simp [e]
  | cons v vs => simp at e; simp [e]
theorem len_ne {α : Type} (x : List α) : ((x.length : Int) != 0) = !x.isEmpty := by
  cases x with
  | nil => rfl
  | cons a r => simp only [List.length_cons, List.isEmpty_cons, Bool.not_false, bne_iff_ne, ne_eq]; omega
theorem s_truth {v : V} {cv : Value} {Q : Bool → Prop} (h : wpTruth σ.mem v Q) (r : Rep G Γ frz σ s) (hv : RV s.heap cv v) :
    wpAny (model G.prog G.w) A (truthy cv) (PT G Γ frz σ s Q) NoE s := by
  cases v <;> first | exact False.elim h | skip
  · exact hv.eN (truthy_none ⟨r, .refl _, h⟩)
  · exact hv.eB (wpAny_truthy_bool ⟨r, .refl _, h⟩)
  · exact hv.eI fun _ => PyProof.Rows.truthy_int ⟨r, .refl _, h⟩
  · exact hv.eS fun _ => P.truthy_str (by rw [mkS_length]; exact Int.not_le.mpr (small63 h.1)) ⟨r.toks _, .refl _, by rw [mkS_length, len_ne]; exact h.2⟩
  · exact hv.eT fun _ _ _ g rs => have e := rs.length.symm.trans (Array.length_toList ..); truthy_tuple ⟨_, g, rfl, _, rfl⟩ (by rw [← e]; exact small63 h.1) ⟨r.toks _, .refl _, by rw [isEmpty_of e.symm]; exact h.2⟩
  · obtain ⟨vs, h0, h1, h2⟩ := h
    obtain ⟨_, _, g, rs, e⟩ := (r.hmem _ _ h0).l
    exact hv.eO (wpAny_truthy_list ⟨_, g, rfl, _, rfl⟩ (by rw [e]; exact small63 h1) ⟨r.toks _, .refl _, by rw [isEmpty_of e]; exact h2⟩)

theorem w_tail {prog : Program} {w : World} {A : Around} {E : Value → Shared → Prop} {s : Shared} {value slice : Expr} {o i : Value} {T id : String} {Q : Value → Shared → Prop} (hT : s.TypeIs o T)
    (hl : typeLookup (.type T) "__getitem__" = pure (some (.builtin id))) (h : wpAny (model prog w) A (getItem o i) Q E s) :
    wpAny (model prog w) A (subscriptTail value slice o i) Q E s := by
  unfold subscriptTail
  refine wpAny_bind ?_
  rw [getitemInPython_of_ne hT.not_modules]
  refine wpAny_bind (wpAny_specialOf hT hl ?_)
  have fin : ∃ ops, subscripted slice false o i = operate ops (getItem o i) := by
    cases slice <;> first | exact ⟨_, rfl⟩ | skip
    rename_i st _
    cases st <;> exact ⟨_, rfl⟩
  obtain ⟨ops, e⟩ := fin
  refine wpAny_pure ?_
  rw [e]
  exact wpAny_bind (wpAny_operating (wpAny_mono h (fun r s₃ h₃ => wpAny_bind (wpAny_letTemporaryGo (wpAny_pure h₃))) fun _ _ x => x))

theorem tiny_fit {k : Int} (h : tiny k) : Builtin.List.listFitsIndex k = true := by
  unfold tiny at h
  unfold Builtin.List.listFitsIndex
  simp only [Bool.and_eq_true, decide_eq_true_eq]
  omega
theorem seqIndex_lt {k : Int} {n j : Nat} (h : seqIndex? k n = some j) : j < n ∧ (0 ≤ k → j = k.toNat) := by
  unfold seqIndex? at h
  dsimp only at h
  by_cases h0 : k < 0
  · rw [if_pos h0] at h
    split at h
    · rename_i c
      have := Option.some.inj h
      simp only [Bool.and_eq_true, decide_eq_true_eq] at c
      omega
    · cases h
  · rw [if_neg h0] at h
    split at h
    · rename_i c
      have := Option.some.inj h
      simp only [Bool.and_eq_true, decide_eq_true_eq] at c
      omega
    · cases h

theorem getItem_list_any {prog : Program} {w : World} {A : Around} {E : Value → Shared → Prop} {s : Shared} {l : Addr} {items : Array Value} {k : Int} {t : Tok} {j : Nat} {x : Value} {Q : Value → Shared → Prop} (hl : s.heap.IsList l items)
    (hk : tiny k) (hj : seqIndex? k items.size = some j) (hx : items[j]? = some x) (h : Q x s) : wpAny (model prog w) A (getItem (.ref l) (.int k t)) Q E s := by
  by_cases h0 : 0 ≤ k
  · have := (seqIndex_lt hj).2 h0
    subst this
    exact wpAny_getItem_list hl h0 (by unfold tiny at hk; omega) hx h
  · obtain ⟨o, ho, hc, ne, hd⟩ := id hl
    unfold getItem
    try with_reducible refine wpAny_holding ?_
    first | refine wpAny_bind (wpAny_pure ?_) | skip
    refine wpAny_bind (wpAny_sequenceKey hl.typeIs (by decide) ?_)
    refine wpAny_bind (wpAny_callSpecial?_slot (name := Str.ofString "__getitem__") hl.typeIs slot_list_getitem
      (wpAny_call_entry slot_list_getitem hl.typeIs entry_list_getitem ?_ (args_list_getitem _ _)))
    show wpAny _ _ (Builtin.List.listSubscript? (.int k t) >>= _) _ _ s
    refine wpAny_bind (wpAny_listSubscript_int (tiny_fit hk) ?_)
    obtain ⟨m, rfl⟩ : ∃ m : Nat, k = Int.negSucc m := ⟨(-k - 1).toNat, by omega⟩
    show wpAny _ _ ((Builtin.List.listItems (.ref l) >>= fun xs => pure ((seqIndex? (Int.negSucc m) xs.size).bind fun j => xs[j]?.map (j, ·))) >>= _) _ _ s
    refine wpAny_bind (wpAny_bind (wpAny_listItems ho hd (wpAny_pure ?_)))
    rw [hj]
    simp only [Option.bind_some, hx, Option.map_some]
    first
      | exact wpAny_bind (wpAny_pure (wpAny_pure ⟨x, rfl, wpAny_pure h⟩))
      | exact wpAny_pure ⟨x, rfl, wpAny_pure h⟩

theorem map_get {α β : Type} (f : α → β) {xs : List α} {arr : Array β} (h : arr.toList = xs.map f) {j : Nat} {x : α} (e : xs[j]? = some x) : arr[j]? = some (f x) := by
  rw [← Array.getElem?_toList, h, List.getElem?_map, e]; rfl

theorem pyGet_inv {α : Type} {xs : List α} {k : Int} {c : α} (e : pyGet xs k = some c) : ∃ j, seqIndex? k xs.length = some j ∧ xs[j]? = some c := Option.bind_eq_some_iff.mp e
theorem rv_at {h : Heap} {arr : Array Value} {vs : List V} (rs : RVs h arr.toList vs) {k : Int} {x : V} (e : pyGet vs k = some x) : ∃ j cx, seqIndex? k arr.size = some j ∧ arr[j]? = some cx ∧ RV h cx x := by
  obtain ⟨j, e1, e2⟩ := pyGet_inv e
  obtain ⟨cx, e3, e4⟩ := rs.get e2
  have l := rs.length
  rw [Array.length_toList] at l
  exact ⟨j, cx, by rw [l]; exact e1, by rw [← Array.getElem?_toList]; exact e3, e4⟩
theorem s_idx {v u : V} {cv cu : Value} {value slice : Expr} {Q : V → Prop} (h : wpIdx σ.mem v u Q) (r : Rep G Γ frz σ s) (hv : RV s.heap cv v) (hu : RV s.heap cu u) :
    wpAny (model G.prog G.w) A (subscriptTail value slice cv cu) (PO G Γ frz σ s fun r m => m = σ.mem ∧ Q r) NoE s := by
  obtain ⟨k, rfl, h⟩ := asI_inv h
  cases v <;> first | exact False.elim h | skip
  · obtain ⟨ht, c, e, q⟩ := h
    obtain ⟨j, e1, e2⟩ := pyGet_inv e
    refine hv.eS fun _ => hu.eI fun _ => w_tail (typeIs_str s _ _) PySem.F.slot_str_getitem.lookup (P.getItem_str (c := c.toNat) ?_ ?_ ⟨.str [c], σ.mem, .str [c] _, r.toks _, .refl _, rfl, q⟩)
    · have := ht.1; have := ht.2
      rw [Bool.or_eq_false_iff, decide_eq_false_iff_not, decide_eq_false_iff_not]; omega
    · rw [mkS_length, e1]; exact map_get Char.toNat (List.toList_toArray) e2
  · obtain ⟨ht, x, e, q⟩ := h
    refine hv.eT fun _ _ _ g rs => hu.eI fun _ => ?_
    obtain ⟨j, cx, e1, e3, e4⟩ := rv_at rs e
    exact w_tail ⟨_, g, rfl⟩ PySem.F.slot_tuple_getitem.lookup (PyProof.Rows.getItem_tuple (j := j) (x := cx) ⟨_, g, rfl, _, rfl⟩ (by have := ht.1; omega) (by have := ht.2; omega) e1 e3 ⟨x, σ.mem, e4, r, .refl _, rfl, q⟩)
  · obtain ⟨ht, vs, x, e0, e, q⟩ := h
    obtain ⟨_, _, g, rs, _⟩ := (r.hmem _ _ e0).l
    obtain ⟨j, cx, e1, e3, e4⟩ := rv_at rs e
    exact hv.eO (hu.eI fun _ => w_tail ⟨_, g, rfl⟩ list_getitem_lookup (getItem_list_any (j := j) (x := cx) ⟨_, g, rfl, _, rfl⟩ ht e1 e3 ⟨x, σ.mem, e4, r, .refl _, rfl, q⟩))

theorem slInd_plain {α : Type} (xs : Array α) (lo hi : Option Int) : (Builtin.Str.strSliceIndices lo hi 1 xs.size).filterMap (xs[·]?) = pySl xs.toList lo hi := by
  have e : Builtin.Str.strSliceIndices lo hi 1 xs.size = sliceRange (sliceBounds lo hi none xs.size).1 (sliceBounds lo hi none xs.size).2.1 (sliceBounds lo hi none xs.size).2.2 := by
    cases lo <;> cases hi <;> rfl
  rw [e, sliceBounds_plain]
  simp only [sliceRange_one, pick_run]
  unfold pySl slLo slHi
  simp only [Array.length_toList]
  rfl
theorem pySl_map {α β : Type} (f : α → β) (xs : List α) (lo hi : Option Int) : pySl (xs.map f) lo hi = (pySl xs lo hi).map f := by
  unfold pySl; simp
theorem pySl_len {α : Type} (xs : List α) (lo hi : Option Int) : (pySl xs lo hi).length ≤ xs.length := by
  unfold pySl; simp; omega
theorem pySl_full {α : Type} (xs : List α) (lo hi : Option Int) (h : (pySl xs lo hi).length = xs.length) : pySl xs lo hi = xs := by
  unfold pySl at h ⊢
  rw [List.length_take, List.length_drop] at h
  by_cases h0 : xs.length = 0
  · have : xs = [] := List.length_eq_zero_iff.mp h0
    subst this; simp
  · have h1 : slLo xs.length lo = 0 := by omega
    rw [h1] at h ⊢
    rw [List.drop_zero, List.take_of_length_le (by omega)]
theorem clip_le (n : Nat) (i : Int) : clip n i ≤ n := by
  have := clipAt_cast n i
  unfold clip; omega
theorem slHi_le (n : Nat) (hi : Option Int) : slHi n hi ≤ n := by
  cases hi with
  | none => exact Nat.le_refl _
  | some i => exact clip_le n i
theorem slLo_le (n : Nat) (lo : Option Int) : slLo n lo ≤ n := by
  cases lo with
  | none => exact Nat.zero_le _
  | some i => exact clip_le n i
theorem slInd_len {α : Type} (lo hi : Option Int) (xs : List α) : (Builtin.Str.strSliceIndices lo hi 1 xs.length).length = (pySl xs lo hi).length := by
  have e : Builtin.Str.strSliceIndices lo hi 1 xs.length = sliceRange (sliceBounds lo hi none xs.length).1 (sliceBounds lo hi none xs.length).2.1 (sliceBounds lo hi none xs.length).2.2 := by
    cases lo <;> cases hi <;> rfl
  rw [e, sliceBounds_plain]
  simp only [sliceRange_one, List.length_map, List.length_range]
  unfold pySl
  rw [List.length_take, List.length_drop]
  have h1 := slHi_le xs.length hi
  show slHi xs.length hi - slLo xs.length lo = _
  omega

theorem slPart_is {h : Heap} {v : V} {cv : Value} {a : Option Int} (e : slPart v = some a) (r : RV h cv v) : ∃ p : Option (Int × Tok), cv = partValue p ∧ p.map (·.1) = a ∧ IsPart cv a := by
  cases v <;> cases e
  · exact r.eN ⟨none, rfl, rfl, .none⟩
  · exact r.eI fun _ => ⟨some (_, _), rfl, rfl, .int _ _⟩
theorem slK_inv {v : V} {K : Option Int → Prop} (h : slK v K) : ∃ a, slPart v = some a ∧ K a := by
  cases v <;> first | exact False.elim h | exact ⟨_, rfl, h⟩
theorem stK_inv {v : V} {K : Option Int → Prop} (h : stK v K) : ∃ a, slPart v = some a ∧ K a ∧ a ≠ some 0 := by
  cases v <;> first | exact False.elim h | skip
  · exact ⟨_, rfl, h, fun e => nomatch e⟩
  · exact ⟨_, rfl, h.2, fun e => absurd h.1 (by cases e; decide)⟩

abbrev sliceO (l u st : Value) : Obj := { cls := .type "slice", data := .fields #[l, u, st] }

theorem RVs.pick {h : Heap} {vs : List Value} {xs : List V} (r : RVs h vs xs) : ∀ is : List Nat, RVs h (is.filterMap (vs[·]?)) (is.filterMap (xs[·]?))
  | [] => .nil
  | i :: is => by
    have ih := r.pick is
    rw [List.filterMap_cons, List.filterMap_cons]
    cases e : xs[i]? with
    | none =>
      have : vs[i]? = none := List.getElem?_eq_none (by rw [r.length]; exact List.getElem?_eq_none_iff.mp e)
      rw [this]; exact ih
    | some x =>
      obtain ⟨v, e1, e2⟩ := r.get e
      rw [e1]; exact .cons e2 ih
theorem pick_st {h : Heap} {arr : Array Value} {vs : List V} (rs : RVs h arr.toList vs) (e : arr.size = vs.length) (a b k : Option Int) : RVs h (slicePick arr a b k).toList (pySt vs a b k) := by
  cases k with
  | none =>
    rw [slicePick_plain, e]
    exact (rs.drop _).take _
  | some k =>
    unfold slicePick pySt
    rw [e, show (fun i => arr[i]?) = (fun i => arr.toList[i]?) from funext fun i => Array.getElem?_toList.symm]
    exact rs.pick _
theorem sl_str {x : Tx} {t : Tok} {p q : Option (Int × Tok)} {value slice : Expr} (h1 : small x.length) (h2 : Q (.str (pySl x (p.map (·.1)) (q.map (·.1)))) σ.mem) (r : Rep G Γ frz σ s) :
    wpAny (model G.prog G.w) A (subscriptTail value slice (.str (mkS x) t) (.ref s.heap.objs.size)) (PO G Γ frz σ s Q) NoE { s with heap := s.heap.push (sliceO (partValue p) (partValue q) .none) } := by
  have k := push_keeps s.heap (sliceO (partValue p) (partValue q) .none)
  have r1 := r.grow (tk := s.toks) k
  refine w_tail (typeIs_str _ _ _) PySem.F.slot_str_getitem.lookup (getItem_meets (typeIs_str _ _ _) (by decide) PySem.F.slot_str_getitem PySem.F.entry_str_getitem (PySem.F.args_str_getitem_2 _ _)
    (meets_str_getitem_slice _ _ s.heap.objs.size p q none rfl) ⟨⟨_, Heap.get?_push_size _ rfl, rfl, rfl⟩, ?_⟩)
  unfold sliceMade slicePicked
  rw [mkS_length]
  simp only [Option.map_none, Option.getD_none, beq_self_eq_true, Bool.true_and]
  generalize p.map (·.1) = a at *
  generalize q.map (·.1) = b at *
  have hlen := slInd_len a b x
  split
  · rename_i hc
    rw [pySl_full x a b (by rw [← hlen]; exact beq_iff_eq.mp hc)] at h2
    exact ⟨.str x, σ.mem, .str _ _, r1, .of k, h2⟩
  · have e : (Builtin.Str.strSliceIndices a b 1 x.length).filterMap ((mkS x).cps[·]?) = (pySl x a b).map Char.toNat := by
      have q := slInd_plain (mkS x).cps a b
      rw [show (mkS x).cps.size = x.length by simp] at q
      rw [q, ← pySl_map]
    rw [e]
    refine ⟨?_, .str (pySl x a b), σ.mem, .str _ _, r1.toks _, .of k, h2⟩
    show (mkS (pySl x a b)).length ≤ _
    rw [mkS_length]
    exact Nat.le_trans (pySl_len x a b) (small_line h1)
theorem sl_list {l : Addr} {cl cu cs : Value} {a b k : Option Int} {value slice : Expr} (pl : IsPart cl a) (pu : IsPart cu b) (ps : IsPart cs k) (k0 : k ≠ some 0)
    (h : ∃ vs, (σ.mem l = some (.list vs) ∨ ∃ o, σ.mem l = some (.ro o vs)) ∧ small vs.length ∧ ∀ c, σ.mem c = none → Q (.obj c) (upd σ.mem c (.list (pySt vs a b k)))) (r : Rep G Γ frz σ s) :
    wpAny (model G.prog G.w) A (subscriptTail value slice (.ref l) (.ref s.heap.objs.size)) (PO G Γ frz σ s Q) NoE { s with heap := s.heap.push (sliceO cl cu cs) } := by
  have kk := push_keeps s.heap (sliceO cl cu cs)
  obtain ⟨vs, e0, h1, h2⟩ := h
  obtain ⟨arr, g, rs⟩ : ∃ arr, s.heap.IsList l arr ∧ RVs s.heap arr.toList vs := by
    rcases e0 with e0 | ⟨_, e0⟩
    · obtain ⟨_, _, g, rs, _⟩ := (r.hmem _ _ e0).l
      exact ⟨_, ⟨_, g, rfl, _, rfl⟩, rs⟩
    · cases r.hmem _ _ e0 with
      | ro g c d rs => exact ⟨_, ⟨_, g, c, _, d⟩, rs⟩
  have hz := rs.length
  rw [Array.length_toList] at hz
  obtain ⟨v, m, p1, p2, p3, p4⟩ := PO.newList (Q := Q) (r.grow (tk := s.toks) kk) (tk := s.toks) (RVs.tk (.of kk) (pick_st rs hz a b k)) h2
  exact w_tail (Heap.IsList.typeIs (g.push _)) list_getitem_lookup (wpAny_getItem_list_slice (g.push _) (Heap.IsSliceOf.new ..) pl pu ps k0 ⟨v, m, p1, p2, (TK.of kk).trans p3, p4⟩ (by rw [hz]; exact small_line h1))
theorem s_slc {v l u st : V} {cv cl cu cs : Value} {value slice : Expr} (h : wpSlc σ.mem v l u st Q) (r : Rep G Γ frz σ s) (hv : RV s.heap cv v) (hl : RV s.heap cl l) (hu : RV s.heap cu u) (hs : RV s.heap cs st) :
    wpAny (model G.prog G.w) A (subscriptTail value slice cv (.ref s.heap.objs.size)) (PO G Γ frz σ s Q) NoE { s with heap := s.heap.push (sliceO cl cu cs) } := by
  cases v <;> first | (exact False.elim h) | skip
  · cases st <;> first | (exact False.elim h) | skip
    rename_i x
    obtain ⟨a, ea, h⟩ := slK_inv (show slK l fun a => slK u fun b => small x.length ∧ Q (.str (pySl x a b)) σ.mem from h)
    obtain ⟨b, eb, h1, h2⟩ := slK_inv h
    obtain ⟨pa, rfl, rfl, _⟩ := slPart_is ea hl
    obtain ⟨pb, rfl, rfl, _⟩ := slPart_is eb hu
    exact hs.eN (hv.eS fun _ => sl_str h1 h2 r)
  · rename_i x
    obtain ⟨a, ea, h⟩ := slK_inv (show slK l fun a => slK u fun b => stK st fun k => ∃ vs, (σ.mem x = some (.list vs) ∨ ∃ o, σ.mem x = some (.ro o vs)) ∧ small vs.length ∧ ∀ c, σ.mem c = none → Q (.obj c) (upd σ.mem c (.list (pySt vs a b k))) from h)
    obtain ⟨b, eb, h⟩ := slK_inv h
    obtain ⟨k, ek, h, k0⟩ := stK_inv h
    obtain ⟨_, _, _, qa⟩ := slPart_is ea hl
    obtain ⟨_, _, _, qb⟩ := slPart_is eb hu
    obtain ⟨_, _, _, qk⟩ := slPart_is ek hs
    exact hv.eO (sl_list qa qb qk k0 h r)
end
end Mine
set_option autoImplicit false
set_option maxRecDepth 10000
namespace Mine
open PySem PyProof.Rows PySem.W

section
variable {G : GS} {A : Around} {Γ : FE} {frz : Frz} {σ : St} {s : Shared} {Q : V → Mem → Prop}

structure Rm (A : Around) : Prop where
  hd : A.handled = none
  un : A.units + 64 < cLine

theorem ints_of {h : Heap} : ∀ (ns : List Int) {cs : List Value}, RVs h cs (ns.map V.int) → IntsAre cs ns
  | [], _, r => r.e0 .nil
  | _ :: ns, _, r => r.eC (N := fun cs => IntsAre cs _) fun _ _ a b => a.eI (M := fun c => IntsAre (c :: _) _) fun _ => .cons _ _ (ints_of ns b)

theorem PO.viaF (ok : Γ.ok) (r : Rep G Γ frz σ s) {h' : Heap} {m : PySem.Str → Option Value} (hn : ∀ m, s.heap.Ns Γ.env.locals m → h'.Ns Γ.env.locals m) (F : Fr G.base Γ.env.locals h' m) (N : News G.base Γ.env.locals h' (restOf G Γ.env.locals s.heap []))
    {cv : Value} {v : V} {tk : Nat} (h : ∀ h', RV h' cv v) (q : Q v σ.mem) : PO G Γ frz σ s Q cv { s with heap := h', toks := tk } := by
  have k : Kp Γ.env.locals s.heap h' := ⟨fun b o hb e => r.keep_of_rest F N b o (by simp) hb e, hn⟩
  exact ⟨v, σ.mem, h _, r.growL ok k, r.kp_tk k, q⟩

theorem PO.newRng (r : Rep G Γ frz σ s) {x y z : Int} {t u w : Tok} {tk : Nat} (q : Q (.rng x y z) σ.mem) :
    PO G Γ frz σ s Q (.ref s.heap.objs.size) { s with heap := s.heap.push { cls := .type "range", data := .fields #[.int x t, .int y u, .int z w] }, toks := tk } := by
  have k := push_keeps s.heap { cls := .type "range", data := .fields #[.int x t, .int y u, .int z w] }
  exact ⟨_, _, .rng (Heap.get?_push_size _ rfl), r.grow k, .of k, q⟩
theorem Rep.anyList (r : Rep G Γ frz σ s) {l : Addr} {vs : List V} (h0 : σ.mem l = some (.list vs) ∨ ∃ o, σ.mem l = some (.ro o vs)) : ∃ arr, s.heap.IsList l arr ∧ RVs s.heap arr.toList vs := by
  rcases h0 with e0 | ⟨_, e0⟩
  · cases r.hmem _ _ e0 with
    | list g rs => exact ⟨_, ⟨_, g, rfl, _, rfl⟩, rs⟩
  · cases r.hmem _ _ e0 with
    | ro g c d rs => exact ⟨_, ⟨_, g, c, _, d⟩, rs⟩

noncomputable def Bi.val : Bi → Value
  | .range => .type "range"
  | .list => .type "list"
  | b => .builtin b.name
theorem bi_lenW {v : V} {cv : Value} (h : lenV σ.mem v Q) (r : Rep G Γ frz σ s) (hv : RV s.heap cv v) : wpAny (model G.prog G.w) A (call (.builtin "len") [cv]) (PO G Γ frz σ s Q) NoE s := by
  cases v <;> first | exact False.elim h | skip
  · exact hv.eS fun _ => P.len_str (by rw [mkS_length]; exact Int.not_le.mpr (small63 h.1)) (by rw [mkS_length]; exact PO.pure r (.int _ _) h.2)
  · exact hv.eT fun _ _ _ g rs => have e := rs.length.symm.trans (Array.length_toList ..); PyProof.Rows.len_tuple ⟨_, g, rfl, _, rfl⟩ (by rw [← e]; exact small63 h.1) (by rw [← e]; exact PO.pure r (.int _ _) h.2)
  · obtain ⟨vs, h0, h1, h2⟩ := h
    obtain ⟨arr, g, rs⟩ := r.anyList h0
    have e := rs.length.symm.trans (Array.length_toList ..)
    exact hv.eO (Calls.call_len_list g (by rw [← e]; exact small63 h1) (by rw [← e]; exact PO.pure r (.int _ _) h2))
theorem bi_minW {a b : Int} {t u : Tok} (hA : Rm A) (h : Q (.int (if b < a then b else a)) σ.mem) (r : Rep G Γ frz σ s) : wpAny (model G.prog G.w) A (call (.builtin "min") [.int a t, .int b u]) (PO G Γ frz σ s Q) NoE s := by
  refine min_two_ints hA.hd fun h' tk k => ?_
  split
  · rename_i c; rw [if_pos c] at h; exact ⟨_, _, .int _ _, r.grow k, .of k, h⟩
  · rename_i c; rw [if_neg c] at h; exact ⟨_, _, .int _ _, r.grow k, .of k, h⟩
theorem bi_maxW {a b : Int} {t u : Tok} (hA : Rm A) (h : Q (.int (if a < b then b else a)) σ.mem) (r : Rep G Γ frz σ s) : wpAny (model G.prog G.w) A (call (.builtin "max") [.int a t, .int b u]) (PO G Γ frz σ s Q) NoE s := by
  refine max_two_ints hA.hd fun h' tk k => ?_
  split
  · rename_i c; rw [if_pos c] at h; exact ⟨_, _, .int _ _, r.grow k, .of k, h⟩
  · rename_i c; rw [if_neg c] at h; exact ⟨_, _, .int _ _, r.grow k, .of k, h⟩
theorem Rep.intList (r : Rep G Γ frz σ s) {l : Addr} {ns : List Int} (h0 : σ.mem l = some (.list (ns.map V.int)) ∨ ∃ o, σ.mem l = some (.ro o (ns.map V.int))) : ∃ xs, s.heap.IsList l (intItems xs) ∧ ns = xs.toList.map (·.1) := by
  obtain ⟨arr, g, rs⟩ := r.anyList h0
  have hi := ints_of _ rs
  obtain ⟨xs, e⟩ := hi.allInts.items
  rw [Array.toArray_toList] at e
  exact ⟨xs, by rw [← e]; exact g, by rw [← hi.numsOf, ← nums_intItems, ← e]⟩
theorem bi_maxL {v : V} {cv : Value} (hA : Rm A) (h : maxV σ.mem v Q) (r : Rep G Γ frz σ s) (hv : RV s.heap cv v) : wpAny (model G.prog G.w) A (call (.builtin "max") [cv]) (PO G Γ frz σ s Q) NoE s := by
  obtain ⟨l, rfl, ns, h0, h1, h2⟩ := asO_inv h
  obtain ⟨xs, hl, hns⟩ := r.intList (.inl h0)
  have hsz : ns.length = xs.size := by rw [hns, List.length_map, Array.length_toList]
  refine hv.eO (max_intList hA.hd hl (hsz ▸ h1) fun v h' tk hv hk => ?_)
  obtain ⟨t, rfl⟩ := intItems_at hv
  obtain ⟨g1, g2⟩ := argBest_gt (numAt xs) (xs.size - 1)
  refine ⟨_, _, .int _ _, r.grow hk, .of hk, h2 _ ?_ fun a ha => ?_⟩
  · rw [hns, numAt_eq]; exact getD_mem (by rw [List.length_map, Array.length_toList]; omega)
  · rw [hns] at ha
    obtain ⟨j, hj, rfl⟩ := mem_getD ha
    rw [List.length_map, Array.length_toList] at hj
    rw [← numAt_eq]; exact g2 j (by omega)
theorem bi_sumW {v : V} {cv : Value} (hA : Rm A) (h : sumV σ.mem v Q) (r : Rep G Γ frz σ s) (hv : RV s.heap cv v) : wpAny (model G.prog G.w) A (call (.builtin "sum") [cv]) (PO G Γ frz σ s Q) NoE s := by
  obtain ⟨l, rfl, ns, h0, h2⟩ := asO_inv h
  obtain ⟨xs, hl, hns⟩ := r.intList h0
  refine hv.eO (sum_intListG hA.hd hl fun h' tk t' hk => ⟨_, _, .int _ _, r.grow hk, .of hk, ?_⟩)
  rw [preSum_eq, List.take_of_length_le (by rw [List.length_map, Array.length_toList]; exact Nat.le_refl _), ← hns]
  exact h2
theorem bi_rng3 {v u w : V} {cv cu cw : Value} (h : ordI v u fun a b => asI w fun c => tiny a ∧ tiny b ∧ tiny c ∧ 0 < c ∧ Q (.rng a b c) σ.mem) (r : Rep G Γ frz σ s) (hv : RV s.heap cv v) (hu : RV s.heap cu u) (hw : RV s.heap cw w) :
    wpAny (model G.prog G.w) A (call (.type "range") [cv, cu, cw]) (PO G Γ frz σ s Q) NoE s :=
  ord_e (M := fun cv cu => wpAny (model G.prog G.w) A (call (.type "range") [cv, cu, cw]) (PO G Γ frz σ s Q) NoE s) h hv hu fun _ _ _ _ h => by
    obtain ⟨z, rfl, _, _, h3, h4, h5⟩ := asI_inv h
    exact hw.eI fun _ => call_range_3 (Int.ne_of_gt h4) (PO.newRng r h5) (.inl (PyProof.noPylong_small (by unfold tiny at h3; omega)))
theorem bi_lstW {v : V} {cv : Value} (h : listV σ.mem v Q) (r : Rep G Γ frz σ s) (hv : RV s.heap cv v) : wpAny (model G.prog G.w) A (call (.type "list") [cv]) (PO G Γ frz σ s Q) NoE s := by
  cases v <;> first | exact False.elim h | skip
  · exact hv.eT fun _ _ _ g rs => call_list_seq _ (.inr rfl) g rfl rfl (fun h' c k g' => ⟨.obj _, _, .obj _, r.fresh (Nat.le_refl _) k (.list g' (rs.tk (.of k))), .of k, h.2 _ (r.none_of_ge (Nat.le_refl _)).1⟩)
      (by rw [← Array.length_toList, rs.length]; exact small_line h.1)
  · obtain ⟨vs, h0, h1, h2⟩ := h
    obtain ⟨_, _, g, rs, e⟩ := (r.hmem _ _ h0).l
    exact hv.eO (call_list_seq _ (.inl rfl) g rfl rfl (fun h' c k g' => ⟨.obj _, _, .obj _, r.fresh (Nat.le_refl _) k (.list g' (rs.tk (.of k))), .of k, h2 _ (r.none_of_ge (Nat.le_refl _)).1⟩)
      (by rw [e]; exact small_line h1))
theorem s_bi {b : Bi} {vs : List V} {cvs : List Value} (hA : Rm A) (_ok : Γ.ok) (h : wpBi σ.mem b vs Q) (r : Rep G Γ frz σ s) (hv : RVs s.heap cvs vs) :
    wpAny (model G.prog G.w) A (call b.val cvs) (PO G Γ frz σ s Q) NoE s := by
  cases b <;> first | exact False.elim h | skip
  · obtain ⟨v, rfl, h⟩ := arg1_inv h
    exact hv.e1 fun _ a => bi_lenW h r a
  · obtain ⟨v, u, rfl, h⟩ := arg2_inv h
    exact hv.e2 fun _ _ a c => ord_e (M := fun cv cu => wpAny (model G.prog G.w) A (call (.builtin "min") [cv, cu]) (PO G Γ frz σ s Q) NoE s) h a c fun _ _ _ _ h => bi_minW hA h r
  · obtain ⟨v, rfl, h⟩ | ⟨v, u, rfl, h⟩ := arg12_inv h
    · exact hv.e1 fun _ a => bi_maxL hA h r a
    · exact hv.e2 fun _ _ a c => ord_e (M := fun cv cu => wpAny (model G.prog G.w) A (call (.builtin "max") [cv, cu]) (PO G Γ frz σ s Q) NoE s) h a c fun _ _ _ _ h => bi_maxW hA h r
  · obtain ⟨v, rfl, h⟩ := arg1_inv h
    exact hv.e1 fun _ a => bi_sumW hA h r a
  · obtain ⟨v, rfl, h⟩ | ⟨v, u, rfl, h⟩ | ⟨v, u, w, rfl, h⟩ := arg13_inv h
    · obtain ⟨x, rfl, h⟩ := asI_inv h
      exact hv.e1 fun _ a => a.eI (M := fun c => wpAny (model G.prog G.w) A (call (.type "range") [c]) (PO G Γ frz σ s Q) NoE s) fun _ => call_range_1 (PO.newRng r h.2)
    · exact hv.e2 fun _ _ a c => ord_e (M := fun cv cu => wpAny (model G.prog G.w) A (call (.type "range") [cv, cu]) (PO G Γ frz σ s Q) NoE s) h a c fun _ _ _ _ h => call_range_2 (PO.newRng r h.2.2)
    · exact hv.e3 fun _ _ _ a c e => bi_rng3 h r a c e
  · obtain ⟨v, rfl, h⟩ := arg1_inv h
    exact hv.e1 fun _ a => bi_lstW h r a

theorem at_iff (x y : Tx) (i : Nat) : StrLaws.At (mkS x) (mkS y) (mkS x).length i ↔ Occ x y i := by
  unfold StrLaws.At Occ
  rw [StrLaws.subAt_eq, mkS_length, mkS_length]
  simp only [beq_iff_eq, ← List.map_drop, ← List.map_take]
  constructor
  · rintro ⟨a, b⟩; exact ⟨a, (List.map_inj_right fun x y e => toNat_inj e).mp b⟩
  · rintro ⟨a, b⟩; exact ⟨a, by rw [b]⟩
theorem find_is (x y : Tx) (k : Nat) : FindIs x y k (match Builtin.Str.occurrences (mkS x) (mkS y) k (mkS x).length 1 with | i :: _ => (i : Int) | [] => -1) := by
  rcases StrLaws.occ_head_from (mkS x) (mkS y) k 1 (Nat.le_refl _) with ⟨e, h⟩ | ⟨i, r, e, h1, h2, h3⟩
  · rw [e]; exact .inl ⟨rfl, fun i hi q => h i hi ((at_iff x y i).mpr q)⟩
  · rw [e]; exact .inr ⟨i, rfl, h1, (at_iff x y i).mp h2, fun j a b q => h3 j a b ((at_iff x y j).mpr q)⟩

theorem starts_eq (x y : Tx) : (decide (0 + (mkS y).length ≤ (mkS x).length) && Builtin.Str.subAt (mkS x) (mkS y) 0) = decide (x.take y.length = y) := by
  rw [Bool.eq_iff_iff, Bool.and_eq_true, decide_eq_true_eq, decide_eq_true_eq, StrLaws.subAt_eq, mkS_length, mkS_length]
  simp only [beq_iff_eq, ← List.map_take, List.drop_zero]
  constructor
  · rintro ⟨_, b⟩; exact (List.map_inj_right fun x y e => toNat_inj e).mp b
  · intro b; exact ⟨by have := congrArg List.length b; rw [List.length_take] at this; omega, by rw [b]⟩
theorem ends_eq (x y : Tx) : (decide (0 + (mkS y).length ≤ (mkS x).length) && Builtin.Str.subAt (mkS x) (mkS y) ((mkS x).length - (mkS y).length)) = decide (y.length ≤ x.length ∧ x.drop (x.length - y.length) = y) := by
  rw [Bool.eq_iff_iff, Bool.and_eq_true, decide_eq_true_eq, decide_eq_true_eq, StrLaws.subAt_eq, mkS_length, mkS_length]
  simp only [beq_iff_eq, ← List.map_take, ← List.map_drop]
  constructor
  · rintro ⟨a, b⟩
    have := (List.map_inj_right fun x y e => toNat_inj e).mp b
    exact ⟨by omega, by rw [List.take_of_length_le (by rw [List.length_drop]; omega)] at this; exact this⟩
  · rintro ⟨a, b⟩; exact ⟨by omega, by rw [b, List.take_length]⟩
theorem fromIndex_nn {n : Nat} {i : Int} (h : 0 ≤ i) : fromIndex n i = i.toNat := by unfold fromIndex; rw [if_neg (by omega)]; congr 1; omega

/-- the built-in's id -/
noncomputable def Me.id (m : Me) : String := match m with
  | .find => "str.find" | .startswith => "str.startswith" | .endswith => "str.endswith" | .join => "str.join"
  | .append => "list.append" | .pop => "list.pop" | .insert => "list.insert"

theorem noDict {h : Heap} {l : Addr} {o : Obj} (g : h.get? l = some o) (d : o.dict = none) : ∀ a, Value.ref l = .ref a → ∃ o, h.get? a = some o ∧ o.dict = none := fun a e => by cases e; exact ⟨_, g, d⟩
theorem listT {s : Shared} {l : Addr} {arr : Array Value} {n : Nat} (g : s.heap.get? l = some { cls := .type "list", data := .seq arr n }) : s.TypeIs (.ref l) "list" := ⟨_, g, rfl⟩
theorem Rep.listAt (r : Rep G Γ frz σ s) {a : Addr} (h : ∃ l, σ.mem a = some (.list l)) : s.TypeIs (.ref a) "list" ∧ ∀ b, Value.ref a = .ref b → ∃ o, s.heap.get? b = some o ∧ o.dict = none :=
  let ⟨_, e⟩ := h; let ⟨_, _, g, _, _⟩ := (r.hmem _ _ e).l; ⟨listT g, noDict g rfl⟩
theorem s_getMe {v : V} {cv : Value} {m : Me} {pl : Sem Bool} {E : Value → Shared → Prop} {R : Value × List Value → Shared → Prop} (h : meOk σ.mem v m) (r : Rep G Γ frz σ s) (hv : RV s.heap cv v) (q : R (.builtin (m.id), [cv]) s) :
    wpAny (model G.prog G.w) A (getMethod cv (PySem.Str.ofString m.name) pl) R E s := by
  cases m
  · obtain ⟨x, rfl, _⟩ := asS_inv h; replace q : R (.builtin "str.find", [cv]) s := q; show wpAny _ A (getMethod cv (PySem.Str.ofString "find") pl) R E s
    revert q; exact hv.eS fun _ q => by with_reducible exact GM.find q
  · obtain ⟨x, rfl, _⟩ := asS_inv h; replace q : R (.builtin "str.startswith", [cv]) s := q; show wpAny _ A (getMethod cv (PySem.Str.ofString "startswith") pl) R E s
    revert q; exact hv.eS fun _ q => by with_reducible exact GM.startswith q
  · obtain ⟨x, rfl, _⟩ := asS_inv h; replace q : R (.builtin "str.endswith", [cv]) s := q; show wpAny _ A (getMethod cv (PySem.Str.ofString "endswith") pl) R E s
    revert q; exact hv.eS fun _ q => by with_reducible exact GM.endswith q
  · obtain ⟨x, rfl, _⟩ := asS_inv h; replace q : R (.builtin "str.join", [cv]) s := q; show wpAny _ A (getMethod cv (PySem.Str.ofString "join") pl) R E s
    revert q; exact hv.eS fun _ q => by with_reducible exact GM.join q
  · obtain ⟨x, rfl, h⟩ := asO_inv h; replace q : R (.builtin "list.append", [cv]) s := q; have h := r.listAt h; show wpAny _ A (getMethod cv (PySem.Str.ofString "append") pl) R E s
    revert q; exact hv.eO fun q => by with_reducible exact getMethod_builtin h.1 PySem.F.plainAttrs_list PySem.F.slot_list_append PySem.F.type_list_append h.2 q
  · obtain ⟨x, rfl, h⟩ := asO_inv h; replace q : R (.builtin "list.pop", [cv]) s := q; have h := r.listAt h; show wpAny _ A (getMethod cv (PySem.Str.ofString "pop") pl) R E s
    revert q; exact hv.eO fun q => by with_reducible exact getMethod_builtin h.1 PySem.F.plainAttrs_list PySem.F.slot_list_pop PySem.F.type_list_pop h.2 q
  · obtain ⟨x, rfl, h⟩ := asO_inv h; replace q : R (.builtin "list.insert", [cv]) s := q; have h := r.listAt h; show wpAny _ A (getMethod cv (PySem.Str.ofString "insert") pl) R E s
    revert q; exact hv.eO fun q => by with_reducible exact getMethod_builtin h.1 PySem.F.plainAttrs_list PySem.F.slot_list_insert PySem.F.type_list_insert h.2 q

theorem strs_of {h : Heap} : ∀ (xs : List Tx) {cs : List Value}, RVs h cs (xs.map V.str) → StrsAre cs (xs.map mkS)
  | [], _, r => r.e0 .nil
  | _ :: xs, _, r => r.eC (N := fun cs => StrsAre cs _) fun _ _ a b => a.eS (M := fun c => StrsAre (c :: _) _) fun _ => .cons _ _ (strs_of xs b)
theorem join_flat : ∀ xs : List Tx, PySem.Str.join (mkS []) (xs.map mkS) = mkS xs.flatten
  | [] => rfl
  | [x] => by simp [PySem.Str.join]
  | x :: y :: xs => by
    have ih := join_flat (y :: xs)
    rw [List.map_cons, List.map_cons, PySem.Str.join, ← List.map_cons, ih, mkS_append, mkS_append, List.append_nil]
    · rfl
    · intro h; cases h
theorem sum_map (xs : List Tx) : ((xs.map mkS).map (·.length)).sum = xs.flatten.length := by
  induction xs with
  | nil => rfl
  | cons x xs ih => simp only [List.map_cons, List.sum_cons, List.flatten_cons, List.length_append, ih, mkS_length]
theorem me_joinW {x : Tx} {v : V} {cv : Value} {t : Tok} (h : x = [] ∧ asO v fun a => ∃ xs : List Tx, σ.mem a = some (.list (xs.map V.str)) ∧ xs.length ≤ 500000 ∧ xs.flatten.length ≤ 500000 ∧ Q (.str xs.flatten) σ.mem) (r : Rep G Γ frz σ s) (hv : RV s.heap cv v) :
    wpAny (model G.prog G.w) A (call (.builtin "str.join") [.str (mkS x) t, cv]) (PO G Γ frz σ s Q) NoE s := by
  obtain ⟨rfl, h⟩ := h
  obtain ⟨l, rfl, xs, e, h1, h2, h3⟩ := asO_inv h
  obtain ⟨_, n, g, rs, _⟩ := (r.hmem _ _ e).l
  refine hv.eO (join_listW (ys := xs.map mkS) ⟨_, g, rfl, n, rfl⟩ (strs_of _ rs) (by rw [mkS_length]; decide) (by rw [sum_map, List.length_map]; omega) fun t' k => ?_)
  rw [show PySem.Txt.join (mkS []) (xs.map mkS) = mkS xs.flatten from (StrLaws.glued_eq_join _ _).trans (join_flat xs)]
  exact PO.pure r (.str _ _) h3
/-- a list is changed -/
theorem PO.upd (ok : Γ.ok) (r : Rep G Γ frz σ s) {a : Addr} {l l' : List V} {arr : Array Value} {n : Nat} {f : Array Value → Array Value} (e : σ.mem a = some (.list l)) (g : s.heap.get? a = some { cls := .type "list", data := .seq arr n })
    {v : V} {cv : Value} (rv : ∀ h', TK s.heap h' → RV h' cv v) (rs : ∀ h', TK s.heap h' → RVs h' (f arr).toList l') (q : Q v (Mine.upd σ.mem a (.list l'))) : PO G Γ frz σ s Q cv { s with heap := s.heap.update a (Obj.mapSeq f) } :=
  have p := r.change ok (tk := s.toks) (o := .list l') e (h' := s.heap.update a (Obj.mapSeq f)) (fun _ _ hb e => (Heap.get?_update_other _ _ (Ne.symm hb)).trans e) (fun k => .list (Heap.get?_update_self _ g rfl) (rs _ k))
  ⟨v, _, rv _ p.2, p.1, p.2, q⟩
theorem me_appW {a : Addr} {v : V} {cv : Value} (ok : Γ.ok) (h : ∃ vs, σ.mem a = some (.list vs) ∧ small vs.length ∧ Q .none (Mine.upd σ.mem a (.list (vs ++ [v])))) (r : Rep G Γ frz σ s) (hv : RV s.heap cv v) :
    wpAny (model G.prog G.w) A (call (.builtin "list.append") [.ref a, cv]) (PO G Γ frz σ s Q) NoE s := by
  obtain ⟨l, e, h1, h2⟩ := h
  obtain ⟨arr, n, g, rs, hz⟩ := (r.hmem _ _ e).l
  refine call_meets PySem.F.slot_list_append ⟨_, g, rfl⟩ PySem.F.entry_list_append (PySem.F.args_list_append_2 _ _) (AutoListH.list_append_list_val_0 _ _ _ _ (by rw [hz]; exact small_line h1)) ⟨g, ?_⟩
  exact PO.upd ok r e g (fun _ _ => .none) (fun h' k => by rw [Array.toList_push]; exact (rs.tk k).append (.one (hv.tk k))) h2
theorem me_popW {a : Addr} (ok : Γ.ok) (h : ∃ vs v, σ.mem a = some (.list (vs ++ [v])) ∧ small vs.length ∧ Q v (Mine.upd σ.mem a (.list vs))) (r : Rep G Γ frz σ s) :
    wpAny (model G.prog G.w) A (call (.builtin "list.pop") [.ref a]) (PO G Γ frz σ s Q) NoE s := by
  obtain ⟨vs, v, e, h1, h2⟩ := h
  obtain ⟨arr, n, g, rs, hz⟩ := (r.hmem _ _ e).l
  rw [List.length_append, List.length_singleton] at hz
  obtain ⟨cv, g1, g2⟩ := rs.get (i := vs.length) (x := v) List.getElem?_concat_length
  have hz' : arr.size - 1 = vs.length := by rw [hz]; rfl
  refine call_meets PySem.F.slot_list_pop ⟨_, g, rfl⟩ PySem.F.entry_list_pop (PySem.F.args_list_pop_1 _) (MeetsSeq.list_pop_last _ _ _ cv (by rw [hz', ← Array.getElem?_toList]; exact g1) (by rw [hz, sizeLine_eq]; exact Nat.le_trans (Nat.succ_le_succ h1) (by decide))) ⟨g, ?_⟩
  refine PO.upd ok r e g (fun _ k => g2.tk k) (fun h' k => ?_) h2
  have t := (rs.tk k).take vs.length
  rw [List.take_left' rfl] at t
  rw [Array.toList_eraseIdxIfInBounds, List.eraseIdx_eq_take_drop_succ, hz', List.drop_of_length_le (by rw [Array.length_toList, hz]; exact Nat.le_refl _), List.append_nil]
  exact t
theorem ins_arr {arr : Array Value} {k : Int} {x : Value} (h0 : 0 ≤ k) : ((arr.extract 0 (if k < 0 then (k + (arr.size : Int)).toNat else min k.toNat arr.size)).push x ++ arr.extract (if k < 0 then (k + (arr.size : Int)).toNat else min k.toNat arr.size)).toList = arr.toList.take k.toNat ++ x :: arr.toList.drop k.toNat := by
  rw [if_neg (Int.not_lt.mpr h0), Array.toList_append, Array.toList_push, Array.toList_extract, Array.toList_extract, List.extract_eq_take_drop, List.extract_eq_take_drop, List.append_assoc, ← Array.length_toList, List.drop_zero, Nat.sub_zero]
  by_cases hc : k.toNat ≤ arr.toList.length
  · rw [Nat.min_eq_left hc, List.take_of_length_le (l := arr.toList.drop _) (by rw [List.length_drop]; exact Nat.le_refl _)]; rfl
  · have hc := Nat.le_of_not_le hc
    rw [Nat.min_eq_right hc, List.take_of_length_le hc, List.drop_of_length_le hc, List.drop_of_length_le (Nat.le_refl _), List.take_length, List.take_nil]; rfl
theorem me_insW {a : Addr} {i v : V} {ci cv : Value} (ok : Γ.ok) (h : asI i fun k => 0 ≤ k ∧ tiny k ∧ ∃ vs, σ.mem a = some (.list vs) ∧ small vs.length ∧ Q .none (Mine.upd σ.mem a (.list (vs.take k.toNat ++ v :: vs.drop k.toNat)))) (r : Rep G Γ frz σ s) (hi : RV s.heap ci i) (hv : RV s.heap cv v) :
    wpAny (model G.prog G.w) A (call (.builtin "list.insert") [.ref a, ci, cv]) (PO G Γ frz σ s Q) NoE s := by
  obtain ⟨k, rfl, h0, hk, l, e, h1, h2⟩ := asI_inv h
  obtain ⟨arr, n, g, rs, hz⟩ := (r.hmem _ _ e).l
  refine hi.eI fun _ => call_meets PySem.F.slot_list_insert ⟨_, g, rfl⟩ PySem.F.entry_list_insert (PySem.F.args_list_insert_3 _ _ _) (AutoListH.list_insert_list_int_val_1 _ _ _ _ _ _ (by rw [tiny_fit hk]; decide) (by rw [hz]; exact small_line h1)) ⟨g, ?_⟩
  exact PO.upd ok r e g (fun _ _ => .none) (fun h' kk => by rw [ins_arr h0]; exact ((rs.tk kk).take _).append (.cons (hv.tk kk) ((rs.tk kk).drop _))) h2
theorem me_findW {x : Tx} {t : Tok} {vs : List V} {cvs : List Value} (h : arg12 vs (fun v => asS v fun t => small x.length ∧ small t.length ∧ ∀ r, FindIs x t 0 r → Q (.int r) σ.mem) fun v u => asS v fun t => asI u fun i => small x.length ∧ small t.length ∧ 0 ≤ i ∧ ∀ r, FindIs x t i.toNat r → Q (.int r) σ.mem)
    (r : Rep G Γ frz σ s) (hv : RVs s.heap cvs vs) : wpAny (model G.prog G.w) A (call (.builtin "str.find") (.str (mkS x) t :: cvs)) (PO G Γ frz σ s Q) NoE s := by
  obtain ⟨v, rfl, h⟩ | ⟨v, u, rfl, h⟩ := arg12_inv h
  · obtain ⟨y, rfl, _, _, h3⟩ := asS_inv h
    refine hv.e1 fun _ a => a.eS (M := fun c => wpAny (model G.prog G.w) A (call (.builtin "str.find") [.str (mkS x) t, c]) (PO G Γ frz σ s Q) NoE s) fun _ => ?_
    exact call_meets PySem.F.slot_str_find (typeIs_str _ _ _) PySem.F.entry_str_find (PySem.F.args_str_find_2 _ _) (gives_str_find _ _ _ _).meets (PO.pure r (.int _ _) (h3 _ (find_is _ _ 0)))
  · obtain ⟨y, rfl, h⟩ := asS_inv h
    obtain ⟨i, rfl, _, _, h0, h3⟩ := asI_inv h
    refine hv.e2 fun _ _ a c => a.eS (M := fun d => wpAny (model G.prog G.w) A (call (.builtin "str.find") [.str (mkS x) t, d, _]) (PO G Γ frz σ s Q) NoE s) fun _ => ?_
    refine c.eI (M := fun d => wpAny (model G.prog G.w) A (call (.builtin "str.find") [.str (mkS x) t, .str (mkS y) _, d]) (PO G Γ frz σ s Q) NoE s) fun _ => ?_
    exact call_meets PySem.F.slot_str_find (typeIs_str _ _ _) PySem.F.entry_str_find (PySem.F.args_str_find_3 _ _ _) (gives_str_find_from _ _ _ _ _ _).meets (PO.pure r (.int _ _) (by rw [fromIndex_nn h0]; exact h3 _ (find_is _ _ _)))
theorem s_me {v : V} {m : Me} {vs : List V} {cv : Value} {cvs : List Value} (ok : Γ.ok) (h : wpMe σ.mem v m vs Q) (r : Rep G Γ frz σ s) (hv : RV s.heap cv v) (hvs : RVs s.heap cvs vs) :
    wpAny (model G.prog G.w) A (call (.builtin (m.id)) (cv :: cvs)) (PO G Γ frz σ s Q) NoE s := by
  cases m
  · obtain ⟨x, rfl, h⟩ := asS_inv h
    exact hv.eS fun _ => me_findW h r hvs
  · obtain ⟨x, rfl, h⟩ := asS_inv h
    obtain ⟨v, rfl, h⟩ := arg1_inv h
    obtain ⟨y, rfl, h⟩ := asS_inv h
    exact hv.eS fun t => hvs.e1 fun _ a => a.eS (M := fun c => wpAny (model G.prog G.w) A (call (.builtin "str.startswith") [.str (mkS x) t, c]) (PO G Γ frz σ s Q) NoE s) fun _ =>
      call_meets PySem.F.slot_str_startswith (typeIs_str _ _ _) PySem.F.entry_str_startswith (PySem.F.args_str_startswith_2 _ _) (gives_str_startswith _ _ _ _).meets (PO.here r (.bool _) (by rw [starts_eq]; exact h))
  · obtain ⟨x, rfl, h⟩ := asS_inv h
    obtain ⟨v, rfl, h⟩ := arg1_inv h
    obtain ⟨y, rfl, h⟩ := asS_inv h
    exact hv.eS fun t => hvs.e1 fun _ a => a.eS (M := fun c => wpAny (model G.prog G.w) A (call (.builtin "str.endswith") [.str (mkS x) t, c]) (PO G Γ frz σ s Q) NoE s) fun _ =>
      call_meets PySem.F.slot_str_endswith (typeIs_str _ _ _) PySem.F.entry_str_endswith (PySem.F.args_str_endswith_2 _ _) (gives_str_endswith _ _ _ _).meets (PO.here r (.bool _) (by rw [ends_eq]; exact h))
  · obtain ⟨x, rfl, h0, h⟩ := asS_inv h
    obtain ⟨v, rfl, h⟩ := arg1_inv h
    exact hv.eS fun t => hvs.e1 fun _ a => me_joinW ⟨h0, h⟩ r a
  · obtain ⟨a, rfl, h⟩ := asO_inv h
    obtain ⟨v, rfl, h⟩ := arg1_inv h
    exact hv.eO (hvs.e1 fun _ a => me_appW ok h r a)
  · obtain ⟨a, rfl, rfl, h'⟩ := asO_inv h
    exact hv.eO (hvs.e0 (me_popW ok (show ∃ vs v, σ.mem a = some (.list (vs ++ [v])) ∧ small vs.length ∧ Q v (Mine.upd σ.mem a (.list vs)) from h') r))
  · obtain ⟨a, rfl, h⟩ := asO_inv h
    obtain ⟨i, v, rfl, h⟩ := arg2_inv h
    exact hv.eO (hvs.e2 fun _ _ a c => me_insW ok h r a c)
end
end Mine
set_option autoImplicit false
set_option maxRecDepth 10000
namespace Mine
open PySem PyProof.Rows PySem.W

section
variable {G : GS} {A : Around} {Γ : FE} {frz : Frz} {σ : St} {s : Shared} {Q : V → Mem → Prop}

theorem fields_get {h : Heap} {n : String} : ∀ {es : List DictEntry} {fs : List (PySem.Str × V)}, Fields h es fs →
    (∀ v, lookF n fs = some v → ∃ cv, getL (PySem.Str.ofString n) es = some (some cv) ∧ RV h cv v) ∧ (lookF n fs = none → getL (PySem.Str.ofString n) es = some none)
  | [], [], _ => ⟨fun v e => by simp [lookF] at e, fun _ => rfl⟩
  | e :: es, (x, u) :: fs, ⟨⟨t, hk⟩, hr, hf⟩ => by
    obtain ⟨ih1, ih2⟩ := fields_get (n := n) hf
    have hi : e.key.isStr (PySem.Str.ofString n) = (x == PySem.Str.ofString n) := by rw [hk]; rfl
    have href : e.refKey = false := by unfold DictEntry.refKey; rw [hk]
    constructor
    · intro v hl
      unfold lookF at hl
      unfold getL
      rw [List.find?_cons, hi]
      split at hl
      · rename_i c
        rw [beq_iff_eq.mpr c]
        cases hl
        exact ⟨_, rfl, hr⟩
      · rename_i c
        rw [beq_eq_false_iff_ne.mpr c]
        obtain ⟨cv, g, q⟩ := ih1 v hl
        refine ⟨cv, ?_, q⟩
        unfold getL at g
        split at g
        · rename_i c2; rw [c2]; exact g
        · split at g <;> cases g
    · intro hl
      unfold lookF at hl
      unfold getL
      rw [List.find?_cons, hi]
      split at hl
      · cases hl
      · rename_i c
        rw [beq_eq_false_iff_ne.mpr c]
        have g := ih2 hl
        unfold getL at g
        split at g
        · cases g
        · rename_i c2
          rw [c2]
          split at g
          · cases g
          · rename_i c3
            simp only [List.any_cons, href, Bool.false_or]
            rw [if_neg c3]
  | [], _ :: _, x => x.elim
  | _ :: _, [], x => x.elim

structure PC.ok (G : GS) (P : PC) : Prop where
  hd : hasDictIn G.K P.cls = true
  get : ∀ n, P.fld n = true → plainGet G.K P.cls (PySem.Str.ofString n) = true ∧ findIn G.K (.ref P.cls) (PySem.Str.ofString n) = some none ∧ takerIn G.K P.cls (PySem.Str.ofString n) = some none
  cc : ∀ n v, P.cc n = some v → plainGet G.K P.cls (PySem.Str.ofString n) = true ∧ copiedNames.contains (PySem.Str.ofString n) = false ∧
    ∃ a, findIn G.K (.ref P.cls) (PySem.Str.ofString n) = some (some a) ∧ specialIn G.K a "__get__" = some none ∧ handedIn a = true ∧ ∀ h, RV h a v
  set : findIn G.K (.ref P.cls) "__setattr__" = some (some (.builtin "object.__setattr__"))
  over : plainOver G.K P.cls = true

theorem Rep.kin (gok : G.ok) (r : Rep G Γ frz σ s) : G.K.In s.heap := fun a o e => r.hfrz _ _ (r.hbase _ _ (gok.k a o e))

theorem rv_handed {h : Heap} {cv : Value} {v : V} (r : RV h cv v) : handedIn cv = true := by cases r <;> rfl

theorem inst_at (r : Rep G Γ frz σ s) {C a d : Addr} {fs : List (PySem.Str × V)} (e1 : σ.mem a = some (.inst C d)) (e2 : σ.mem d = some (.dict fs)) :
    ∃ es n, InstAt s.heap a (instObj C d) C (some (dictOf es n)) ∧ Fields s.heap es fs ∧ s.heap.get? d = some (dictOf es n) := by
  cases r.hmem _ _ e1 with
  | inst g1 =>
  cases r.hmem _ _ e2 with
  | @dict es n _ g2 hf => exact ⟨es, n, ⟨g1, rfl, rfl, g2⟩, hf, g2⟩

theorem s_attr {P : PC} {v : V} {cv : Value} {n : String} {expr : Bool} {Q : V → Prop} (gok : G.ok) (pok : P.ok G) (h : wpAttr P σ.mem v n Q) (r : Rep G Γ frz σ s) (hv : RV s.heap cv v) :
    wpAny (model G.prog G.w) A (getAttr cv (PySem.Str.ofString n) expr) (PO G Γ frz σ s fun r m => m = σ.mem ∧ Q r) NoE s := by
  unfold wpAttr at h
  split at h
  · obtain ⟨d, fs, e1, e2, h⟩ := h
    cases hv
    obtain ⟨es, k, I, hf, _⟩ := inst_at r e1 e2
    have X := r.kin gok
    obtain ⟨q1, q2⟩ := fields_get (n := _) hf
    split at h
    · rename_i v hl
      obtain ⟨cv, g, rv⟩ := q1 _ hl
      obtain ⟨a1, a2, a3⟩ := pok.get _ h.1
      exact get_value X I (plainGet_of a1).1 (findObj_own pok.hd a2 rfl g) (rv_handed rv) ⟨_, _, rv.tk (.refl _), r.toks _, .refl _, rfl, h.2⟩
    · rename_i hl
      obtain ⟨v, hc, q⟩ := h
      obtain ⟨a1, a2, a, a3, a4, a5, a6⟩ := pok.cc _ _ hc
      exact get_value X I (plainGet_of a1).1 (findObj_cls pok.hd a3 a4 a5 a2 (q2 hl)) a5 ⟨_, _, a6 _, r.toks _, .refl _, rfl, q⟩
  · exact h.elim

theorem Fields.length {h : Heap} : ∀ {es : List DictEntry} {fs : List (PySem.Str × V)}, Fields h es fs → es.length = fs.length
  | [], [], _ => rfl
  | _ :: _, _ :: _, ⟨_, _, f⟩ => by simp [f.length]
  | [], _ :: _, x => x.elim
  | _ :: _, [], x => x.elim
theorem fields_put {h : Heap} {n : String} {hs : Int} {tk : Tok} {cv : Value} {v : V} (rv : RV h cv v) : ∀ {es : List DictEntry} {fs : List (PySem.Str × V)}, Fields h es fs →
    Fields h (putL (PySem.Str.ofString n) hs (.str (PySem.Str.ofString n) tk) cv es) (setF n v fs) ∧ (putL (PySem.Str.ofString n) hs (.str (PySem.Str.ofString n) tk) cv es).length ≤ fs.length + 1
  | [], [], _ => ⟨⟨⟨tk, rfl⟩, rv, trivial⟩, by simp [putL]⟩
  | e :: es, (x, u) :: fs, ⟨⟨t, hk⟩, hr, hf⟩ => by
    obtain ⟨ih1, ih2⟩ := fields_put (n := n) (hs := hs) (tk := tk) rv hf
    have hi : e.key.isStr (PySem.Str.ofString n) = (x == PySem.Str.ofString n) := by rw [hk]; rfl
    unfold putL setF
    rw [hi]
    by_cases c : x = PySem.Str.ofString n
    · rw [if_pos (by simpa using c), if_pos c]
      have hlen : es.length = fs.length := by
        exact hf.length
      exact ⟨⟨⟨t, hk⟩, rv, hf⟩, by simp [hlen]⟩
    · rw [if_neg (by simpa using c), if_neg c]
      exact ⟨⟨⟨t, hk⟩, hr, ih1⟩, by simp; omega⟩
  | [], _ :: _, x => x.elim
  | _ :: _, [], x => x.elim


theorem ns_uniq {h : Heap} {a : Addr} {m m' : PySem.Str → Option Value} (x : h.Ns a m) (y : h.Ns a m') : m = m' := by
  obtain ⟨o, es, ep, e, d, _, f⟩ := x
  obtain ⟨o', es', ep', e', d', _, f'⟩ := y
  rw [e] at e'; cases e'
  rw [d] at d'; cases d'
  funext n; rw [← f, ← f']
theorem s_setattr {P : PC} {a d : Addr} {fs : List (PySem.Str × V)} {v : V} {cv : Value} {n : String} (gok : G.ok) (pok : P.ok G) (ok : Γ.ok) (r : Rep G Γ frz σ s) (e1 : σ.mem a = some (.inst P.cls d)) (e2 : σ.mem d = some (.dict fs))
    (hf : P.fld n = true) (hz : fs.length ≤ 100) (hv : RV s.heap cv v) :
    wpAny (model G.prog G.w) A (setAttr (.ref a) (PySem.Str.ofString n) cv) (fun _ s' => Rep G Γ frz { σ with mem := upd σ.mem d (.dict (setF n v fs)) } s' ∧ TK s.heap s'.heap) NoE s := by
  obtain ⟨es, k, I, hF, g⟩ := inst_at r e1 e2
  obtain ⟨m, nm, _⟩ := r.hns
  have X := r.kin gok
  obtain ⟨q1, q2⟩ := fields_get (n := n) hF
  obtain ⟨a1, a2, a3⟩ := pok.get _ hf
  obtain ⟨p1, p2⟩ := fields_put (n := n) (hs := PyData.keyHash G.w.params (PySem.Str.ofString n)) (tk := s.toks + 1) hv hF
  have hl : (lookIn (PySem.Str.ofString n) (dictOf es k)).isSome = true := by
    rw [lookIn_dict]
    cases hq : lookF n fs with
    | none => rw [q2 hq]; rfl
    | some u => obtain ⟨cu, gu, _⟩ := q1 u hq; rw [gu]; rfl
  have hdL : d ≠ Γ.env.locals := r.mem_ne e2
  have hdb : G.base.get? d = none := by
    cases q : G.base.get? d with
    | none => rfl
    | some o => have := r.hbase _ _ q; rw [r.hmemF _ _ e2] at this; cases this
  have N : News G.base Γ.env.locals s.heap ([] ++ (d, dictOf es k) :: restOf G Γ.env.locals s.heap [d]) := fun p hp => by
    rcases List.mem_cons.mp hp with rfl | hp
    · exact ⟨g, hdL, hdb⟩
    · exact r.rest [d] p hp
  refine set_plain X I pok.set ?_
  refine osa_dict (s := { s with toks := s.toks + 1 }) (r.fr nm) N X I rfl pok.over a3 pok.hd hl (fun _ h => (nomatch h)) (fun p hp => ?_) (putName_dict _ _ _ _ _ _) rfl (Nat.le_trans p2 (by omega)) fun h' F' N' => ?_
  · obtain ⟨b, o⟩ := p
    have := (restOf_mem.mp hp).2.1
    simpa using this
  · have N2 : News G.base Γ.env.locals h' (restOf G Γ.env.locals s.heap [d]) := fun p hp => N' p (List.mem_cons_of_mem _ hp)
    have g' := (N' _ (List.mem_cons_self)).1
    exact r.changeL ok e2 (fun b o hb hl e => r.keep_of_rest F' N2 b o (by simpa using hb) hl e) (fun m' n' => ns_uniq nm n' ▸ F'.ns) (fun k => .dict g' (p1.tk k))
end
end Mine
set_option autoImplicit false
set_option maxRecDepth 10000
namespace Mine
open PySem PyProof.Rows PySem.W

/-- at a call all but the told objects stands still -/
noncomputable def frzIn (σ : St) (s : Shared) : Frz := fun b => match σ.mem b with
  | some _ => none
  | none => s.heap.get? b
theorem frzIn_some {σ : St} {s : Shared} {b : Addr} {o : Obj} : frzIn σ s b = some o ↔ σ.mem b = none ∧ s.heap.get? b = some o := by
  unfold frzIn
  cases σ.mem b <;> simp
/-- what a call hands on -/
noncomputable def PR (G : GS) (frz : Frz) (s : Shared) (Q : V → Mem → Prop) : Value → Shared → Prop :=
  fun cv s' => ∃ v m, RV s'.heap cv v ∧ Rp G frz m s' ∧ TK s.heap s'.heap ∧ Q v m
noncomputable def CallS (G : GS) (A : Around) (f : Value) (vs : List V) (Q : V → Mem → Prop) (m : Mem) : Prop :=
  ∀ Γ frz σ s cvs, FE.ok Γ → Rep G Γ frz σ s → σ.mem = m → RVs s.heap cvs vs → wpAny (model G.prog G.w) A (call f cvs) (PO G Γ frz σ s Q) NoE s
section
variable {G : GS} {A : Around} {Γ : FE} {frz : Frz} {σ : St} {s s' : Shared}
theorem Rep.upIn (r : Rep G Γ frz σ s) {b : Addr} {o : Obj} (e : frz b = some o) : frzIn σ s b = some o := by
  refine frzIn_some.mpr ⟨?_, r.hfrz _ _ e⟩
  cases q : σ.mem b with
  | none => rfl
  | some x => rw [r.hmemF b x q] at e; cases e
theorem Rep.inn (r : Rep G Γ frz σ s) : Rp G (frzIn σ s) σ.mem s :=
  ⟨r.same, fun _ _ e => r.upIn (r.hbase _ _ e), fun _ _ e => r.upIn (r.hkeep _ _ e), fun _ _ e => (frzIn_some.mp e).2, r.hmem, fun a o e => by unfold frzIn; rw [e], r.rp.hsz⟩
theorem Rep.tkIn (r : Rep G Γ frz σ s) {h' : Heap} (k : ∀ b o, frzIn σ s b = some o → h'.get? b = some o) : TK s.heap h' := fun b o e i => by
  cases q : σ.mem b with
  | none => exact k b o (frzIn_some.mpr ⟨q, e⟩)
  | some x =>
    obtain ⟨y, ey, ny⟩ := (r.hmem b x q).obj
    rw [e] at ey; cases ey; exact absurd i ny
/-- back in the frame -/
theorem Rep.back (r : Rep G Γ frz σ s) {G' : GS} (hs0 : G'.s0 = G.s0) {frz' : Frz} {m' : Mem} (r' : Rp G' frz' m' s') (hf : ∀ b o, σ.mem b = none → b = Γ.env.locals ∨ (∃ o', frz b = some o') ∨ (∃ (i : Nat), ∃ x, Γ.vars[i]? = some (x, .own b)) → s.heap.get? b = some o → frz' b = some o)
    (tk : TK s.heap s'.heap) : Rep G Γ frz { σ with mem := m' } s' := by
  have none_of : ∀ b o, frz b = some o → σ.mem b = none := fun b o e => by
    cases q : σ.mem b with
    | none => rfl
    | some x => rw [r.hmemF b x q] at e; cases e
  have out : ∀ b o, frz' b = some o → m' b = none := fun b o g => by
    cases q : m' b with
    | none => rfl
    | some x => have := r'.hmemF b x q; rw [g] at this; cases this
  have F1 : ∀ b o, frz b = some o → frz' b = some o := fun b o e => hf b o (none_of b o e) (.inr (.inl ⟨o, e⟩)) (r.hfrz b o e)
  obtain ⟨m, ⟨o0, es, ep, e0, rest⟩, f⟩ := r.hns
  have FL := hf _ _ r.hlm (.inl rfl) e0
  refine ⟨by rw [← hs0]; exact r'.same, r.hbase, r.hkeep, fun b o e => r'.hfrz _ _ (F1 b o e), r'.hmem, fun a o e => ?_, r.hab, r.hlf, out _ _ FL, ?_, ?_, ?_⟩
  · cases q : frz a with
    | none => rfl
    | some x => have := out a x (F1 a x q); rw [show m' a = some o from e] at this; cases this
  · exact ⟨m, ⟨o0, es, ep, r'.hfrz _ _ FL, rest⟩, fun i x v p q => let ⟨cv, e1, e2⟩ := f i x v p q; ⟨cv, e1, e2.tk tk⟩⟩
  · intro i x c e
    obtain ⟨p, q, o, ov, g, d, f⟩ := r.hown i x c e
    have FC := hf c o q (.inr (.inr ⟨i, x, e⟩)) g
    exact ⟨p, out _ _ FC, o, ov, r'.hfrz _ _ FC, d, fun v z => let ⟨cv, e1, e2⟩ := f v z; ⟨cv, e1, e2.tk tk⟩⟩
  · intro i x c e
    obtain ⟨o, ov, g, d, f⟩ := r.href i x c e
    exact ⟨o, ov, g, d, fun v z => let ⟨cv, e1, e2⟩ := f v z; ⟨cv, e1, e2.tk tk⟩⟩
theorem CallS.of {f : Value} {vs : List V} {Q : V → Mem → Prop} {m : Mem} (h : ∀ frz s cvs, Rp G frz m s → RVs s.heap cvs vs → wpAny (model G.prog G.w) A (call f cvs) (PR G frz s Q) NoE s) : CallS G A f vs Q m := fun Γ frz σ s cvs _ r hm hv => by
  subst hm
  exact wpAny_mono (h _ s cvs r.inn hv) (fun _ _ ⟨v, m, a, b, c, d⟩ => ⟨v, m, a, r.back rfl b (fun _ _ q _ e => frzIn_some.mpr ⟨q, e⟩) c, c, d⟩) fun _ _ x => x
end

structure PC.run (G : GS) (A : Around) (P : PC) : Prop where
  ok : P.ok G
  call : ∀ n, n ∈ G.fns → ∃ f, nsIn G.K mainGlobals (PySem.Str.ofString n) = some (some f) ∧ keepIn G.K f = true ∧ ∀ vs Q m, P.call n vs Q m → CallS G A f vs Q m
  meth : ∀ n, n ∈ G.meths → ∃ f, findIn G.K (.ref P.cls) (PySem.Str.ofString n) = some (some (.ref f)) ∧ isFn G.K (.ref f) = true ∧ plainGet G.K P.cls (PySem.Str.ofString n) = true ∧ keepIn G.K (.ref f) = true ∧
    ∀ vs Q m, P.meth n vs Q m → CallS G A (.ref f) vs Q m
  loc : ∀ v vs Q m, P.loc v vs Q m → ∃ a fo fd, v = .obj a ∧ m a = some (.raw fo) ∧ fo.data = .func fd ∧ CallS G A (.ref a) vs Q m

structure GS.bi (G : GS) : Prop where
  bi : ∀ b : Bi, G.mg (PySem.Str.ofString b.name) = none ∧ G.mb (PySem.Str.ofString b.name) = some b.val

structure SC.ok (G : GS) (C : SC) (Γ : FE) : Prop where
  cells : ∀ (i : Nat) x, x ∈ C.cells → Γ.vars[i]? ≠ some (x, .loc)
  fns : ∀ n, n ∈ C.fns → n ∈ G.fns
  meths : ∀ n, n ∈ C.meths → n ∈ G.meths
  vars : ∀ (i : Nat) x r, C.vars[i]? = some (x, r) → ∃ k, Γ.vars[i]? = some (x, k) ∧ (r = false → ∀ c, k ≠ .ref c)
  names : ∀ x, C.names.lookup x = some .globalImplicit → Γ.env.kindOf x = some .globalImplicit

section
variable {G : GS} {A : Around} {Γ : FE} {frz : Frz} {σ : St} {s : Shared}

theorem PV.after {s₁ s' : Shared} {Q : V → St → Prop} {cv : Value} (k : TK s.heap s₁.heap) (h : PV G Γ frz s₁ Q cv s') : PV G Γ frz s Q cv s' :=
  let ⟨v, σ', a, b, c, d⟩ := h; ⟨v, σ', a, b, k.trans c, d⟩
theorem PVs.after {s₁ s' : Shared} {Q : List V → St → Prop} {cv : List Value} (k : TK s.heap s₁.heap) (h : PVs G Γ frz s₁ Q cv s') : PVs G Γ frz s Q cv s' :=
  let ⟨v, σ', a, b, c, d⟩ := h; ⟨v, σ', a, b, k.trans c, d⟩
theorem PB.after {s₁ s' : Shared} {Q : Bool → St → Prop} {b : Bool} (k : TK s.heap s₁.heap) (h : PB G Γ frz s₁ Q b s') : PB G Γ frz s Q b s' :=
  let ⟨σ', b, c, d⟩ := h; ⟨σ', b, k.trans c, d⟩
theorem PU.after {s₁ s' : Shared} {Q : St → Prop} {b : Unit} (k : TK s.heap s₁.heap) (h : PU G Γ frz s₁ Q b s') : PU G Γ frz s Q b s' :=
  let ⟨σ', b, c, d⟩ := h; ⟨σ', b, k.trans c, d⟩
theorem PF.after {s₁ s' : Shared} {Q : Fl → St → Prop} {f : Flow} (k : TK s.heap s₁.heap) (h : PF G Γ frz s₁ Q f s') : PF G Γ frz s Q f s' :=
  let ⟨v, σ', a, b, c, d⟩ := h; ⟨v, σ', a, b, k.trans c, d⟩
theorem PO.toPV {Q' : V → Mem → Prop} {Q : V → St → Prop} {cv : Value} {s' : Shared} (h : PO G Γ frz σ s Q' cv s') (q : ∀ r m, Q' r m → Q r { σ with mem := m }) : PV G Γ frz s Q cv s' :=
  let ⟨v, m, a, b, c, d⟩ := h; ⟨v, _, a, b, c, q v m d⟩
theorem PO.imp {Q' Q : V → Mem → Prop} {cv : Value} {s' : Shared} (h : PO G Γ frz σ s Q' cv s') (q : ∀ r m, Q' r m → Q r m) : PO G Γ frz σ s Q cv s' :=
  let ⟨v, m, a, b, c, d⟩ := h; ⟨v, _, a, b, c, q v m d⟩

/-- evaluate, go on -/
theorem W.then {t : Sem Value} {Q : V → St → Prop} {post : Value → Shared → Prop} (h : W G A Γ t Q σ) (r : Rep G Γ frz σ s)
    (k : ∀ cv v σ₁ s₁, RV s₁.heap cv v → Rep G Γ frz σ₁ s₁ → TK s.heap s₁.heap → Q v σ₁ → post cv s₁) : wpAny (model G.prog G.w) A t post NoE s :=
  wpAny_mono (h frz s r) (fun cv s₁ ⟨v, σ₁, a, b, c, d⟩ => k cv v σ₁ s₁ a b c d) fun _ _ x => x
theorem Ws.then {t : Sem (List Value)} {Q : List V → St → Prop} {post : List Value → Shared → Prop} (h : Ws G A Γ t Q σ) (r : Rep G Γ frz σ s)
    (k : ∀ cv v σ₁ s₁, RVs s₁.heap cv v → Rep G Γ frz σ₁ s₁ → TK s.heap s₁.heap → Q v σ₁ → post cv s₁) : wpAny (model G.prog G.w) A t post NoE s :=
  wpAny_mono (h frz s r) (fun cv s₁ ⟨v, σ₁, a, b, c, d⟩ => k cv v σ₁ s₁ a b c d) fun _ _ x => x
theorem WB.then {t : Sem Bool} {Q : Bool → St → Prop} {post : Bool → Shared → Prop} (h : WB G A Γ t Q σ) (r : Rep G Γ frz σ s)
    (k : ∀ b σ₁ s₁, Rep G Γ frz σ₁ s₁ → TK s.heap s₁.heap → Q b σ₁ → post b s₁) : wpAny (model G.prog G.w) A t post NoE s :=
  wpAny_mono (h frz s r) (fun b s₁ ⟨σ₁, a, c, d⟩ => k b σ₁ s₁ a c d) fun _ _ x => x

theorem w_lit {v : V} {c : Const} {k : Nat} {pos : Pos} {Q : V → St → Prop} (h : litOk v c = true) (q : Q v σ) : W G A Γ (eval (.Constant c k pos) Γ.env) Q σ := fun frz s r => by
  rw [arm_eval_Constant]
  cases v with
  | none => cases (beq_iff_eq.mp h); exact wpAny_pure ⟨_, _, .none, r, .refl _, q⟩
  | bool => cases (beq_iff_eq.mp h); exact wpAny_pure ⟨_, _, .bool _, r, .refl _, q⟩
  | int => cases (beq_iff_eq.mp h); exact wpAny_mkInt ⟨_, _, .int _ _, r.toks _, .refl _, q⟩
  | flt => cases (beq_iff_eq.mp h); exact wpAny_bind (wpAny_fresh (wpAny_pure ⟨_, _, .flt _ _, r.toks _, .refl _, q⟩))
  | str => cases (beq_iff_eq.mp h); exact wpAny_mkText ⟨_, _, .str _ _, r.toks _, .refl _, q⟩
  | tup => exact absurd h Bool.false_ne_true
  | rng => exact absurd h Bool.false_ne_true
  | obj => exact absurd h Bool.false_ne_true

theorem getElem_some_mem {α : Type} {l : List α} {i : Nat} {x : α} (h : l[i]? = some x) : x ∈ l := List.mem_of_getElem? h

theorem w_name {i : Nat} {x : PySem.Str} {pos : Pos} {k : VK} {v : V} {Q : V → St → Prop} (ok : Γ.ok) (hx : Γ.vars[i]? = some (x, k)) (hv : σ.loc[i]? = some (some v)) (q : Q v σ) :
    W G A Γ (eval (.Name x pos) Γ.env) Q σ := fun frz s r => by
  refine wpAny_Name ?_ (ok.dbg i x k hx).1
  cases k with
  | loc =>
    obtain ⟨m, n, f⟩ := r.hns
    obtain ⟨cv, e, rv⟩ := f i x v hx hv
    exact wpAny_loadName_local ok.fn (ok.loc i x hx) n e ⟨v, σ, rv, r, .refl _, q⟩
  | own c =>
    obtain ⟨_, _, o, ov, g, d, f⟩ := r.hown i x c hx
    obtain ⟨cv, e, rv⟩ := f v hv
    subst e
    obtain ⟨a1, a2, _⟩ := ok.own i x c hx
    exact wpAny_loadName_cell ok.fn a1 a2 ⟨_, g, d⟩ ⟨v, σ, rv, r, .refl _, q⟩
  | ref c =>
    obtain ⟨o, ov, g, d, f⟩ := r.href i x c hx
    obtain ⟨cv, e, rv⟩ := f v hv
    subst e
    have g' := r.hfrz _ _ g
    obtain ⟨a1, a2⟩ := ok.ref i x c hx
    rcases a1 with a1 | a1
    · exact wpAny_loadName_cell ok.fn a1 a2 ⟨_, g', d⟩ ⟨v, σ, rv, r, .refl _, q⟩
    · exact wpAny_loadName_free ok.fn a1 a2 ⟨_, g', d⟩ ⟨v, σ, rv, r, .refl _, q⟩ (ok.dbg i x _ hx).2

/-- no starred among them -/
theorem star_plain {e : Expr} {es : List Expr} {env : Env} (h : plainE e = true) : starEach (e :: es) env = (false, eval e env) :: starEach es env := by
  cases e <;> first | rfl | exact absurd h Bool.false_ne_true
theorem star_of {C : SC} {env : Env} : ∀ {es : List Ex} {xs : List Expr}, chkEs C es xs = true → starEach xs env = xs.map fun e => (false, eval e env)
  | [], xs, h => by rw [chkEs_nil h]; rfl
  | a :: as, xs, h => by
    obtain ⟨e, es, rfl, hp, _, h⟩ := chkEs_cons h
    rw [star_plain hp, star_of h]; rfl
theorem each_of (env : Env) : ∀ xs : List Expr, evalEach xs env = xs.map fun e => eval e env
  | [] => rfl
  | e :: es => by rw [List.map_cons, ← each_of env es]; rfl
theorem marks_plain {e : Expr} (h : plainE e = true) (op : CmpOp) : behindInMarks op e = false := by
  cases e <;> first | rfl | exact absurd h Bool.false_ne_true
theorem marked_of {C : SC} {env : Env} : ∀ {es : List Ex} {xs : List Expr} (ops : List CmpOp), chkEs C es xs = true → markedEach ops xs (evalEach xs env) = evalEach xs env
  | [], xs, ops, h => by
    rw [chkEs_nil h]
    cases ops with
    | nil => rfl
    | cons o os => cases os <;> rfl
  | a :: as, xs, ops, h => by
    obtain ⟨e, es, rfl, hp, _, h⟩ := chkEs_cons h
    have ih := fun os => marked_of (env := env) os h
    cases ops with
    | nil => cases es <;> rfl
    | cons o os =>
      show markedEach (o :: os) (e :: es) (eval e env :: evalEach es env) = eval e env :: evalEach es env
      cases es with
      | nil =>
        cases os with
        | nil => simp only [evalEach, markedEach, markedBehindIn_of_false (marks_plain hp o)]
        | cons o' os => simp only [evalEach, markedEach]
      | cons e' es =>
        have q := ih os
        cases os with
        | nil => simp only [evalEach, markedEach]
        | cons o' os =>
          simp only [evalEach] at q ⊢
          simp only [markedEach] at q ⊢
          rw [q]
end
end Mine
set_option autoImplicit false
set_option maxRecDepth 10000
set_option linter.unusedVariables false
namespace Mine
open PySem PyProof.Rows PySem.W

section
variable {G : GS} {A : Around} {Γ : FE} {frz : Frz} {σ : St} {s : Shared}

theorem back_of (pos : Pos) (env : Env) (xs : List Expr) : backTo pos (xs.map fun e => (false, eval e env)) = xs.map fun e => (false, eval e env) := by
  unfold backTo
  rw [List.map_map]
  apply List.map_congr_left
  intro e _; rfl

theorem ws_nil {Q : List V → St → Prop} (q : Q [] σ) : Ws G A Γ (spliced []) Q σ := fun frz s r => Calls.spliced_nil ⟨[], σ, .nil, r, .refl _, q⟩
theorem ws_cons {t : Sem Value} {rest : List (Bool × Sem Value)} {Q : List V → St → Prop} (h : W G A Γ t (fun v σ₁ => Ws G A Γ (spliced rest) (fun vs σ₂ => Q (v :: vs) σ₂) σ₁) σ) :
    Ws G A Γ (spliced ((false, t) :: rest)) Q σ := fun frz s r =>
  Calls.spliced_cons (h.then r fun cv v σ₁ s₁ a b c d => d.then b fun cvs vs σ₂ s₂ a' b' c' d' => ⟨v :: vs, σ₂, .cons (a.tk c') a', b', c.trans c', d'⟩)

/-- arguments -/
theorem w_args {f : Value} {xs : List Expr} {Q : List V → St → Prop} (h : Ws G A Γ (spliced (xs.map fun e => (false, eval e Γ.env))) Q σ) (r : Rep G Γ frz σ s) {post : Args → Shared → Prop}
    (k : ∀ cvs vs σ₁ s₁, RVs s₁.heap cvs vs → Rep G Γ frz σ₁ s₁ → TK s.heap s₁.heap → Q vs σ₁ → post ⟨cvs, []⟩ s₁) :
    wpAny (model G.prog G.w) A (evalArgs f true (xs.map fun e => (false, eval e Γ.env)) []) post NoE s := by
  cases xs with
  | nil =>
    unfold evalArgs
    show wpAny _ _ (spliced [] >>= _) _ _ s
    refine wpAny_bind (h.then r fun cvs vs σ₁ s₁ a b c d => wpAny_bind (wpAny_pure ?_))
    refine wpAny_holding ?_
    exact wpAny_bind (wpAny_pure (wpAny_bind (wpAny_pure (wpAny_pure (k cvs vs σ₁ s₁ a b c d)))))
  | cons x xs => exact Calls.evalArgs_plain (h.then r fun cvs vs σ₁ s₁ a b c d => k cvs vs σ₁ s₁ a b c d)

/-- with their number -/
noncomputable def Wn (G : GS) (A : Around) (Γ : FE) (n : Nat) (t : Sem (List Value)) (Q : List V → St → Prop) (σ : St) : Prop :=
  ∀ frz s, Rep G Γ frz σ s → wpAny (model G.prog G.w) A t (fun cvs s' => cvs.length = n ∧ PVs G Γ frz s Q cvs s') NoE s
theorem Wn.ws {n : Nat} {t : Sem (List Value)} {Q : List V → St → Prop} (h : Wn G A Γ n t Q σ) : Ws G A Γ t Q σ := fun frz s r => wpAny_mono (h frz s r) (fun _ _ q => q.2) fun _ _ x => x
theorem Wn.then {n : Nat} {t : Sem (List Value)} {Q : List V → St → Prop} {post : List Value → Shared → Prop} (h : Wn G A Γ n t Q σ) (r : Rep G Γ frz σ s)
    (k : ∀ cv v σ₁ s₁, cv.length = n → RVs s₁.heap cv v → Rep G Γ frz σ₁ s₁ → TK s.heap s₁.heap → Q v σ₁ → post cv s₁) : wpAny (model G.prog G.w) A t post NoE s :=
  wpAny_mono (h frz s r) (fun cv s₁ ⟨l, v, σ₁, a, b, c, d⟩ => k cv v σ₁ s₁ l a b c d) fun _ _ x => x
theorem wn_nil {Q : List V → St → Prop} (q : Q [] σ) : Wn G A Γ 0 (spliced []) Q σ := fun frz s r => Calls.spliced_nil ⟨rfl, [], σ, .nil, r, .refl _, q⟩
theorem wn_cons {n : Nat} {t : Sem Value} {rest : List (Bool × Sem Value)} {Q : List V → St → Prop} (h : W G A Γ t (fun v σ₁ => Wn G A Γ n (spliced rest) (fun vs σ₂ => Q (v :: vs) σ₂) σ₁) σ) :
    Wn G A Γ (n + 1) (spliced ((false, t) :: rest)) Q σ := fun frz s r =>
  Calls.spliced_cons (h.then r fun cv v σ₁ s₁ a b c d => d.then b fun cvs vs σ₂ s₂ l a' b' c' d' => ⟨by simp [l], v :: vs, σ₂, .cons (a.tk c') a', b', c.trans c', d'⟩)

theorem w_global {x : PySem.Str} {pos : Pos} {f : Value} {post : Value → Shared → Prop} (gok : G.ok) (ok : Γ.ok) (r : Rep G Γ frz σ s) (hx : Γ.env.kindOf x = some .globalImplicit) (hd : (x == PySem.Str.ofString "__debug__") = false)
    (e : nsIn G.K mainGlobals x = some (some f)) (h : post f s) : wpAny (model G.prog G.w) A (eval (.Name x pos) Γ.env) post NoE s := by
  refine Calls.Name_function_global ok.fn hx ?_ hd
  refine Calls.loadGlobal_global (mg := G.mg) ?_ (mg_of gok.k gok.g e) h
  rw [ok.glb]
  exact gok.g.keeps fun b o e => r.hfrz _ _ (r.hbase _ _ e)
theorem w_builtin {b : Bi} {pos : Pos} {post : Value → Shared → Prop} (gok : G.ok) (gbi : G.bi) (ok : Γ.ok) (r : Rep G Γ frz σ s) (hx : Γ.env.kindOf (PySem.Str.ofString b.name) = some .globalImplicit) (hd : (PySem.Str.ofString b.name == PySem.Str.ofString "__debug__") = false)
    (h : post b.val s) : wpAny (model G.prog G.w) A (eval (.Name (PySem.Str.ofString b.name) pos) Γ.env) post NoE s := by
  refine Calls.Name_function_global ok.fn hx ?_ hd
  have k : ∀ b o, G.base.get? b = some o → s.heap.get? b = some o := fun b o e => r.hfrz _ _ (r.hbase _ _ e)
  refine Calls.loadGlobal_builtin (mg := G.mg) (mb := G.mb) ?_ (gbi.bi b).1 ?_ (gbi.bi b).2 h
  · rw [ok.glb]; exact gok.g.keeps k
  · rw [ok.bui]; exact gok.b.keeps k

theorem plain_args (env : Env) (xs : List Expr) : (xs.map fun e => (false, eval e env)).any (·.1) = false := by
  induction xs with
  | nil => rfl
  | cons x xs ih => simpa using ih

theorem call_val {b : Bi} {pos : Pos} {args : List (Bool × Sem Value)} {post : Value → Shared → Prop} {s : Shared} (hp : args.any (·.1) = false)
    (h : wpAny (model G.prog G.w) A (evalArgs b.val true args []) (fun a s₁ => wpAny (model G.prog G.w) A (call b.val a.pos a.kw) post NoE s₁) NoE s) :
    wpAny (model G.prog G.w) A (callWith pos b.val [] args []) post NoE s := by
  cases b
  case range => exact PyProof.Rows.callWith_type (T := "range") (first := []) hp h
  case list => exact PyProof.Rows.callWith_type (T := "list") (first := []) hp h
  case len => exact Calls.callWith_builtin (id := "len") (first := []) hp h
  case min => exact Calls.callWith_builtin (id := "min") (first := []) hp h
  case max => exact Calls.callWith_builtin (id := "max") (first := []) hp h
  case sum => exact Calls.callWith_builtin (id := "sum") (first := []) hp h
  case chr => exact Calls.callWith_builtin (id := "chr") (first := []) hp h
  case ord => exact Calls.callWith_builtin (id := "ord") (first := []) hp h

theorem eval_CallName (f : PySem.Str) (p pos : Pos) (xs : List Expr) (env : Env) : eval (.Call (.Name f p) xs [] pos) env = (do
    callWith pos (← eval (.Name f p) env) [] (backTo pos (starEach xs env)) (backToKw pos (keywordEach [] env))) := rfl

theorem keep_raw {a : Addr} {fo : Obj} {fd : FuncData} (h : Heap) (e : h.get? a = some fo) (d : fo.data = .func fd) : ∃ k, (k = Keeper.frame ∨ k = Keeper.machine ∨ k = Keeper.boundFrame) ∧ Looks (model G.prog G.w) h (keeperOf (.ref a)) k := by
  obtain ⟨c, dd, dt, sl⟩ := fo
  cases d
  exact keeps_F (q := a) h ⟨_, _, _, _, e⟩

theorem w_default {e : Expr} {Q : Bool → St → Prop} (h : W G A Γ (eval e Γ.env) (fun v σ₁ => wpTruth σ₁.mem v fun b => Q b σ₁) σ)
    (he : isTrue e Γ.env (eval e Γ.env) = (do let v ← eval e Γ.env; standAt e.pos; holding [v] (truthy v))) : WB G A Γ (isTrue e Γ.env (eval e Γ.env)) Q σ := fun frz s r => by
  rw [he]
  refine wpAny_bind (h.then r fun cv v σ₁ s₁ a b c d => wpAny_bind (wpAny_standAt (wpAny_holding ?_)))
  exact wpAny_mono (s_truth d b a) (fun b' s₂ ⟨p, q, t⟩ => ⟨σ₁, p, c.trans q, t⟩) fun _ _ x => x

theorem glob_of {C : SC} {n : String} {x : PySem.Str} (hC : C.ok G Γ) (h : C.glob n x = true) : x = PySem.Str.ofString n ∧ Γ.env.kindOf x = some .globalImplicit ∧ (x == PySem.Str.ofString "__debug__") = false := by
  unfold SC.glob at h
  simp only [Bool.and_eq_true, beq_iff_eq, Bool.not_eq_true'] at h
  exact ⟨h.1.1.symm, hC.names x h.1.2, h.2⟩
theorem is_of {C : SC} {i : Nat} {x : PySem.Str} (hC : C.ok G Γ) (h : C.is i x = true) : ∃ k, Γ.vars[i]? = some (x, k) := by
  unfold SC.is at h
  split at h
  · rename_i y r e
    obtain ⟨k, hk, _⟩ := hC.vars i y r e
    rw [beq_iff_eq.mp h] at hk
    exact ⟨k, hk⟩
  · cases h
end
end Mine
set_option autoImplicit false
set_option maxRecDepth 10000
set_option linter.unusedVariables false
namespace Mine
open PySem PyProof.Rows PySem.W

section
variable {G : GS} {A : Around} {Γ : FE} {frz : Frz} {σ : St} {s : Shared}

theorem set_loc {l : List (Option V)} {i j : Nat} {v u : V} (h : (l.set i (some v))[j]? = some (some u)) : (i = j ∧ u = v) ∨ (i ≠ j ∧ l[j]? = some (some u)) := by
  rw [List.getElem?_set] at h
  split at h
  · rename_i e
    split at h
    · cases h; exact .inl ⟨e, rfl⟩
    · cases h
  · rename_i e; exact .inr ⟨e, h⟩

/-- a name takes a value -/
theorem s_store {i : Nat} {x : PySem.Str} {k : VK} {v : V} {cv : Value} (ok : Γ.ok) (r : Rep G Γ frz σ s) (hx : Γ.vars[i]? = some (x, k)) (hk : ∀ c, k ≠ .ref c) (hv : RV s.heap cv v) :
    wpAny (model G.prog G.w) A (storeName Γ.env x cv) (fun _ s' => Rep G Γ frz (σ.set i v) s' ∧ TK s.heap s'.heap) NoE s := by
  cases k with
  | ref c => exact absurd rfl (hk c)
  | loc =>
    obtain ⟨m, n, f⟩ := r.hns
    refine wpAny_storeName_local (ok.loc i x hx) n (fun h' hn hs => ?_) (by rw [ok.fn]; rfl)
    have tk : TK s.heap h' := fun b o e im => by
      by_cases hb : b = Γ.env.locals
      · subst hb; exact absurd im (ns_not_imm n e)
      · exact (hs.2 b hb).trans e
    refine ⟨⟨let ⟨_, _, e⟩ := r.same; ⟨h', _, by rw [e]⟩, r.hbase, r.hkeep, fun b o e => (hs.2 b (r.frz_ne e)).trans (r.hfrz b o e), fun a o e => (r.hmem a o e).keep tk fun y ey => (hs.2 a (r.mem_ne e)).trans ey, r.hmemF, r.hab, r.hlf, r.hlm, ?_, ?_, ?_⟩, tk⟩
    · refine ⟨_, hn, fun j y u hy hu => ?_⟩
      rcases set_loc hu with ⟨rfl, rfl⟩ | ⟨hne, hu⟩
      · rw [hx] at hy
        cases hy
        exact ⟨cv, by simp, hv.tk tk⟩
      · obtain ⟨cu, e1, e2⟩ := f j y u hy hu
        refine ⟨cu, ?_, e2.tk tk⟩
        have : y ≠ x := fun q => by subst q; exact hne (ok.names _ _ _ _ _ hx hy)
        simp [this, e1]
    · intro j y c hy
      obtain ⟨p, q, o, ov, g, d, f'⟩ := r.hown j y c hy
      refine ⟨p, q, o, ov, (hs.2 c (ok.own j y c hy).2.2).trans g, d, fun u hu => ?_⟩
      rcases set_loc hu with ⟨rfl, rfl⟩ | ⟨hne, hu⟩
      · rw [hx] at hy; cases hy
      · obtain ⟨cu, e1, e2⟩ := f' u hu; exact ⟨cu, e1, e2.tk tk⟩
    · intro j y c hy
      obtain ⟨o, ov, e1, d, f'⟩ := r.href j y c hy
      refine ⟨o, ov, e1, d, fun u hu => ?_⟩
      rcases set_loc hu with ⟨rfl, rfl⟩ | ⟨hne, hu⟩
      · rw [hx] at hy; cases hy
      · obtain ⟨cu, e1, e2⟩ := f' u hu; exact ⟨cu, e1, e2.tk tk⟩
  | own c =>
    obtain ⟨p, q, o, ov, g, d, f⟩ := r.hown i x c hx
    obtain ⟨a1, a2, a3⟩ := ok.own i x c hx
    refine wpAny_storeName_cell ok.fn a1 a2 ⟨o, g, d⟩ fun h' hc hs => ?_
    obtain ⟨o', g', d'⟩ := hc
    have tk : TK s.heap h' := fun b ob e im => by
      by_cases hb : b = c
      · subst hb
        rw [g] at e; cases e
        rcases im with ⟨_, _, _, q⟩ | ⟨_, _, q, _⟩ <;> rw [d] at q <;> cases q
      · exact (hs.2 b hb).trans e
    have fne : ∀ b ob, frz b = some ob → b ≠ c := fun b ob e z => by subst z; rw [p] at e; cases e
    have mne : ∀ b ob, σ.mem b = some ob → b ≠ c := fun b ob e z => by subst z; rw [q] at e; cases e
    refine ⟨⟨let ⟨_, _, e⟩ := r.same; ⟨h', _, by rw [e]⟩, r.hbase, r.hkeep, fun b o e => (hs.2 b (fne b o e)).trans (r.hfrz b o e), fun a o e => (r.hmem a o e).keep tk fun y ey => (hs.2 a (mne a o e)).trans ey, r.hmemF, r.hab, r.hlf, r.hlm, ?_, ?_, ?_⟩, tk⟩
    · obtain ⟨m, n, f'⟩ := r.hns
      refine ⟨m, n.sameBut hs (Ne.symm a3), fun j y u hy hu => ?_⟩
      rcases set_loc hu with ⟨rfl, rfl⟩ | ⟨hne, hu⟩
      · rw [hx] at hy; cases hy
      · obtain ⟨cu, e1, e2⟩ := f' j y u hy hu; exact ⟨cu, e1, e2.tk tk⟩
    · intro j y c' hy
      obtain ⟨p', q', o₂, ov', g₂, d₂, f'⟩ := r.hown j y c' hy
      by_cases hcc : c' = c
      · subst hcc
        have hij : i = j := ok.cells _ _ _ _ _ hx hy
        subst hij
        refine ⟨p', q', o', some cv, g', d', fun u hu => ?_⟩
        rcases set_loc hu with ⟨_, rfl⟩ | ⟨hne, hu⟩
        · exact ⟨cv, rfl, hv.tk tk⟩
        · exact absurd rfl hne
      · refine ⟨p', q', o₂, ov', (hs.2 c' hcc).trans g₂, d₂, fun u hu => ?_⟩
        rcases set_loc hu with ⟨rfl, rfl⟩ | ⟨hne, hu⟩
        · rw [hx] at hy; cases hy; exact absurd rfl hcc
        · obtain ⟨cu, e1, e2⟩ := f' u hu; exact ⟨cu, e1, e2.tk tk⟩
    · intro j y c' hy
      obtain ⟨o, ov, e1, d, f'⟩ := r.href j y c' hy
      refine ⟨o, ov, e1, d, fun u hu => ?_⟩
      rcases set_loc hu with ⟨rfl, rfl⟩ | ⟨hne, hu⟩
      · rw [hx] at hy; cases hy
      · obtain ⟨cu, e1, e2⟩ := f' u hu; exact ⟨cu, e1, e2.tk tk⟩

theorem s_bind {i : Nat} {x : PySem.Str} {k : VK} {v : V} {cv : Value} (ok : Γ.ok) (r : Rep G Γ frz σ s) (hx : Γ.vars[i]? = some (x, k)) (hk : ∀ c, k ≠ .ref c) (hv : RV s.heap cv v) :
    wpAny (model G.prog G.w) A (bindName Γ.env x cv) (fun _ s' => Rep G Γ frz (σ.set i v) s' ∧ TK s.heap s'.heap) NoE s :=
  wpAny_bindName (s_store ok r hx hk hv)

theorem s_unpack {n : Nat} {cv : Value} {vs : List V} {post : List Value → Shared → Prop} (hA : Rm A) (r : Rep G Γ frz σ s) (hv : RV s.heap cv (.tup vs)) (hn : vs.length = n)
    (k : ∀ cvs s₁, RVs s₁.heap cvs vs → Rep G Γ frz σ s₁ → TK s.heap s₁.heap → post cvs s₁) : wpAny (model G.prog G.w) A (unpackItems cv n none) post NoE s := by
  cases hv with
  | @tup a arr k' _ g rs =>
  have hz := rs.length
  simp only [Array.length_toList] at hz
  have e : n = arr.size := by omega
  rw [e]
  refine unpackItems_tuple hA.hd ⟨_, g, rfl, _, rfl⟩ fun h' hk => ?_
  have kk : ∀ b o, s.heap.get? b = some o → h'.get? b = some o := fun b o e => hk b o (Nat.ne_of_lt (Heap.lt_size e)) e
  exact k _ _ (rs.tk (.of kk)) (r.grow (tk := s.toks) kk) (.of kk)

end
end Mine
set_option autoImplicit false
set_option maxRecDepth 10000
set_option linter.unusedVariables false
namespace Mine
open PySem PyProof.Rows PySem.W

/-- an iterator's object and what it has left; g: what the memory must say -/
inductive IterAt (h : Heap) : Obj → (Mem → Prop) → List V → Prop
  | list {o : Obj} {l : Addr} {i : Nat} {vs : List V} : o.cls = .type "list_iterator" → o.data = .fields #[.ref l, .int i 0] → IterAt h o (fun m => m l = some (.list vs)) (vs.drop i)
  | tup {o : Obj} {t : Addr} {i : Nat} {arr : Array Value} {n : Nat} {vs : List V} : o.cls = .type "tuple_iterator" → o.data = .fields #[.ref t, .int i 0] →
      h.get? t = some { cls := .type "tuple", data := .seq arr n } → RVs h arr.toList vs → IterAt h o (fun _ => True) (vs.drop i)
  | rng {x c : Int} {n : Nat} : IterAt h { cls := .type "range_iterator", dict := none, data := .fields #[rawInt x, rawInt n, rawInt c], slots := #[] } (fun _ => True) (rngFrom x c n)
  | str {o : Obj} {x : Tx} {t : Tok} {i : Nat} : o.cls = .type (strIterType (mkS x)) → o.data = .fields #[.str (mkS x) t, .int i 0] → IterAt h o (fun _ => True) ((x.drop i).map fun c => V.str [c])

theorem IterAt.tk {h h' : Heap} (k : TK h h') {o : Obj} {g : Mem → Prop} {vs : List V} (i : IterAt h o g vs) : IterAt h' o g vs := by
  cases i with
  | list a b => exact .list a b
  | tup a b c d => exact .tup a b (k _ _ c (.inl ⟨rfl, _, _, rfl⟩)) (d.tk k)
  | rng => exact .rng
  | str a b => exact .str a b
theorem IterAt.notImm {h : Heap} {o : Obj} {g : Mem → Prop} {vs : List V} (i : IterAt h o g vs) : ¬ Imm o := by
  cases i with
  | list a b => simp [Imm, a]
  | tup a b c d => simp [Imm, a]
  | rng => simp [Imm]
  | str a b =>
    have : strIterType (mkS ‹Tx›) ≠ "tuple" ∧ strIterType (mkS ‹Tx›) ≠ "range" := by unfold strIterType; split <;> decide
    rintro (⟨q, _⟩ | ⟨q, _⟩) <;> rw [a] at q <;> injection q with q
    · exact this.1 q
    · exact this.2 q

section
variable {G : GS} {A : Around} {Γ : FE} {frz : Frz} {σ : St} {s : Shared}

/-- what the next step of an iterator gives -/
noncomputable def NextPost (G : GS) (Γ : FE) (frz : Frz) (σ : St) (s : Shared) (it : Addr) (g : Mem → Prop) : List V → Option Value → Shared → Prop
  | [], none, s' => Rep G Γ frz σ s' ∧ TK s.heap s'.heap
  | v :: r, some cv, s' => RV s'.heap cv v ∧ Rep G Γ frz σ s' ∧ TK s.heap s'.heap ∧ ∃ o, s'.heap.get? it = some o ∧ IterAt s'.heap o g r
  | _, _, _ => False

theorem at_self {a : Addr} {P : Obj → Prop} {h : Heap} (x : ∃ o, h.get? a = some o ∧ P o) : ∃ o, h.get? a = some o ∧ P o := x

theorem iter_next (hA : Rm A) (r : Rep G Γ frz σ s) {it : Addr} {o : Obj} {g : Mem → Prop} {vs : List V} (d : Aside G Γ frz σ it) (ho : s.heap.get? it = some o) (i : IterAt s.heap o g vs) (hg : g σ.mem) :
    wpAny (model G.prog G.w) A (pyNext (.ref it)) (NextPost G Γ frz σ s it g vs) NoE s := by
  have ni := i.notImm
  cases i with
  | @list _ l i vs a b =>
    have hit : s.heap.IsListIter it l i := ⟨o, ho, a, b⟩
    cases r.hmem l _ hg with
    | @list arr n _ e rv =>
    have hl : s.heap.IsList l arr := ⟨_, e, rfl, n, rfl⟩
    have hz := rv.length
    simp only [Array.length_toList] at hz
    by_cases hi : i < vs.length
    · have hd : vs.drop i = vs[i] :: vs.drop (i + 1) := List.drop_eq_getElem_cons hi
      obtain ⟨cv, e1, e2⟩ := rv.get (i := i) (x := vs[i]) (by simp [hi])
      refine wpAny_pyNext_list_item hit hl (x := cv) (by simpa using e1) fun h' hit' hs => ?_
      obtain ⟨r', t⟩ := r.aside d ho ni (h' := h') (tk := s.toks) fun b o hb e => (hs.2 b hb).trans e
      rw [hd]
      obtain ⟨o', ho', ha', hb'⟩ := hit'
      exact ⟨e2.tk t, r', t, o', ho', .list ha' hb'⟩
    · have hd : vs.drop i = [] := List.drop_of_length_le (by omega)
      refine wpAny_pyNext_list_end hA.hd hit hl (by simp; omega) fun h' hs => ?_
      obtain ⟨r', t⟩ := r.aside d ho ni (h' := h') (tk := s.toks) hs
      rw [hd]; exact ⟨r', t⟩
  | @tup _ l i arr n vs a b e rv =>
    have hit : IsTupIter s.heap it l i := ⟨o, ho, a, b⟩
    have hl : IsTup s.heap l arr := ⟨_, e, rfl, n, rfl⟩
    have hz := rv.length
    simp only [Array.length_toList] at hz
    by_cases hi : i < vs.length
    · have hd : vs.drop i = vs[i] :: vs.drop (i + 1) := List.drop_eq_getElem_cons hi
      obtain ⟨cv, e1, e2⟩ := rv.get (i := i) (x := vs[i]) (by simp [hi])
      refine next_tuple_item hit hl (x := cv) (by simpa using e1) fun h' hit' hs => ?_
      obtain ⟨r', t⟩ := r.aside d ho ni (h' := h') (tk := s.toks) fun b o hb e => (hs.2 b hb).trans e
      rw [hd]
      obtain ⟨o', ho', ha', hb'⟩ := hit'
      exact ⟨e2.tk t, r', t, o', ho', .tup ha' hb' (t _ _ e (.inl ⟨rfl, _, _, rfl⟩)) (rv.tk t)⟩
    · have hd : vs.drop i = [] := List.drop_of_length_le (by omega)
      refine next_tuple_end hA.hd hit hl (by simp; omega) fun h' hs => ?_
      obtain ⟨r', t⟩ := r.aside d ho ni (h' := h') (tk := s.toks) hs
      rw [hd]; exact ⟨r', t⟩
  | @rng x c n =>
    cases n with
    | zero =>
      refine wpAny_pyNext_range_end hA.hd ho (by simp) fun h' hs => ?_
      obtain ⟨r', t⟩ := r.aside d ho ni (h' := h') (tk := s.toks) hs
      exact ⟨r', t⟩
    | succ n =>
      refine wpAny_pyNext_range_item ho (by omega) fun h' hit' hs => ?_
      obtain ⟨r', t⟩ := r.aside d ho ni (h' := h') (tk := s.toks + 1) fun b o hb e => (hs.2 b hb).trans e
      refine ⟨.int _ _, r', t, _, hit', ?_⟩
      rw [show (((n + 1 : Nat) : Int) - 1) = (n : Int) by omega]
      exact .rng
  | @str _ x t i a b =>
    have hx : ∀ j : Nat, (mkS x).cps[j]? = (x[j]?).map Char.toNat := fun j => by simp
    by_cases hi : i < x.length
    · have hd : x.drop i = x[i] :: x.drop (i + 1) := List.drop_eq_getElem_cons hi
      have hc : (mkS x).cps[i]? = some (x[i]).toNat := by rw [hx]; simp [hi]
      rw [hd, List.map_cons]
      have fin : ∀ h', (∃ o, h'.get? it = some o ∧ o.cls = .type (strIterType (mkS x)) ∧ o.data = .fields #[.str (mkS x) t, .int ((i + 1 : Nat) : Int) 0]) → Heap.SameBut it s.heap h' →
          NextPost G Γ frz σ s it (fun _ => True) (V.str [x[i]] :: (x.drop (i + 1)).map fun c => V.str [c]) (some (.str ⟨#[(x[i]).toNat]⟩ s.toks)) { s with heap := h', toks := s.toks + 1 } := fun h' hit' hs => by
        obtain ⟨r', t'⟩ := r.aside d ho ni (h' := h') (tk := s.toks + 1) fun b o hb e => (hs.2 b hb).trans e
        obtain ⟨o', ho', ha', hb'⟩ := hit'
        exact ⟨.str [x[i]] _, r', t', o', ho', .str ha' hb'⟩
      cases hasc : (mkS x).cps.all (· < 128) with
      | true =>
        have st : strIterType (mkS x) = "str_ascii_iterator" := by unfold strIterType; rw [hasc]; rfl
        rw [st] at a fin
        exact wpAny_pyNext_ascii_item ⟨o, ho, a, b⟩ hc fun h' hit' hs => fin h' hit' hs
      | false =>
        have st : strIterType (mkS x) = "str_iterator" := by unfold strIterType; rw [hasc]; rfl
        rw [st] at a fin
        exact wpAny_pyNext_wide_item ⟨o, ho, a, b⟩ hc fun h' hit' hs => fin h' hit' hs
    · have hd : x.drop i = [] := List.drop_of_length_le (by omega)
      have hc : (mkS x).cps[i]? = none := by rw [hx]; simp; omega
      rw [hd, List.map_nil]
      have fin : ∀ h', Heap.ExtBut it s.heap h' → NextPost G Γ frz σ s it (fun _ => True) [] none { s with heap := h' } := fun h' hs => by
        obtain ⟨r', t'⟩ := r.aside d ho ni (h' := h') (tk := s.toks) hs
        exact ⟨r', t'⟩
      cases hasc : (mkS x).cps.all (· < 128) with
      | true =>
        have st : strIterType (mkS x) = "str_ascii_iterator" := by unfold strIterType; rw [hasc]; rfl
        rw [st] at a
        exact wpAny_pyNext_ascii_end hA.hd ⟨o, ho, a, b⟩ hc fin
      | false =>
        have st : strIterType (mkS x) = "str_iterator" := by unfold strIterType; rw [hasc]; rfl
        rw [st] at a
        exact wpAny_pyNext_wide_end hA.hd ⟨o, ho, a, b⟩ hc fin

noncomputable def MakePost (G : GS) (Γ : FE) (frz : Frz) (σ : St) (s : Shared) (g : Mem → Prop) (vs : List V) : Value → Shared → Prop :=
  fun cv s' => ∃ it o, cv = .ref it ∧ Rep G Γ frz σ s' ∧ TK s.heap s'.heap ∧ Aside G Γ frz σ it ∧ s'.heap.get? it = some o ∧ IterAt s'.heap o g vs

theorem make_push (r : Rep G Γ frz σ s) {o : Obj} {g : Mem → Prop} {vs : List V} (fr : o.isFreed = false) (i : IterAt s.heap o g vs) : MakePost G Γ frz σ s g vs (.ref s.heap.objs.size) { s with heap := s.heap.push o } := by
  have k : ∀ b ob, s.heap.get? b = some ob → (s.heap.push o).get? b = some ob := fun b ob e => Heap.get?_push_of_some _ e
  exact ⟨_, o, rfl, r.grow (tk := s.toks) k, .of k, r.asideNew (Nat.le_refl _), Heap.get?_push_size _ fr, i.tk (.of k)⟩

theorem rng_size_pos (a b : Int) {c : Int} (h0 : 0 < c) : 0 ≤ Builtin.Range.rangeSize a b c := by
  unfold Builtin.Range.rangeSize
  rw [if_pos h0]
  split
  · have := Int.ediv_nonneg (a := b - a - 1) (b := c) (by omega) (by omega)
    omega
  · omega
theorem rng_small {a b c : Int} (ha : tiny a) (hb : tiny b) (hc : tiny c) (h0 : 0 < c) : Builtin.Range.small a b c = true := by
  have h1 := rng_size_pos a b h0
  have h2 : Builtin.Range.rangeSize a b c ≤ 2000000000 := by
    unfold Builtin.Range.rangeSize
    rw [if_pos h0]
    unfold tiny at *
    split
    · have : (b - a - 1) / c ≤ b - a - 1 := by
        have := Int.ediv_le_self (a := b - a - 1) c (by omega)
        omega
      omega
    · omega
  unfold tiny at *
  unfold Builtin.Range.small Builtin.Range.rangeFitsLong
  simp only [Bool.and_eq_true, Bool.or_eq_true, decide_eq_true_eq, beq_iff_eq]
  refine ⟨⟨⟨⟨⟨?_, ?_⟩, ⟨?_, ?_⟩⟩, ⟨?_, ?_⟩⟩, ⟨?_, ?_⟩⟩, .inr ?_⟩ <;> first | omega | skip
  rw [if_pos h0]
  simp only [Bool.and_eq_true, decide_eq_true_eq]
  omega

theorem iter_make (r : Rep G Γ frz σ s) {cv : Value} {v : V} (hv : RV s.heap cv v) {K : List V → (Mem → Prop) → Prop} (w : wpItems σ.mem v K) :
    ∃ vs g, K vs g ∧ wpAny (model G.prog G.w) A (pyIter cv) (MakePost G Γ frz σ s g vs) NoE s := by
  cases hv with
  | none => exact w.elim
  | bool => exact w.elim
  | int => exact w.elim
  | flt => exact w.elim
  | str x t => exact ⟨_, _, w.2, wpAny_pyIter_strU (make_push r rfl (.str (i := 0) rfl rfl))⟩
  | tup e rv => exact ⟨_, _, w.2, iter_tuple ⟨_, e, rfl, _, rfl⟩ (make_push r rfl (.tup (i := 0) rfl rfl e rv))⟩
  | @rng l a b c t u v e =>
    obtain ⟨h1, h2, h3, h4, w⟩ := w
    refine ⟨_, _, w, wpAny_pyIter_range e (rng_small h1 h2 h3 h4) ?_⟩
    have hn : (Builtin.Range.rangeSize a b c) = ((Builtin.Range.rangeSize a b c).toNat : Int) := (Int.toNat_of_nonneg (rng_size_pos a b h4)).symm
    rw [hn]
    exact make_push r rfl .rng
  | obj a =>
    obtain ⟨vs, hm, _, w⟩ := w
    cases r.hmem a _ hm with
    | @list arr n _ e rv => exact ⟨_, _, w, wpAny_pyIter_list ⟨_, e, rfl, n, rfl⟩ (make_push r rfl (.list (i := 0) rfl rfl))⟩

/-- no owned tuple among the iterators here -/
theorem letGo_none {E : Value → Shared → Prop} {target : Expr} {it : Addr} {cv : Value} {o : Obj} {g : Mem → Prop} {vs : List V} {post : Unit → Shared → Prop} (ho : s.heap.get? it = some o) (i : IterAt s.heap o g vs) (q : post () s) :
    wpAny (model G.prog G.w) A (letOwnedTupleGo target (.ref it) cv) post E s := by
  have hh : ∃ n fs, o.cls = .type n ∧ o.data = .fields fs ∧ (["enumerate", "zip", "dict_itemiterator", "dict_reverseitemiterator", "odict_iterator", "itertools.zip_longest", "itertools.pairwise"].contains n) = false := by
    cases i with
    | list a b => exact ⟨_, _, a, b, by decide⟩
    | tup a b _ _ => exact ⟨_, _, a, b, by decide⟩
    | rng => exact ⟨_, _, rfl, rfl, by decide⟩
    | str a b => refine ⟨_, _, a, b, ?_⟩; unfold strIterType; split <;> decide
  obtain ⟨n, fs, hc, hd, hn⟩ := hh
  have main : wpAny (model G.prog G.w) A (do
    let (.ref r, .ref a) := (Value.ref it, cv) | return
    let o ← load r
    match o.cls, o.data with
    | .type n, .fields vs =>
      if ["enumerate", "zip", "dict_itemiterator", "dict_reverseitemiterator", "odict_iterator", "itertools.zip_longest", "itertools.pairwise"].contains n && vs[0]? == some (rawInt a) then
        rule "for.unpacks-the-owned-tuple"
        updateField r 0 .none
    | _, _ => pure ()) post E s := by
    cases cv with
    | ref b =>
      refine wpAny_bind (wpAny_load ho ?_)
      rw [hc, hd]
      dsimp only
      rw [hn, Bool.false_and, if_neg (by decide)]
      exact wpAny_pure q
    | _ => exact wpAny_pure q
  cases target <;> first | exact main | exact wpAny_pure q
end
end Mine
set_option autoImplicit false
set_option maxRecDepth 10000
set_option linter.unusedVariables false
namespace Mine
open PySem PyProof.Rows PySem.W

theorem chkIs_nil {C : SC} {xs : List Expr} (h : chkIs C [] xs = true) : xs = [] := by
  cases xs with
  | nil => rfl
  | cons => cases h
theorem chkIs_cons {C : SC} {i : Nat} {is : List Nat} {xs : List Expr} (h : chkIs C (i :: is) xs = true) : ∃ n p es, xs = .Name n p :: es ∧ C.isW i n = true ∧ chkIs C is es = true := by
  cases xs with
  | nil => cases h
  | cons e es =>
    exact isName_e (e := e) (K := fun x => C.isW i x && chkIs C is es) (M := fun e => ∃ n p es', e :: es = .Name n p :: es' ∧ C.isW i n = true ∧ chkIs C is es' = true) h fun n p q => ⟨n, p, es, rfl, and_e q⟩

section
variable {G : GS} {A : Around} {Γ : FE} {frz : Frz} {σ : St} {s : Shared}

theorem isW_of {C : SC} {i : Nat} {x : PySem.Str} (hC : C.ok G Γ) (h : C.isW i x = true) : ∃ k, Γ.vars[i]? = some (x, k) ∧ ∀ c, k ≠ .ref c := by
  unfold SC.isW at h
  split at h
  · rename_i y r e
    simp only [Bool.and_eq_true, beq_iff_eq, Bool.not_eq_true'] at h
    obtain ⟨rfl, rfl⟩ := h
    obtain ⟨k, a, b⟩ := hC.vars _ _ _ e
    exact ⟨k, a, b rfl⟩
  · cases h

/-- a writer of one name -/
noncomputable def BindsAt (G : GS) (A : Around) (Γ : FE) (f : Value → Sem Unit) (i : Nat) : Prop :=
  ∀ frz σ s v cv, Rep G Γ frz σ s → RV s.heap cv v → wpAny (model G.prog G.w) A (f cv) (fun _ s' => Rep G Γ frz (σ.set i v) s' ∧ TK s.heap s'.heap) NoE s
inductive Bs (G : GS) (A : Around) (Γ : FE) : List (Value → Sem Unit) → List Nat → Prop
  | nil : Bs G A Γ [] []
  | cons {f i fs is} : BindsAt G A Γ f i → Bs G A Γ fs is → Bs G A Γ (f :: fs) (i :: is)
theorem Bs.length {fs : List (Value → Sem Unit)} {is : List Nat} (b : Bs G A Γ fs is) : fs.length = is.length := by
  induction b with
  | nil => rfl
  | cons _ _ ih => simp [ih]
theorem Bs.append {fs fs' : List (Value → Sem Unit)} {is is' : List Nat} (b : Bs G A Γ fs is) (c : Bs G A Γ fs' is') : Bs G A Γ (fs ++ fs') (is ++ is') := by
  induction b with
  | nil => exact c
  | cons h _ ih => exact .cons h ih
theorem Bs.reverse {fs : List (Value → Sem Unit)} {is : List Nat} (b : Bs G A Γ fs is) : Bs G A Γ fs.reverse is.reverse := by
  induction b with
  | nil => exact .nil
  | cons h _ ih => rw [List.reverse_cons, List.reverse_cons]; exact ih.append (.cons h .nil)
theorem RVs.reverse {h : Heap} : ∀ {cvs : List Value} {vs : List V}, RVs h cvs vs → RVs h cvs.reverse vs.reverse
  | _, [], r => r.e0 .nil
  | _, _ :: _, r => r.eC (N := fun cs => RVs h cs.reverse _) fun _ _ a b => by rw [List.reverse_cons, List.reverse_cons]; exact b.reverse.append (.one a)

theorem s_bindsF {fs : List (Value → Sem Unit)} {is : List Nat} (b : Bs G A Γ fs is) : ∀ {cvs : List Value} {vs : List V} {σ : St} {s : Shared} {post : Unit → Shared → Prop}, Rep G Γ frz σ s → RVs s.heap cvs vs → is.length = vs.length →
    (∀ s', Rep G Γ frz (σ.setAll is vs) s' → TK s.heap s'.heap → post () s') → wpAny (model G.prog G.w) A (assignInOrder fs cvs) post NoE s := by
  induction b with
  | nil =>
    intro cvs vs σ s post r hv hl k
    cases vs with
    | nil => cases hv; exact wpAny_pure (k s r (.refl _))
    | cons => simp at hl
  | cons h _ ih =>
    intro cvs vs σ s post r hv hl k
    cases hv with
    | nil => simp at hl
    | cons a rs =>
      refine wpAny_bind (wpAny_holding (wpAny_mono (h _ _ _ _ _ r a) (fun _ s₁ ⟨r₁, t₁⟩ => ?_) fun _ _ x => x))
      exact ih r₁ (rs.tk t₁) (by simpa using hl) fun s' r' t' => k s' r' (t₁.trans t')

theorem assign_binds {C : SC} {i : Nat} {x : PySem.Str} {pos : Pos} (ok : Γ.ok) (hC : C.ok G Γ) (h : C.isW i x = true) : BindsAt G A Γ (assign (.Name x pos) Γ.env) i := fun frz σ s v cv r hv => by
  obtain ⟨k, hx, hk⟩ := isW_of hC h
  rw [arm_assign_Name]
  exact wpAny_bind (wpAny_standAt (s_bind ok r hx hk hv))
theorem bind_binds {C : SC} {i : Nat} {x : PySem.Str} (ok : Γ.ok) (hC : C.ok G Γ) (h : C.isW i x = true) : BindsAt G A Γ (bindName Γ.env x) i := fun frz σ s v cv r hv => by
  obtain ⟨k, hx, hk⟩ := isW_of hC h
  exact s_bind ok r hx hk hv

/-- names as targets -/
theorem is_names {C : SC} (ok : Γ.ok) (hC : C.ok G Γ) : ∀ {is : List Nat} {xs : List Expr}, chkIs C is xs = true → Bs G A Γ ((assignEach xs Γ.env).map (·.2)) is ∧ (assignEach xs Γ.env).findIdx? (·.1) = none
  | [], xs, h => by rw [chkIs_nil h]; exact ⟨.nil, rfl⟩
  | i :: is, xs, h => by
    obtain ⟨n, pos, es, rfl, h1, h2⟩ := chkIs_cons h
    obtain ⟨a, b⟩ := is_names ok hC h2
    have e : assignEach (.Name n pos :: es) Γ.env = (false, assign (.Name n pos) Γ.env) :: assignEach es Γ.env := rfl
    refine ⟨?_, ?_⟩
    · rw [e]; exact .cons (assign_binds ok hC h1) a
    · rw [e, List.findIdx?_cons, b]; rfl
noncomputable def nameIf (f : PySem.Str → Pos → Bool) : Expr → Option PySem.Str
  | .Name id pos => if f id pos then some id else none
  | _ => none
theorem names_bs {C : SC} (ok : Γ.ok) (hC : C.ok G Γ) (f : PySem.Str → Pos → Bool) : ∀ {is : List Nat} {xs : List Expr}, chkIs C is xs = true → (xs.filterMap (nameIf f)).length = xs.length → Bs G A Γ ((xs.filterMap (nameIf f)).map (bindName Γ.env)) is
  | [], xs, h, _ => by rw [chkIs_nil h]; exact .nil
  | i :: is, xs, h, hf => by
    obtain ⟨n, pos, es, rfl, h1, h2⟩ := chkIs_cons h
    have := List.length_filterMap_le (nameIf f) es
    rw [List.filterMap_cons] at hf ⊢
    unfold nameIf at hf ⊢
    dsimp only at hf ⊢
    by_cases c : f n pos = true
    · rw [if_pos c] at hf ⊢
      have hh : (es.filterMap (nameIf f)).length + 1 = es.length + 1 := hf
      exact .cons (bind_binds ok hC h1) (names_bs ok hC f h2 (by omega))
    · rw [if_neg c] at hf ⊢
      have hh : (es.filterMap (nameIf f)).length = es.length + 1 := hf
      omega


theorem s_nameT {C : SC} {i : Nat} {e : Expr} (ok : Γ.ok) (hC : C.ok G Γ) (h : (isName e fun n => C.isW i n) = true) {v : V} {cv : Value} {Q : St → Prop} {σ : St} (w : Q (σ.set i v))
    (r : Rep G Γ frz σ s) (hv : RV s.heap cv v) : wpAny (model G.prog G.w) A (assign e Γ.env cv) (PU G Γ frz s Q) NoE s :=
  isName_e (e := e) (K := fun n => C.isW i n) (M := fun e => wpAny (model G.prog G.w) A (assign e Γ.env cv) (PU G Γ frz s Q) NoE s) h fun n p q => wpAny_mono (assign_binds ok hC q _ _ _ _ _ r hv) (fun _ s₁ ⟨a, b⟩ => ⟨_, a, b, w⟩) fun _ _ x => x
theorem s_tupT {C : SC} {is : List Nat} {e : Expr} (hA : Rm A) (ok : Γ.ok) (hC : C.ok G Γ) (h : (isTup e fun xs => nodupN is && chkIs C is xs) = true) {v : V} {cv : Value} {Q : St → Prop} {σ : St} (w : match v with | .tup vs => vs.length = is.length ∧ Q (σ.setAll is vs) | _ => False)
    (r : Rep G Γ frz σ s) (hv : RV s.heap cv v) : wpAny (model G.prog G.w) A (assign e Γ.env cv) (PU G Γ frz s Q) NoE s :=
  isTup_e (e := e) (K := fun xs => nodupN is && chkIs C is xs) (M := fun e => wpAny (model G.prog G.w) A (assign e Γ.env cv) (PU G Γ frz s Q) NoE s) h fun xs k p q => by
    obtain ⟨b1, b2⟩ := is_names (A := A) ok hC (and_e q).2
    obtain ⟨vs, rfl, hl, w⟩ := tup_inv w
    rw [arm_assign_Tuple]
    refine wpAny_bind (wpAny_standAt ?_)
    unfold unpack
    rw [b2]
    have hn := b1.length
    rw [List.length_map] at hn
    exact wpAny_bind (wpAny_holding (s_unpack hA r hv (hl.trans hn.symm) fun cvs s₁ rs r₁ t₁ => s_bindsF b1 r₁ rs hl.symm fun s' r' t' => ⟨_, r', t₁.trans t', w⟩))
theorem s_bindIs {C : SC} {one : Bool} {is : List Nat} {e : Expr} (hA : Rm A) (ok : Γ.ok) (hC : C.ok G Γ) (h : chkBind C one is e = true) {v : V} {cv : Value} {Q : St → Prop} {σ : St} (w : bindIs one is v Q σ)
    (r : Rep G Γ frz σ s) (hv : RV s.heap cv v) : wpAny (model G.prog G.w) A (assign e Γ.env cv) (PU G Γ frz s Q) NoE s :=
  match one, is, h, w with
  | true, [], _, w => False.elim w
  | true, [_], h, w => s_nameT ok hC h w r hv
  | true, _ :: _ :: _, _, w => False.elim w
  | false, _, h, w => s_tupT hA ok hC h w r hv
end
end Mine
set_option autoImplicit false
set_option maxRecDepth 10000
set_option linter.unusedVariables false
namespace Mine
open PySem PyProof.Rows PySem.W

theorem nodupS_of : ∀ {xs : List PySem.Str}, nodupS xs = true → xs.Nodup
  | [], _ => List.nodup_nil
  | x :: xs, h => by
    simp only [nodupS, Bool.and_eq_true, Bool.not_eq_true', List.contains_eq_mem, decide_eq_false_iff_not] at h
    exact List.nodup_cons.mpr ⟨h.1, nodupS_of h.2⟩
theorem lookup_of_mem {β : Type} {x : PySem.Str} {k : β} : ∀ {l : List (PySem.Str × β)}, (l.map (·.1)).Nodup → (x, k) ∈ l → l.lookup x = some k
  | [], _, h => by cases h
  | (y, d) :: l, hn, h => by
    rw [List.map_cons, List.nodup_cons] at hn
    rcases List.mem_cons.mp h with e | h
    · cases e; simp [List.lookup]
    · have : x ≠ y := fun q => hn.1 (List.mem_map.mpr ⟨(x, k), h, q⟩)
      rw [List.lookup_cons, beq_eq_false_iff_ne.mpr this]
      exact lookup_of_mem hn.2 h
theorem mem_locL {names : List (PySem.Str × NameKind)} {x : PySem.Str} (h : x ∈ locL names) : (x, NameKind.local) ∈ names := by
  unfold locL at h
  obtain ⟨⟨y, k⟩, h1, h2⟩ := List.mem_filterMap.mp h
  split at h2
  · rename_i c
    cases h2
    simp only [Bool.and_eq_true, beq_iff_eq] at c
    rw [← c.1]; exact h1
  · cases h2
theorem mem_freeL {names : List (PySem.Str × NameKind)} {x : PySem.Str} (h : x ∈ freeL names) : (x, NameKind.free) ∈ names := by
  unfold freeL at h
  obtain ⟨⟨y, k⟩, h1, h2⟩ := List.mem_filterMap.mp h
  split at h2
  · rename_i c
    cases h2
    rw [beq_iff_eq] at c
    rw [← c]; exact h1
  · cases h2
theorem locL_sub : ∀ names : List (PySem.Str × NameKind), (locL names).Sublist (names.map (·.1))
  | [] => .slnil
  | (x, k) :: r => by
    unfold locL
    rw [List.filterMap_cons, List.map_cons]
    split
    · exact (locL_sub r).cons _
    · rename_i b e
      split at e
      · cases e; exact (locL_sub r).cons_cons _
      · cases e
theorem freeL_sub : ∀ names : List (PySem.Str × NameKind), (freeL names).Sublist (names.map (·.1))
  | [] => .slnil
  | (x, k) :: r => by
    unfold freeL
    rw [List.filterMap_cons, List.map_cons]
    split
    · exact (freeL_sub r).cons _
    · rename_i b e
      split at e
      · cases e; exact (freeL_sub r).cons_cons _
      · cases e

/-- the captured cells, as the closure holds them -/
noncomputable def capCells (env : Env) (names : List (PySem.Str × NameKind)) : List (PySem.Str × Addr) := ((freeL names).map fun x => (x, (env.cells.lookup x).getD 0)).reverse
theorem closure_loopC {env : Env} : ∀ (names : List (PySem.Str × NameKind)) (acc : List (PySem.Str × Addr)), (∀ x ∈ freeL names, (env.cells.lookup x).isSome = true) →
    (forIn (m := Sem) names acc fun p cs => (if p.2 == NameKind.free then (do let a ← cellOf env p.1; pure (ForInStep.yield ((p.1, a) :: cs))) else pure (ForInStep.yield cs))) = pure (capCells env names ++ acc)
  | [], acc, _ => by rw [List.forIn_nil]; rfl
  | (x, k) :: r, acc, h => by
    rw [List.forIn_cons]
    cases hk : k == NameKind.free with
    | true =>
      have e : freeL ((x, k) :: r) = x :: freeL r := by unfold freeL; rw [List.filterMap_cons]; simp [hk]
      rw [e] at h
      have hx := h x List.mem_cons_self
      obtain ⟨c, hc0⟩ := Option.isSome_iff_exists.mp hx
      have hc : cellOf env x = pure c := by unfold cellOf; rw [hc0]
      simp only [hk, if_true, hc, pure_bind]
      rw [closure_loopC r _ fun y hy => h y (List.mem_cons_of_mem _ hy)]
      unfold capCells
      rw [e, List.map_cons, List.reverse_cons, hc0, List.append_assoc]; rfl
    | false =>
      have e : freeL ((x, k) :: r) = freeL r := by unfold freeL; rw [List.filterMap_cons]; simp [hk]
      rw [e] at h
      simp only [hk, Bool.false_eq_true, if_false, pure_bind]
      rw [closure_loopC r _ h]
      unfold capCells; rw [e]
theorem closure_cap {scope : Scope} {env : Env} (h : ∀ x ∈ freeL scope.names, (env.cells.lookup x).isSome = true) : closureFor scope env = pure (capCells env scope.names) := by
  unfold closureFor
  have := closure_loopC scope.names [] h
  simpa using this
theorem cap_lookup {env : Env} {names : List (PySem.Str × NameKind)} (hn : (freeL names).Nodup) {x : PySem.Str} (hx : x ∈ freeL names) : (capCells env names).lookup x = some ((env.cells.lookup x).getD 0) := by
  have hf : ((fun p : PySem.Str × Addr => p.1) ∘ fun x => (x, (env.cells.lookup x).getD 0)) = id := rfl
  refine lookup_of_mem ?_ ?_
  · unfold capCells
    rw [List.map_reverse, List.map_map, hf, List.map_id]
    exact (List.reverse_perm _).nodup_iff.mpr hn
  · unfold capCells
    rw [List.mem_reverse]
    exact List.mem_map.mpr ⟨x, hx, rfl⟩

section
variable {G : GS} {A : Around} {Γ : FE} {frz : Frz} {σ : St} {s : Shared} {C : SC}

noncomputable def compVars (env : Env) (names : List (PySem.Str × NameKind)) : List (PySem.Str × VK) := (locL names).map (·, .loc) ++ (freeL names).map fun x => (x, .ref ((env.cells.lookup x).getD 0))
/-- the block of a comprehension as a frame -/
noncomputable def compFE (Γ : FE) (sc : Scope) (L : Addr) : FE := ⟨compEnvC sc (capCells Γ.env sc.names) L Γ.env, compVars Γ.env sc.names⟩

theorem cap_get : ∀ {caps : List Nat} {xs : List PySem.Str}, capsOk C caps xs = true → caps.length = xs.length ∧ ∀ (j : Nat) x, xs[j]? = some x → ∃ i, caps[j]? = some i ∧ C.is i x = true ∧ C.cells.contains x = true
  | [], xs, h => by
    cases xs with
    | nil => exact ⟨rfl, fun j x e => by simp at e⟩
    | cons => cases h
  | i :: is, xs, h => by
    cases xs with
    | nil => cases h
    | cons x xs =>
      replace h : (C.is i x && C.cells.contains x && capsOk C is xs) = true := h
      simp only [Bool.and_eq_true] at h
      obtain ⟨a, b⟩ := cap_get h.2
      refine ⟨by simp [a], fun j y e => ?_⟩
      cases j with
      | zero => simp only [List.getElem?_cons_zero, Option.some.injEq] at e; subst e; exact ⟨i, rfl, h.1⟩
      | succ j => exact b j y (by simpa using e)
theorem cap_cell (ok : Γ.ok) (hC : C.ok G Γ) {i : Nat} {x : PySem.Str} (h : C.is i x = true) (hc : C.cells.contains x = true) :
    ∃ c, Γ.env.cells.lookup x = some c ∧ (Γ.vars[i]? = some (x, .own c) ∨ Γ.vars[i]? = some (x, .ref c)) := by
  obtain ⟨k, hk⟩ := is_of hC h
  cases k with
  | loc => exact absurd hk (hC.cells _ _ (List.contains_iff_mem.mp hc))
  | own c => exact ⟨c, (ok.own _ _ _ hk).2.1, .inl hk⟩
  | ref c => exact ⟨c, (ok.ref _ _ _ hk).2, .inr hk⟩

structure CompOk (C : SC) (sc : Scope) (n : Nat) (caps : List Nat) : Prop where
  kind : sc.kind = .function
  len : (locL sc.names).length = n
  caps : capsOk C caps (freeL sc.names) = true
  nd : (sc.names.map (·.1)).Nodup
  all : ∀ p ∈ sc.names, (p.2 = .local ∨ p.2 = .free ∨ p.2 = .globalImplicit) ∧ (p.1 == PySem.Str.ofString "__debug__") = false ∧ (p.1 == PySem.Str.ofString "__classdict__") = false
theorem compOk_of {sc : Scope} {n : Nat} {caps : List Nat} (h : compOk C sc n caps = true) : CompOk C sc n caps := by
  unfold compOk at h
  simp only [Bool.and_eq_true, beq_iff_eq, List.all_eq_true, Bool.or_eq_true, Bool.not_eq_true'] at h
  exact ⟨h.1.1.1.1, h.1.1.1.2, h.1.1.2, nodupS_of h.1.2, fun p hp => ⟨by rcases (h.2 p hp).1.1 with (q | q) | q <;> simp [q], (h.2 p hp).1.2, (h.2 p hp).2⟩⟩

theorem comp_free_cells (ok : Γ.ok) (hC : C.ok G Γ) {sc : Scope} {n : Nat} {caps : List Nat} (h : CompOk C sc n caps) : ∀ x ∈ freeL sc.names, (Γ.env.cells.lookup x).isSome = true := fun x hx => by
  obtain ⟨j, hj, e⟩ := List.getElem_of_mem hx
  obtain ⟨i, _, h1, h2⟩ := (cap_get h.caps).2 j x (by rw [List.getElem?_eq_getElem hj, e])
  obtain ⟨c, hc, _⟩ := cap_cell ok hC h1 h2
  rw [hc]; rfl

theorem relabel_free {env : Env} {x : PySem.Str} : ∀ {names : List (PySem.Str × NameKind)}, names.lookup x = some .free →
    (names.map fun (n, k) => if (k == NameKind.free && env.scope.kind == .function && env.kindOf n == some .cell) then (n, NameKind.cell) else (n, k)).lookup x = some .cell ∨
    (names.map fun (n, k) => if (k == NameKind.free && env.scope.kind == .function && env.kindOf n == some .cell) then (n, NameKind.cell) else (n, k)).lookup x = some .free
  | [], h => by cases h
  | (n, k) :: r, h => by
    rw [List.map_cons]
    rw [List.lookup_cons] at h
    cases hx : x == n with
    | true =>
      rw [hx] at h; cases h
      dsimp only
      split
      · left; rw [List.lookup_cons, hx]
      · right; rw [List.lookup_cons, hx]
    | false =>
      rw [hx] at h
      have ih := relabel_free (env := env) h
      dsimp only
      split <;> (rw [List.lookup_cons, hx]; exact ih)
theorem relabel_glob {env : Env} {x : PySem.Str} : ∀ {names : List (PySem.Str × NameKind)}, names.lookup x = some .globalImplicit →
    (names.map fun (n, k) => if (k == NameKind.free && env.scope.kind == .function && env.kindOf n == some .cell) then (n, NameKind.cell) else (n, k)).lookup x = some .globalImplicit
  | [], h => by cases h
  | (n, k) :: r, h => by
    rw [List.map_cons]
    rw [List.lookup_cons] at h
    cases hx : x == n with
    | true =>
      rw [hx] at h; cases h
      dsimp only
      rw [if_neg (by simp), List.lookup_cons, hx]
    | false =>
      rw [hx] at h
      have ih := relabel_glob (env := env) h
      dsimp only
      split <;> (rw [List.lookup_cons, hx]; exact ih)

theorem compVars_get {env : Env} {names : List (PySem.Str × NameKind)} {i : Nat} {x : PySem.Str} {k : VK} (h : (compVars env names)[i]? = some (x, k)) :
    (k = .loc ∧ (locL names)[i]? = some x) ∨ (∃ j, i = (locL names).length + j ∧ (freeL names)[j]? = some x ∧ k = .ref ((env.cells.lookup x).getD 0)) := by
  unfold compVars at h
  by_cases hi : i < (locL names).length
  · rw [List.getElem?_append_left (by simpa using hi), List.getElem?_map, Option.map_eq_some_iff] at h
    obtain ⟨y, a, b⟩ := h
    cases b; exact .inl ⟨rfl, a⟩
  · rw [List.getElem?_append_right (by simpa using hi), List.length_map, List.getElem?_map, Option.map_eq_some_iff] at h
    obtain ⟨y, a, b⟩ := h
    cases b; exact .inr ⟨_, by omega, a, rfl⟩

theorem comp_ok (ok : Γ.ok) (hC : C.ok G Γ) {sc : Scope} {n : Nat} {caps : List Nat} (h : CompOk C sc n caps) (L : Addr) : (compFE Γ sc L).ok := by
  have hloc : ∀ x, x ∈ locL sc.names → sc.names.lookup x = some .local := fun x hx => lookup_of_mem h.nd (mem_locL hx)
  have hfree : ∀ x, x ∈ freeL sc.names → sc.names.lookup x = some .free := fun x hx => lookup_of_mem h.nd (mem_freeL hx)
  have ndl := h.nd.sublist (locL_sub sc.names)
  have ndf := h.nd.sublist (freeL_sub sc.names)
  refine ⟨h.kind, ok.glb, ok.bui, ?_, ?_, ?_, ?_, ?_, ?_⟩
  · intro i x hx
    rcases compVars_get hx with ⟨_, a⟩ | ⟨j, _, _, e⟩
    · exact lookup_relabel_local (hloc x (List.mem_of_getElem? a))
    · cases e
  · intro i x c hx
    rcases compVars_get hx with ⟨e, _⟩ | ⟨j, _, _, e⟩ <;> cases e
  · intro i x c hx
    rcases compVars_get hx with ⟨e, _⟩ | ⟨j, _, a, e⟩
    · cases e
    · cases e
      have hm := List.mem_of_getElem? a
      refine ⟨relabel_free (hfree x hm), ?_⟩
      exact cap_lookup ndf hm
  · intro i j x k k' hx hy
    rcases compVars_get hx with ⟨_, a⟩ | ⟨i', rfl, a, _⟩ <;> rcases compVars_get hy with ⟨_, b⟩ | ⟨j', rfl, b, _⟩
    · obtain ⟨hi, e1⟩ := List.getElem?_eq_some_iff.mp a
      exact (List.getElem?_inj hi ndl).mp (a.trans b.symm)
    · have := (hloc x (List.mem_of_getElem? a)).symm.trans (hfree x (List.mem_of_getElem? b)); cases this
    · have := (hloc x (List.mem_of_getElem? b)).symm.trans (hfree x (List.mem_of_getElem? a)); cases this
    · obtain ⟨hi, e1⟩ := List.getElem?_eq_some_iff.mp a
      rw [(List.getElem?_inj hi ndf).mp (a.trans b.symm)]
  · intro i j x y c hx
    rcases compVars_get hx with ⟨e, _⟩ | ⟨_, _, _, e⟩ <;> cases e
  · intro i x k hx
    rcases compVars_get hx with ⟨_, a⟩ | ⟨j, _, a, _⟩
    · exact (h.all _ (mem_locL (List.mem_of_getElem? a))).2
    · exact (h.all _ (mem_freeL (List.mem_of_getElem? a))).2

theorem comp_sc (ok : Γ.ok) (hC : C.ok G Γ) {sc : Scope} {n : Nat} {caps : List Nat} (h : CompOk C sc n caps) (L : Addr) : (compSC C sc).ok G (compFE Γ sc L) := by
  have hfree : ∀ x, x ∈ freeL sc.names → sc.names.lookup x = some .free := fun x hx => lookup_of_mem h.nd (mem_freeL hx)
  refine ⟨?_, hC.fns, hC.meths, ?_, ?_⟩
  · intro i x hx e
    rcases compVars_get e with ⟨_, a⟩ | ⟨_, _, _, e⟩
    · have := (lookup_of_mem h.nd (mem_locL (List.mem_of_getElem? a))).symm.trans (hfree x hx); cases this
    · cases e
  · intro i x r hx
    replace hx : ((locL sc.names).map (·, false) ++ (freeL sc.names).map (·, true))[i]? = some (x, r) := hx
    by_cases hi : i < (locL sc.names).length
    · rw [List.getElem?_append_left (by simpa using hi), List.getElem?_map, Option.map_eq_some_iff] at hx
      obtain ⟨y, a, b⟩ := hx
      cases b
      refine ⟨.loc, ?_, fun _ c q => by cases q⟩
      show (compVars Γ.env sc.names)[i]? = _
      unfold compVars
      rw [List.getElem?_append_left (by simpa using hi), List.getElem?_map, a]; rfl
    · rw [List.getElem?_append_right (by simpa using hi), List.length_map, List.getElem?_map, Option.map_eq_some_iff] at hx
      obtain ⟨y, a, b⟩ := hx
      cases b
      refine ⟨.ref ((Γ.env.cells.lookup x).getD 0), ?_, fun q => by cases q⟩
      show (compVars Γ.env sc.names)[i]? = _
      unfold compVars
      rw [List.getElem?_append_right (by simpa using hi), List.length_map, List.getElem?_map, a]; rfl
  · intro x hx
    replace hx : (sc.names.filter fun p => p.2 == .globalImplicit).lookup x = some .globalImplicit := hx
    have hm : (x, NameKind.globalImplicit) ∈ sc.names := by
      have : ∀ {l : List (PySem.Str × NameKind)}, l.lookup x = some .globalImplicit → (x, NameKind.globalImplicit) ∈ l := by
        intro l
        induction l with
        | nil => intro h; cases h
        | cons p l ih =>
          obtain ⟨y, d⟩ := p
          intro h
          rw [List.lookup_cons] at h
          split at h
          · rename_i e; rw [beq_iff_eq] at e; subst e; cases h; simp
          · exact List.mem_cons_of_mem _ (ih h)
      exact (List.mem_filter.mp (this hx)).1
    exact relabel_glob (lookup_of_mem h.nd hm)
end
end Mine
set_option autoImplicit false
set_option maxRecDepth 10000
set_option linter.unusedVariables false
namespace Mine
open PySem PyProof.Rows PySem.W

section
variable {G : GS} {A : Around} {Γ : FE} {frz : Frz} {σ : St} {s : Shared} {C : SC}

noncomputable def testsOf (ifs : List Expr) (env : Env) : Sem Bool :=
  forIn ifs true fun c r => if r = true then do let ok ← isTrue c env (eval c env); pure (ForInStep.yield ok) else pure (ForInStep.yield r)

theorem comp_loop {elt target iter : Expr} {ifs : List Expr} {scope : Scope} {pos : Pos} {it : Addr} {acc : Value} {env : Env} {R : Result → Shared → Prop} (I : Nat → Shared → Prop)
    (turn : ∀ n s, I n s → wpAny (model G.prog G.w) A (pyNext (.ref it)) (fun r s₁ => match r with
      | none => R (.ok .next) s₁
      | some v => wpAny (model G.prog G.w) A (letOwnedTupleGo target (.ref it) v) (fun _ s₁' => wpAny (model G.prog G.w) A (assign target env v) (fun _ s₂ =>
          wpAny (model G.prog G.w) A (testsOf ifs env) (fun ok s₃ =>
            if ok = true then wpAny (model G.prog G.w) A (eval elt env) (fun x s₄ =>
              wpAny (model G.prog G.w) A (call (.builtin "list.append") [acc, x]) (fun _ s₅ => ∃ m, m < n ∧ I m s₅) NoE s₄) NoE s₃
            else ∃ m, m < n ∧ I m s₃) NoE s₂) NoE s₁') NoE s₁) NoE s)
    (n : Nat) (h : I n s) : codeAny (model G.prog G.w) A (.compLoop (.ListComp elt [⟨target, iter, ifs, 0⟩] scope pos) 0 (.ref it) acc env) R s := by
  refine codeAny_loop rfl I (fun n s hI => ?_) n h
  show wpAny _ A ((compTurn (.ListComp elt [⟨target, iter, ifs, 0⟩] scope pos) 0 (.ref it) acc env).onRaise (fun x => do noteFrame x env; theTreesLotGoes x)) _ _ s
  refine wpAny_noted ?_
  rw [compTurn_list]
  refine wpAny_bind (wpAny_standAt (wpAny_bind (wpAny_mono (turn n s hI) (fun r s₁ h₁ => ?_) fun _ _ h' => h'.elim)))
  cases r with
  | none => exact wpAny_pure h₁
  | some v =>
    refine wpAny_bind (wpAny_mono h₁ (fun _ s₁' h₁' => ?_) fun _ _ h' => h'.elim)
    refine wpAny_bind (wpAny_mono h₁' (fun _ s₂ h₂ => wpAny_bind (wpAny_mono h₂ (fun ok s₃ h₃ => ?_) fun _ _ h' => h'.elim)) fun _ _ h' => h'.elim)
    cases ok with
    | false => exact wpAny_pure ⟨rfl, h₃⟩
    | true =>
      exact wpAny_bind (wpAny_bind (wpAny_mono h₃ (fun x s₄ h₄ => wpAny_bind (wpAny_mono h₄ (fun _ s₅ h₅ => wpAny_pure (wpAny_pure ⟨rfl, h₅⟩)) fun _ _ h' => h'.elim)) fun _ _ h' => h'.elim))

/-- an object aside grows by one -/
theorem s_accum (r : Rep G Γ frz σ s) {acc : Addr} {arr : Array Value} {n : Nat} {us : List V} {u : V} {cu : Value} (d : Aside G Γ frz σ acc) (ha : s.heap.get? acc = some { cls := .type "list", data := .seq arr n }) (ru : RVs s.heap arr.toList us) (hu : RV s.heap cu u) (hs : small us.length) :
    wpAny (model G.prog G.w) A (call (.builtin "list.append") [.ref acc, cu]) (fun _ s' => Rep G Γ frz σ s' ∧ TK s.heap s'.heap ∧ (∀ b o, b ≠ acc → s.heap.get? b = some o → s'.heap.get? b = some o) ∧
      ∃ arr' n', s'.heap.get? acc = some { cls := .type "list", data := .seq arr' n' } ∧ RVs s'.heap arr'.toList (us ++ [u])) NoE s := by
  have hz := ru.length
  simp only [Array.length_toList] at hz
  refine call_meets PySem.F.slot_list_append ⟨_, ha, rfl⟩ PySem.F.entry_list_append (PySem.F.args_list_append_2 _ _) (AutoListH.list_append_list_val_0 _ _ _ _ (by rw [hz]; exact small_line hs)) ⟨ha, ?_⟩
  have k : ∀ b o, b ≠ acc → s.heap.get? b = some o → (s.heap.update acc (Obj.mapSeq fun x => x.push cu)).get? b = some o := fun b o hb e => (Heap.get?_update_other _ _ (Ne.symm hb)).trans e
  obtain ⟨q1, q2⟩ := r.aside (tk := s.toks) d ha (by simp [Imm]) k
  exact ⟨q1, q2, k, _, _, Heap.get?_update_self _ ha rfl, by simpa [Obj.mapSeq] using (ru.tk q2).append (RVs.one (hu.tk q2))⟩

structure CompWalk (G : GS) (A : Around) (P : PC) (Γ' : FE) (elt target : Expr) (ifs : List Expr) (one : Bool) (is : List Nat) (cs : List Ex) (x : Ex) : Prop where
  bind : ∀ {v : V} {Q : St → Prop} {σ : St}, bindIs one is v Q σ → ∀ {frz : Frz} {s : Shared} {cv : Value}, Rep G Γ' frz σ s → RV s.heap cv v → wpAny (model G.prog G.w) A (assign target Γ'.env cv) (PU G Γ' frz s Q) NoE s
  test : ∀ {Q : Bool → St → Prop} {σ : St}, wpTs P true cs Q σ → WB G A Γ' (testsOf ifs Γ'.env) Q σ
  elt : ∀ {Q : V → St → Prop} {σ : St}, wpE P x Q σ → W G A Γ' (eval elt Γ'.env) Q σ

/-- the loop of a comprehension, from a frame of its own -/
theorem comp_run {P : PC} {Γ' : FE} {elt target iter : Expr} {ifs : List Expr} {scope : Scope} {pos : Pos} {one : Bool} {is : List Nat} {cs : List Ex} {x : Ex} {it acc : Addr} {o : Obj} {g : Mem → Prop} {R : List V → Mem → Prop} {vs : List V}
    (hA : Rm A) (cw : CompWalk G A P Γ' elt target ifs one is cs x) (r : Rep G Γ' frz σ s) (hne : it ≠ acc) (d1 : Aside G Γ' frz σ it) (d2 : Aside G Γ' frz σ acc) (ho : s.heap.get? it = some o) (hi : IterAt s.heap o g vs)
    (ha : s.heap.get? acc = some { cls := .type "list", data := .seq #[] 0 }) (hs : small vs.length) (w : wpComp (bindIs one is) (wpTs P true cs) (wpE P x) g R vs [] σ) {RR : Result → Shared → Prop}
    (fin : ∀ s' σ' us arr n, Rep G Γ' frz σ' s' → TK s.heap s'.heap → Aside G Γ' frz σ' acc → s'.heap.get? acc = some { cls := .type "list", data := .seq arr n } → RVs s'.heap arr.toList us → R us σ'.mem → RR (.ok .next) s') :
    codeAny (model G.prog G.w) A (.compLoop (.ListComp elt [⟨target, iter, ifs, 0⟩] scope pos) 0 (.ref it) (.ref acc) Γ'.env) RR s := by
  refine comp_loop (fun n s' => ∃ σ' vs' us o arr na, vs'.length = n ∧ us.length + vs'.length ≤ vs.length ∧ Rep G Γ' frz σ' s' ∧ TK s.heap s'.heap ∧ Aside G Γ' frz σ' it ∧ Aside G Γ' frz σ' acc ∧ s'.heap.get? it = some o ∧ IterAt s'.heap o g vs' ∧
    s'.heap.get? acc = some { cls := .type "list", data := .seq arr na } ∧ RVs s'.heap arr.toList us ∧ wpComp (bindIs one is) (wpTs P true cs) (wpE P x) g R vs' us σ') ?_ vs.length
    ⟨σ, vs, [], o, #[], 0, rfl, by simp, r, .refl _, d1, d2, ho, hi, ha, .nil, w⟩
  intro n s₁ hI
  obtain ⟨σ₁, vs', us, o₁, arr, na, hl, hb, r1, t1, a1, b1, ho1, i1, ha1, ru1, w1⟩ := hI
  have r1' := r1.asideIn b1 ha1
  have ae1 : Aside G Γ' (frzAdd frz acc { cls := .type "list", data := .seq arr na }) σ₁ it := ⟨a1.m, by unfold frzAdd; rw [if_neg hne]; exact a1.f, a1.l, a1.c, a1.r⟩
  cases vs' with
  | nil =>
    refine wpAny_mono (iter_next hA r1' ae1 ho1 i1 w1.1) (fun y s₂ p => ?_) fun _ _ x => x.elim
    cases y with
    | some _ => exact False.elim p
    | none =>
      obtain ⟨r2, t2⟩ := p
      obtain ⟨r2', b2, ha2⟩ := Rep.asideOut r1 b1 r2
      exact fin s₂ σ₁ us arr na r2' (t1.trans t2) b2 ha2 (ru1.tk t2) w1.2
  | cons v vs' =>
    refine wpAny_mono (iter_next hA r1' ae1 ho1 i1 w1.1) (fun y s₂ p => ?_) fun _ _ x => x.elim
    cases y with
    | none => exact False.elim p
    | some cv =>
      obtain ⟨rv, r2, t2, o2, ho2, i2⟩ := p
      show wpAny _ _ (letOwnedTupleGo target (Value.ref it) cv) _ _ s₂
      refine letGo_none ho2 i2 ?_
      have r2' := r2.asideIn ae1 ho2
      refine wpAny_mono (cw.bind w1.2 r2' rv) (fun _ s₃ p => ?_) fun _ _ x => x.elim
      obtain ⟨σ₃, r3, t3, w3⟩ := p
      refine wpAny_mono (cw.test w3 _ _ r3) (fun ok s₄ p => ?_) fun _ _ x => x.elim
      obtain ⟨σ₄, r4, t4, w4⟩ := p
      simp only [List.length_cons] at hb hl
      cases ok with
      | false =>
        rw [if_neg (by decide)] at w4 ⊢
        obtain ⟨r5, a5, ho5⟩ := Rep.asideOut r2 ae1 r4
        obtain ⟨r6, b6, ha6⟩ := Rep.asideOut r1 b1 r5
        have tt := (t2.trans t3).trans t4
        exact ⟨vs'.length, by omega, σ₄, vs', us, o2, arr, na, rfl, by omega, r6, t1.trans tt, ⟨a5.m, a1.f, a1.l, a1.c, a1.r⟩, b6, ho5, i2.tk (t3.trans t4), ha6, ru1.tk tt, w4⟩
      | true =>
        rw [if_pos rfl] at w4 ⊢
        refine wpAny_mono (cw.elt w4 _ _ r4) (fun cu s₅ p => ?_) fun _ _ x => x.elim
        obtain ⟨u, σ₅, rvu, r5, t5, w5⟩ := p
        obtain ⟨r6, a6, ho6⟩ := Rep.asideOut r2 ae1 r5
        obtain ⟨r7, b7, ha7⟩ := Rep.asideOut r1 b1 r6
        have tt := ((t2.trans t3).trans t4).trans t5
        refine wpAny_mono (s_accum r7 b7 ha7 (ru1.tk tt) rvu (by unfold small at hs ⊢; omega)) (fun _ s₆ p => ?_) fun _ _ x => x
        obtain ⟨r8, t8, k8, arr', n', ha8, ru8⟩ := p
        exact ⟨vs'.length, by omega, σ₅, vs', us ++ [u], o2, arr', n', rfl, by rw [List.length_append, List.length_singleton]; omega, r8, (t1.trans tt).trans t8, ⟨a6.m, a1.f, a1.l, a1.c, a1.r⟩, b7, k8 _ _ hne ho6, (i2.tk ((t3.trans t4).trans t5)).tk t8, ha8, ru8, w5⟩
end
end Mine
set_option autoImplicit false
set_option maxRecDepth 10000
set_option linter.unusedVariables false
namespace Mine
open PySem PyProof.Rows PySem.W

section
variable {G : GS} {A : Around} {Γ : FE} {frz : Frz} {σ : St} {s : Shared} {C : SC}

theorem folded_plain {e : Expr} {env : Env} (h : plainE e = true) (x : Value) : foldedSetIterable e env x = pure x := by
  cases e <;> first | rfl | exact absurd h Bool.false_ne_true

theorem iter_self {it : Addr} {o : Obj} {g : Mem → Prop} {vs : List V} {post : Value → Shared → Prop} {E : Value → Shared → Prop} (ho : s.heap.get? it = some o) (i : IterAt s.heap o g vs) (q : post (.ref it) s) :
    wpAny (model G.prog G.w) A (pyIter (.ref it)) post E s := by
  cases i with
  | list a b => exact wpAny_pyIter_listiter ⟨o, ho, a, b⟩ q
  | tup a b _ _ => exact wpAny_pyIter_tupleiter ⟨o, ho, a, b⟩ q
  | rng => exact wpAny_pyIter_rangeiter ho q
  | @str _ x t i a b =>
    cases hasc : (mkS x).cps.all (· < 128) with
    | true =>
      have st : strIterType (mkS x) = "str_ascii_iterator" := by unfold strIterType; rw [hasc]; rfl
      rw [st] at a
      exact wpAny_pyIter_striter_ascii ⟨o, ho, a, b⟩ q
    | false =>
      have st : strIterType (mkS x) = "str_iterator" := by unfold strIterType; rw [hasc]; rfl
      rw [st] at a
      exact wpAny_pyIter_striter_wide ⟨o, ho, a, b⟩ q

/-- all but the iterator stands still within the comprehension's block -/
noncomputable def frzC (σ : St) (s : Shared) (it : Addr) : Frz := fun b => if b = it then none else frzIn σ s b

theorem comp_rep (ok : Γ.ok) (hC : C.ok G Γ) {sc : Scope} {n : Nat} {caps : List Nat} (hc : CompOk C sc n caps) (r : Rep G Γ frz σ s) {it L : Addr} (d : Aside G Γ frz σ it) (hL : s.heap.objs.size < L) {h₁ : Heap} {tk : Nat} (k : ∀ b o, s.heap.get? b = some o → h₁.get? b = some o)
    {m : PySem.Str → Option Value} (ns : h₁.Ns L m) : Rep G (compFE Γ sc L) (frzC σ s it) (compSt σ n caps) { s with heap := h₁, toks := tk } := by
  have fr : ∀ b o, frzC σ s it b = some o → s.heap.get? b = some o ∧ σ.mem b = none := fun b o e => by
    unfold frzC at e
    split at e
    · cases e
    · have := frzIn_some.mp e; exact ⟨this.2, this.1⟩
  have up : ∀ b o, frz b = some o → frzC σ s it b = some o := fun b o e => by
    unfold frzC
    rw [if_neg (fun z => by subst z; rw [d.f] at e; cases e)]
    exact r.upIn e
  have t := TK.of k
  have hlf : frzC σ s it L = none := by
    cases q : frzC σ s it L with
    | none => rfl
    | some o => exact absurd (Heap.lt_size (fr _ _ q).1) (Nat.not_lt.mpr (Nat.le_of_lt hL))
  refine ⟨let ⟨_, _, e⟩ := r.same; ⟨h₁, tk, by rw [e]⟩, fun b o e => up b o (r.hbase b o e), fun b o e => up b o (r.hkeep b o e), fun b o e => k _ _ (fr b o e).1, fun a o e => (r.hmem a o e).keep t (k a), fun a o e => ?_, ?_, hlf, (r.none_of_ge (Nat.le_of_lt hL)).1, ?_, ?_, ?_⟩
  · cases q : frzC σ s it a with
    | none => rfl
    | some o' => have := (fr _ _ q).2; rw [show σ.mem a = some o from e] at this; cases this
  · exact Nat.le_of_lt (Nat.lt_of_le_of_lt (Nat.le_of_lt (Nat.lt_of_le_of_lt r.hab r.lt_locals)) hL)
  · refine ⟨m, ns, fun i x v hx hv => ?_⟩
    rcases compVars_get hx with ⟨_, a⟩ | ⟨j, _, _, e⟩
    · have hi : i < n := by rw [← hc.len]; exact (List.getElem?_eq_some_iff.mp a).1
      replace hv : (List.replicate n none ++ caps.map fun i => (σ.loc[i]?).join)[i]? = some (some v) := hv
      rw [List.getElem?_append_left (by simpa using hi), List.getElem?_replicate] at hv
      split at hv <;> cases hv
    · cases e
  · intro i x c hx
    rcases compVars_get hx with ⟨e, _⟩ | ⟨_, _, _, e⟩ <;> cases e
  · intro i x c hx
    rcases compVars_get hx with ⟨e, _⟩ | ⟨j, hi, a, e⟩
    · cases e
    obtain ⟨i', h1, h2, h3⟩ := (cap_get hc.caps).2 j x a
    obtain ⟨c', hc', hv⟩ := cap_cell ok hC h2 h3
    have ec : c = c' := by injection e with e; rw [e, hc']; rfl
    subst ec
    have loc : ∀ v, (compSt σ n caps).loc[i]? = some (some v) → σ.loc[i']? = some (some v) := fun v hv => by
      replace hv : (List.replicate n none ++ caps.map fun i => (σ.loc[i]?).join)[i]? = some (some v) := hv
      rw [hi, hc.len, List.getElem?_append_right (by simp), List.length_replicate, Nat.add_sub_cancel_left, List.getElem?_map, h1] at hv
      simp only [Option.map_some, Option.some.injEq] at hv
      cases q : σ.loc[i']? with
      | none => rw [q] at hv; cases hv
      | some y => rw [q] at hv; rw [show y = some v from hv]
    rcases hv with hv | hv
    · obtain ⟨p, q, o, ov, g, dd, f⟩ := r.hown i' x c hv
      refine ⟨o, ov, ?_, dd, fun v hv' => let ⟨cv, e1, e2⟩ := f v (loc v hv'); ⟨cv, e1, e2.tk t⟩⟩
      unfold frzC
      rw [if_neg (d.c i' x c hv)]
      exact frzIn_some.mpr ⟨q, g⟩
    · obtain ⟨o, ov, g, dd, f⟩ := r.href i' x c hv
      exact ⟨o, ov, up _ _ g, dd, fun v hv' => let ⟨cv, e1, e2⟩ := f v (loc v hv'); ⟨cv, e1, e2.tk t⟩⟩

theorem comp_core {P : PC} {elt target iter : Expr} {ifs : List Expr} {sc : Scope} {pos ipos : Pos} {one : Bool} {is : List Nat} {cs : List Ex} {x : Ex} {n : Nat} {caps : List Nat} {use : Option (Value → Sem Unit)} {QQ : Value → Shared → Prop} {R : St → List V → Mem → Prop}
    (hA : Rm A) (ok : Γ.ok) (hC : C.ok G Γ) (hc : CompOk C sc n caps) (hpl : plainE iter = true) (cw : ∀ L, CompWalk G A P (compFE Γ sc L) elt target ifs one is cs x) (r : Rep G Γ frz σ s)
    (w : W G A Γ (eval iter Γ.env) (fun v σ₁ => wpItems σ₁.mem v fun vs g => small vs.length ∧ wpComp (bindIs one is) (wpTs P true cs) (wpE P x) g (R σ₁) vs [] (compSt σ₁ n caps)) σ)
    (fin : ∀ σ₁ s' us m' D L mL, R σ₁ us m' → m' D = none → Rep G Γ frz ⟨σ₁.loc, upd m' D (.list us)⟩ s' → TK s.heap s'.heap → Aside G Γ frz ⟨σ₁.loc, upd m' D (.list us)⟩ L → s'.heap.Ns L mL → compPost (model G.prog G.w) A NoE use QQ (.ref D) L (.ok .next) s') :
    wpAny (model G.prog G.w) A (comprehension (.ListComp elt [⟨target, iter, ifs, 0⟩] sc pos) sc Γ.env ipos (newList []) false (eval iter Γ.env) use) QQ NoE s := by
  have hcell : ∀ y ∈ sc.names, y.2 ≠ .cell := fun y hy q => by rcases (hc.all y hy).1 with e | e | e <;> rw [e] at q <;> cases q
  refine wpAny_comprehension_free (g := ⟨target, iter, ifs, 0⟩) (gs := []) rfl (folded_plain hpl) (closure_cap (comp_free_cells ok hC hc)) hc.kind (fun y hy hl => lookup_of_mem hc.nd (by rw [← hl]; exact hy)) ?_
  refine w.then r fun cv v σ₁ s₁ a1 r1 t1 w1 => ?_
  obtain ⟨vs, g, ⟨hsm, w2⟩, mk⟩ := iter_make (A := A) r1 a1 w1
  refine wpAny_mono mk (fun itv s₂ p => ?_) fun _ _ x => x
  obtain ⟨ia, o, rfl, r2, t2, d2, ho2, i2⟩ := p
  refine wpAny_newObj_type (wpAny_newFunctionEnv hcell (by intro y hy; simp at hy) (fun h₁ hns₁ hsb₁ => ?_) hc.kind)
  dsimp only at hns₁ hsb₁ ⊢
  have kpush := push_keeps s₂.heap { cls := .type "list", dict := none, data := .seq ([] : List Value).toArray }
  have hD2 := Heap.get?_push_size s₂.heap (o := { cls := .type "list", dict := none, data := .seq ([] : List Value).toArray }) rfl
  have hsz : (s₂.heap.push { cls := .type "list", dict := none, data := .seq ([] : List Value).toArray }).objs.size = s₂.heap.objs.size + 1 := Heap.size_push ..
  generalize s₂.heap.push { cls := .type "list", dict := none, data := .seq ([] : List Value).toArray } = H2 at hns₁ hsb₁ kpush hD2 hsz ⊢
  have hLt : s₂.heap.objs.size < H2.objs.size := by omega
  have neL : ∀ b, b < H2.objs.size → b ≠ H2.objs.size := fun b hb => Nat.ne_of_lt hb
  have old : ∀ b o, s₂.heap.get? b = some o → h₁.get? b = some o := fun b o e =>
    hsb₁.extBut b o (neL b (Nat.lt_trans (Heap.lt_size e) hLt)) (Heap.get?_push_of_some _ (kpush b o e))
  have hD : h₁.get? s₂.heap.objs.size = some { cls := .type "list", data := .seq #[] 0 } := hsb₁.extBut _ _ (neL _ hLt) (Heap.get?_push_of_some _ hD2)
  have r3 := comp_rep ok hC hc r2 d2 hLt (tk := s₂.toks + ([] : List (PySem.Str × Value)).length) old hns₁
  have nf : ∀ b, s₂.heap.objs.size ≤ b → frzIn σ₁ s₂ b = none := fun b hb => by
    cases q : frzIn σ₁ s₂ b with
    | none => rfl
    | some o => exact absurd (Heap.lt_size (frzIn_some.mp q).2) (Nat.not_lt.mpr hb)
  have hia : ia < s₂.heap.objs.size := Heap.lt_size ho2
  have cellLt : ∀ (i : Nat) y c, (compFE Γ sc H2.objs.size).vars[i]? = some (y, .ref c) → c ≠ ia ∧ c < s₂.heap.objs.size := fun i y c hx => by
    obtain ⟨ob, ov, g, _, _⟩ := r3.href i y c hx
    unfold frzC at g
    split at g
    · cases g
    · rename_i q
      exact ⟨q, Heap.lt_size (frzIn_some.mp g).2⟩
  have noOwn : ∀ (i : Nat) y c, (compFE Γ sc H2.objs.size).vars[i]? = some (y, .own c) → False := fun i y c hx => by
    rcases compVars_get hx with ⟨e, _⟩ | ⟨_, _, _, e⟩ <;> cases e
  have a1' : Aside G (compFE Γ sc H2.objs.size) (frzC σ₁ s₂ ia) (compSt σ₁ n caps) ia := ⟨d2.m, by unfold frzC; rw [if_pos rfl], Nat.ne_of_lt (Nat.lt_trans hia hLt), fun i y c hx => (noOwn i y c hx).elim, fun i y c hx => (cellLt i y c hx).1⟩
  have a2' : Aside G (compFE Γ sc H2.objs.size) (frzC σ₁ s₂ ia) (compSt σ₁ n caps) s₂.heap.objs.size :=
    ⟨(r2.none_of_ge (Nat.le_refl _)).1, by unfold frzC; rw [if_neg (Nat.ne_of_gt hia)]; exact nf _ (Nat.le_refl _), Nat.ne_of_lt hLt, fun i y c hx => (noOwn i y c hx).elim, fun i y c hx => Nat.ne_of_lt (cellLt i y c hx).2⟩
  have t3 : TK s₂.heap h₁ := .of old
  have go : ∀ s₃ : Shared, s₃ = { s₂ with heap := h₁, toks := s₂.toks + ([] : List (PySem.Str × Value)).length } →
      codeAny (model G.prog G.w) A (.compLoop (.ListComp elt [⟨target, iter, ifs, 0⟩] sc pos) 0 (.ref ia) (.ref s₂.heap.objs.size) (compFE Γ sc H2.objs.size).env) (compPost (model G.prog G.w) A NoE use QQ (.ref s₂.heap.objs.size) H2.objs.size) s₃ := by
    rintro s₃ rfl
    refine comp_run hA (cw _) r3 (Nat.ne_of_lt hia) a1' a2' (old _ _ ho2) (i2.tk t3) hD hsm w2 fun s' σ' us arr na r4 t4 a4 ha4 ru4 hR => ?_
    have tt : TK s₂.heap s'.heap := t3.trans t4
    have b1 : Rep G Γ frz ⟨σ₁.loc, σ'.mem⟩ s' := r2.back rfl r4.rp (fun b o e hor hg => by
      unfold frzC
      rw [if_neg (fun z => ?_)]
      · exact frzIn_some.mpr ⟨e, hg⟩
      · subst z
        rcases hor with q | ⟨o', q⟩ | ⟨i, y, q⟩
        · exact d2.l q
        · rw [d2.f] at q; cases q
        · exact d2.c i y _ q rfl) tt
    have r2' : ∀ b, s₂.heap.objs.size ≤ b → frz b = none ∧ b ≠ Γ.env.locals ∧ (∀ (i : Nat) y c, Γ.vars[i]? = some (y, .own c) → c ≠ b) ∧ (∀ (i : Nat) y c, Γ.vars[i]? = some (y, .ref c) → c ≠ b) := fun b hb => by
      have := r2.asideNew hb
      exact ⟨this.f, this.l, this.c, this.r⟩
    have hn := r2' _ (Nat.le_refl _)
    have hn2 := r2' _ (Nat.le_of_lt hLt)
    have b2 := b1.join (a := s₂.heap.objs.size) (o := .list us) a4.m hn.1 hn.2.1 hn.2.2.1 (.list ha4 ru4)
    obtain ⟨mL, nsL, _⟩ := r4.hns
    refine fin σ₁ s' us σ'.mem s₂.heap.objs.size H2.objs.size mL hR a4.m b2 ((t1.trans t2).trans tt) ⟨?_, hn2.1, hn2.2.1, hn2.2.2.1, hn2.2.2.2⟩ nsL
    show upd σ'.mem _ _ _ = none
    rw [upd_ne _ _ (Nat.ne_of_gt hLt)]; exact r4.hlm
  exact codeAny_compStart_list (go _ rfl) (iter_self (old _ _ ho2) (i2.tk t3) (go _ rfl))

/-- a comprehension's value -/
theorem s_comp {P : PC} {elt target iter : Expr} {ifs : List Expr} {sc : Scope} {pos : Pos} {one : Bool} {is : List Nat} {cs : List Ex} {x : Ex} {n : Nat} {caps : List Nat} {Q : V → St → Prop}
    (hA : Rm A) (ok : Γ.ok) (hC : C.ok G Γ) (hc : CompOk C sc n caps) (hpl : plainE iter = true) (cw : ∀ L, CompWalk G A P (compFE Γ sc L) elt target ifs one is cs x)
    (w : W G A Γ (eval iter Γ.env) (fun v σ₁ => wpItems σ₁.mem v fun vs g => small vs.length ∧ wpComp (bindIs one is) (wpTs P true cs) (wpE P x) g (fun us m => ∀ a, m a = none → Q (.obj a) { σ₁ with mem := upd m a (.list us) }) vs [] (compSt σ₁ n caps)) σ) :
    W G A Γ (eval (.ListComp elt [⟨target, iter, ifs, 0⟩] sc pos) Γ.env) Q σ := fun frz s r => by
  rw [eval_ListComp]
  refine comp_core (use := none) hA ok hC hc hpl cw r w fun σ₁ s' us m' D L mL hR hm r' t' d' ns => ?_
  refine ⟨mL, ns, fun h' hs' => ?_⟩
  obtain ⟨oL, es, ep, e, dL, _⟩ := ns
  obtain ⟨r2, t2⟩ := r'.aside (tk := s'.toks) d' e (by rintro (⟨_, _, _, q⟩ | ⟨_, _, q, _⟩) <;> rw [dL] at q <;> cases q) hs'.extBut
  exact ⟨.obj D, _, .obj D, r2, t'.trans t2, hR D hm⟩
end
end Mine
set_option autoImplicit false
set_option maxRecDepth 10000
set_option linter.unusedVariables false
namespace Mine
open PySem PyProof.Rows PySem.W

section
variable {G : GS} {A : Around} {P : PC}

theorem base_of {o : Expr} {attr : PySem.Str} {env : Env} {t : Sem Value} (h : notCall o = true) : attributeBase o attr env t = t := by
  cases o <;> first | rfl | exact absurd h Bool.false_ne_true

theorem meth_few {o : Expr} {name : PySem.Str} {ap pos : Pos} {env : Env} {ov : Value} {xs : List Expr} {s : Shared} {Q : Value → Shared → Prop} (hn : xs.length < 20) (hl : ap.endLine = pos.line)
    (h : ∀ pl : Sem Bool, wpAny (model G.prog G.w) A (getMethod ov name pl) (fun p s₁ => wpAny (model G.prog G.w) A (callWith pos p.1 p.2 (xs.map fun e => (false, eval e env)) []) Q NoE s₁) NoE s) :
    wpAny (model G.prog G.w) A (methodCall o name ap pos env ov (xs.length + ([] : List Keyword).length) (xs.map fun e => (false, eval e env)) (backToKw pos (keywordEach [] env))) Q NoE s := by
  have few : methodCallForm (xs.length + ([] : List Keyword).length) (xs.map fun e => (false, eval e env)) (backToKw pos (keywordEach [] env)) = true := by
    unfold methodCallForm
    simp only [Bool.and_eq_true, decide_eq_true_eq]
    refine ⟨⟨?_, rfl⟩, ?_⟩
    · rw [List.all_map, List.all_eq_true]; intro _ _; rfl
    · show xs.length + 0 + 0 < 30
      omega
  unfold methodCall
  rw [few]
  refine wpAny_bind (wpAny_holding ?_)
  refine wpAny_mono (h _) (fun p s₁ h₁ => ?_) fun _ _ x => x
  obtain ⟨f, first⟩ := p
  refine wpAny_bind ?_
  unfold methodCallPos
  rw [if_pos (by simp [hl])]
  exact wpAny_pure h₁

theorem w_release {M : Model} {A : Around} {E : Value → Shared → Prop} {s : Shared} {vs keep : List Value} {Q : Unit → Shared → Prop} (h : Q () s) : wpAny M A (release vs keep) Q E s :=
  fun Γ p _ => by rw [Sem.wp_release]; exact h

theorem w_eq {α : Type} {M : Model} {A : Around} {E : Value → Shared → Prop} {s : Shared} {x y : Sem α} {Q : α → Shared → Prop} (e : x = y) (h : wpAny M A y Q E s) : wpAny M A x Q E s := e ▸ h
theorem w_mono {α : Type} {M : Model} {A : Around} {E : Value → Shared → Prop} {s : Shared} {x : Sem α} {P Q : α → Shared → Prop} (h : wpAny M A x P E s) (k : ∀ a s, P a s → Q a s) : wpAny M A x Q E s := wpAny_mono h k fun _ _ x => x

/-- what stands around -/
structure Cx (G : GS) (A : Around) (P : PC) (Γ : FE) (C : SC) : Prop where
  g : G.ok
  b : G.bi
  a : Rm A
  p : P.run G A
  ok : Γ.ok
  c : C.ok G Γ
noncomputable def SE (G : GS) (A : Around) (P : PC) (x : Ex) : Prop := ∀ (Γ : FE) (C : SC), Cx G A P Γ C → ∀ (e : Expr), chkE C x e = true → ∀ (Q : V → St → Prop) (σ : St), wpE P x Q σ → W G A Γ (eval e Γ.env) Q σ
noncomputable def ST (G : GS) (A : Around) (P : PC) (x : Ex) : Prop := ∀ (Γ : FE) (C : SC), Cx G A P Γ C → ∀ (e : Expr), chkE C x e = true → ∀ (Q : Bool → St → Prop) (σ : St), wpT P x (wpE P x) Q σ → WB G A Γ (isTrue e Γ.env (eval e Γ.env)) Q σ
structure SX (G : GS) (A : Around) (P : PC) (x : Ex) : Prop where
  e : SE G A P x
  t : ST G A P x
structure SL (G : GS) (A : Around) (P : PC) (xs : List Ex) : Prop where
  es : ∀ (Γ : FE) (C : SC), Cx G A P Γ C → ∀ (es : List Expr), chkEs C xs es = true → ∀ (Q : List V → St → Prop) (σ : St), wpEs P xs Q σ → Wn G A Γ es.length (spliced (es.map fun e => (false, eval e Γ.env))) Q σ
  cs : ∀ (Γ : FE) (C : SC), Cx G A P Γ C → ∀ (es : List Expr), chkEs C xs es = true → ∀ (Q : Bool → St → Prop) (σ : St), wpTs P true xs Q σ → WB G A Γ (testsOf es Γ.env) Q σ
  ch : ∀ (Γ : FE) (C : SC), Cx G A P Γ C → ∀ (es : List Expr), chkEs C xs es = true → ∀ (ops : List CmpOp) (v : V) (Q : Bool → St → Prop) (σ : St), wpCh P ops xs v Q σ → ∀ (pos : Pos) frz s cv, Rep G Γ frz σ s → RV s.heap cv v →
    wpAny (model G.prog G.w) A (compareChain pos cv ops (evalEach es Γ.env)) (fun cr s' => ∃ b, cr = .bool b ∧ PB G Γ frz s Q b s') NoE s
  ct : ∀ (Γ : FE) (C : SC), Cx G A P Γ C → ∀ (es : List Expr), chkEs C xs es = true → ∀ (ops : List CmpOp) (v : V) (Q : Bool → St → Prop) (σ : St), wpCh P ops xs v Q σ → ∀ (pos : Pos) frz s cv, Rep G Γ frz σ s → RV s.heap cv v →
    wpAny (model G.prog G.w) A (testChain pos cv ops (evalEach es Γ.env)) (PB G Γ frz s Q) NoE s
  bo : ∀ (Γ : FE) (C : SC), Cx G A P Γ C → ∀ (es : List Expr), chkEs C xs es = true → ∀ (k : Bool) (Q : V → St → Prop) (σ : St), wpBo P k xs Q σ → ∀ (pos : Pos), W G A Γ (boolOp pos (if k then .And else .Or) (evalEach es Γ.env)) Q σ
  ts : ∀ (Γ : FE) (C : SC), Cx G A P Γ C → ∀ (es : List Expr), chkEs C xs es = true → ∀ (k : Bool) (Q : Bool → St → Prop) (σ : St), wpTs P k xs Q σ → WB G A Γ (allTrue (if k then .And else .Or) es Γ.env) Q σ

theorem isNone_e {x : Ex} (h : isNoneEx x = true) : x = .lit .none := by
  cases x <;> first | exact absurd h Bool.false_ne_true | skip
  rename_i v
  cases v <;> first | rfl | exact absurd h Bool.false_ne_true
theorem soundO_none {Γ : FE} {C : SC} {x : Ex} {frz : Frz} {s : Shared} {Q : V → St → Prop} {σ : St} (h : chkO C x none = true) (w : wpE P x Q σ) (r : Rep G Γ frz σ s) : PV G Γ frz s Q .none s := by
  cases isNone_e h
  exact ⟨_, _, .none, r, .refl _, w⟩
theorem soundO {Γ : FE} {C : SC} {x : Ex} (X : Cx G A P Γ C) (ih : SE G A P x) (e : Option Expr) (h : chkO C x e = true) {Q : V → St → Prop} {σ : St} (w : wpE P x Q σ) :
    W G A Γ (valueOrNone (evalOpt e Γ.env)) Q σ := by
  cases e with
  | none => exact fun frz s r => wpAny_pure (soundO_none h w r)
  | some e => exact ih Γ C X e h _ _ w

noncomputable def plainT (e : Expr) : Bool := match e with
  | .UnaryOp o _ _ => !(o == .Not)
  | e => e.ctorIdx != 0 && (e.ctorIdx != 15 && (e.ctorIdx != 5 && e.ctorIdx != 1))
theorem isTrue_plain {e : Expr} {env : Env} (h : plainT e = true) : isTrue e env (eval e env) = (do let v ← eval e env; standAt e.pos; holding [v] (truthy v)) := by
  cases e <;> first | rfl | exact absurd h Bool.false_ne_true | skip
  rename_i o _ _
  cases o <;> first | rfl | exact absurd h Bool.false_ne_true
theorem st_plain {x : Ex} (ih : SE G A P x) (hx : ∀ C e, chkE C x e = true → plainT e = true) (hw : ∀ (Q : Bool → St → Prop) (σ : St), wpT P x (wpE P x) Q σ → wpE P x (fun v σ₁ => wpTruth σ₁.mem v fun b => Q b σ₁) σ) : ST G A P x :=
  fun Γ C X e h _ _ w => w_default (ih Γ C X e h _ _ (hw _ _ w)) (isTrue_plain (hx C e h))

theorem tests_off {env : Env} {post : Bool → Shared → Prop} {E : Value → Shared → Prop} : ∀ (es : List Expr) {s : Shared}, post false s →
    wpAny (model G.prog G.w) A (forIn es false fun c r => if r = true then do let ok ← isTrue c env (eval c env); pure (ForInStep.yield ok) else pure (ForInStep.yield r)) post E s
  | [], s, q => wpAny_pure q
  | e :: es, s, q => by
    rw [List.forIn_cons]
    exact wpAny_bind (wpAny_pure (tests_off es q))
theorem tests_cons {env : Env} {e : Expr} {es : List Expr} {post : Bool → Shared → Prop} {E : Value → Shared → Prop} {s : Shared}
    (h : wpAny (model G.prog G.w) A (isTrue e env (eval e env)) (fun b s₁ => wpAny (model G.prog G.w) A (forIn es b fun c r => if r = true then do let ok ← isTrue c env (eval c env); pure (ForInStep.yield ok) else pure (ForInStep.yield r)) post E s₁) E s) :
    wpAny (model G.prog G.w) A (testsOf (e :: es) env) post E s := by
  unfold testsOf
  rw [List.forIn_cons]
  exact wpAny_bind (wpAny_bind (wpAny_mono h (fun b s₁ q => wpAny_pure q) fun _ _ x => x))

theorem PO.pv {Γ : FE} {frz : Frz} {σ : St} {s s₀ s' : Shared} {cv : Value} {Q : V → St → Prop} (k : TK s₀.heap s.heap) (h : PO G Γ frz σ s (fun r m => Q r { σ with mem := m }) cv s') : PV G Γ frz s₀ Q cv s' := (h.toPV fun _ _ q => q).after k
theorem PO.pv' {Γ : FE} {frz : Frz} {σ : St} {s s₀ s' : Shared} {cv : Value} {Q : V → St → Prop} (k : TK s₀.heap s.heap) (h : PO G Γ frz σ s (fun r m => m = σ.mem ∧ Q r σ) cv s') : PV G Γ frz s₀ Q cv s' := (h.toPV fun r m ⟨e, q⟩ => by subst e; exact q).after k

section
variable {a b c : Ex} {es : List Ex}
theorem se_lit {v : V} : SE G A P (.lit v) := fun Γ C X e h Q σ w => isConst_e (e := e) (K := fun c => litOk v c) (M := fun e => W G A Γ (eval e Γ.env) Q σ) h fun _ _ _ q => w_lit q w
theorem se_var {i : Nat} : SE G A P (.var i) := fun Γ C X e h Q σ w => isName_e (e := e) (K := fun n => C.is i n) (M := fun e => W G A Γ (eval e Γ.env) Q σ) h fun _ _ q =>
  let ⟨_, hk⟩ := is_of X.c q
  let ⟨_, hv, q⟩ := loc_inv w
  w_name X.ok hk hv q
theorem se_bin {op : Operator} (ia : SE G A P a) (ib : SE G A P b) : SE G A P (.bin op a b) := fun Γ C X e h Q σ w => chk_bin h fun l r p h1 h2 frz s R =>
  wpAny_BinOp ((ia Γ C X l h1 _ _ w).then R fun cv v σ₁ s₁ a1 b1 c1 d1 => (ib Γ C X r h2 _ _ d1).then b1 fun cu u σ₂ s₂ a2 b2 c2 d2 => w_mono (s_bin d2 b2 (a1.tk c2) a2) fun _ _ h3 => h3.pv (c1.trans c2))
theorem neg_val {Γ : FE} {frz : Frz} {σ : St} {s s₀ : Shared} {v : V} {cv : Value} {Q : V → St → Prop} (w : match v with | .int i => Q (.int (-i)) σ | _ => False) (k : TK s₀.heap s.heap) (r : Rep G Γ frz σ s) (hv : RV s.heap cv v) : wpAny (model G.prog G.w) A (unaryOp .USub cv) (PV G Γ frz s₀ Q) NoE s := by
  cases v <;> first | exact False.elim w | skip
  exact hv.eI fun _ => neg_int ⟨_, _, .int _ _, r.toks _, k, w⟩
theorem se_neg (ia : SE G A P a) : SE G A P (.neg a) := fun Γ C X e h Q σ w => chk_neg h fun y p h frz s R =>
  w_eq (arm_eval_UnaryOp _ _ _ _) (wpAny_bind ((ia Γ C X y h _ _ w).then R fun cv v σ₁ s₁ a1 b1 c1 d1 => wpAny_bind (wpAny_standAt (wpAny_holding (neg_val d1 c1 b1 a1)))))
theorem se_not (ia : SE G A P a) : SE G A P (.not a) := fun Γ C X e h Q σ w => chk_not h fun y p h frz s R =>
  w_eq (arm_eval_UnaryOp _ _ _ _) (wpAny_bind ((ia Γ C X y h _ _ w).then R fun cv v σ₁ s₁ a1 b1 c1 d1 => wpAny_bind (wpAny_standAt (wpAny_holding (not_of (w_mono (s_truth d1 b1 a1) fun b s₂ h2 => ⟨_, _, .bool _, h2.1, c1.trans h2.2.1, h2.2.2⟩))))))
theorem se_ite (ic : ST G A P c) (ia : SE G A P a) (ib : SE G A P b) : SE G A P (.ite c a b) := fun Γ C X e h Q σ w => chk_ite h fun t y z p h1 h2 h3 frz s R =>
  w_eq (arm_eval_IfExp _ _ _ _ _) (wpAny_bind ((ic Γ C X t h1 _ _ w).then R fun t σ₁ s₁ b1 c1 d1 => by
    cases t with
    | true => exact w_mono (ia Γ C X y h2 _ _ d1 frz s₁ b1) fun _ _ h3 => h3.after c1
    | false => exact w_mono (ib Γ C X z h3 _ _ d1 frz s₁ b1) fun _ _ h3 => h3.after c1))
theorem size_lt {cvs : List Value} {n : Nat} (h : n < 1000) (l : cvs.length = n) : cvs.toArray.size ≤ sizeLine := by rw [List.size_toArray, l, sizeLine_eq]; exact Nat.le_trans (Nat.le_of_lt h) (by decide)
theorem se_list (is : SL G A P es) : SE G A P (.list es) := fun Γ C X e h Q σ w => chk_list h fun xs p hn h frz s R =>
  List_ (w_eq (by rw [star_of h, back_of]) ((is.es Γ C X xs h _ _ w).then R fun cvs vs σ₁ s₁ l1 a1 b1 c1 d1 => wpAny_newObj_type
    ((PO.newList (Q := fun r m => Q r { σ₁ with mem := m }) b1 (tk := s₁.toks) (arr := cvs.toArray) (List.toList_toArray.symm ▸ a1) d1).pv c1) (size_lt hn l1)))
theorem se_tup (is : SL G A P es) : SE G A P (.tup es) := fun Γ C X e h Q σ w => chk_tup h fun xs n p hn h frz s R =>
  Tuple_ (w_eq (by rw [star_of h, back_of]) ((is.es Γ C X xs h _ _ w).then R fun cvs vs σ₁ s₁ l1 a1 b1 c1 d1 => wpAny_newObj_type
    ((PO.newTup (Q := fun r m => Q r { σ₁ with mem := m }) b1 (tk := s₁.toks) (arr := cvs.toArray) (List.toList_toArray.symm ▸ a1) d1).pv c1) (size_lt hn l1)))
theorem se_cmp {ops : List CmpOp} (ia : SE G A P a) (is : SL G A P es) : SE G A P (.cmp a ops es) := fun Γ C X e h Q σ w => chk_cmp h fun l cs p h1 h2 frz s R =>
  w_eq ((arm_eval_Compare _ _ _ _ _).trans (by rw [marked_of _ h2])) (wpAny_bind ((ia Γ C X l h1 _ _ w).then R fun cv v σ₁ s₁ a1 b1 c1 d1 =>
    w_mono (is.ch Γ C X cs h2 _ _ _ _ d1 p frz s₁ cv b1 a1) fun _ _ ⟨b, e, σ', r', q, t⟩ => ⟨_, σ', e ▸ .bool _, r', c1.trans q, t⟩))
theorem se_band (is : SL G A P es) : SE G A P (.band es) := fun Γ C X e h Q σ w => chk_band h fun xs p h frz s R =>
  w_eq (arm_eval_BoolOp _ _ _ _) (is.bo Γ C X xs h true _ _ w p frz s R)
theorem se_bor (is : SL G A P es) : SE G A P (.bor es) := fun Γ C X e h Q σ w => chk_bor h fun xs p h frz s R =>
  w_eq (arm_eval_BoolOp _ _ _ _) (is.bo Γ C X xs h false _ _ w p frz s R)
theorem se_idx (ia : SE G A P a) (ib : SE G A P b) : SE G A P (.idx a b) := fun Γ C X e h Q σ w => chk_idx h fun l r p h1 h2 frz s R =>
  Subscript_ ((ia Γ C X l h1 _ _ w).then R fun cv v σ₁ s₁ a1 b1 c1 d1 => (ib Γ C X r h2 _ _ d1).then b1 fun cu u σ₂ s₂ a2 b2 c2 d2 => w_mono (s_idx d2 b2 (a1.tk c2) a2) fun _ _ h3 => h3.pv' (c1.trans c2))
theorem se_slc {lo hi st : Ex} (ia : SE G A P a) (il : SE G A P lo) (ih : SE G A P hi) (is : SE G A P st) : SE G A P (.slc a lo hi st) := fun Γ C X e h Q σ w =>
  isSub_e (e := e) (K := fun v s => isSlice s fun l u k => chkE C a v && (chkO C lo l && (chkO C hi u && chkO C st k))) (M := fun e => W G A Γ (eval e Γ.env) Q σ) h fun v sl p q =>
    isSlice_e (e := sl) (K := fun l u k => chkE C a v && (chkO C lo l && (chkO C hi u && chkO C st k))) (M := fun sl => W G A Γ (eval (.Subscript v sl p) Γ.env) Q σ) q fun l u k p' q frz s R => by
      obtain ⟨q1, q⟩ := and_e q
      obtain ⟨q2, q⟩ := and_e q
      obtain ⟨q3, q4⟩ := and_e q
      refine Subscript_ ((ia Γ C X v q1 _ _ w).then R fun cv v σ₁ s₁ a1 b1 c1 d1 => w_eq (arm_eval_Slice _ _ _ _ _) ?_)
      refine wpAny_bind ((soundO X il l q2 d1).then b1 fun cl l σ₂ s₂ a2 b2 c2 d2 => wpAny_bind (wpAny_holding ((soundO X ih u q3 d2).then b2 fun ch hh σ₃ s₃ a3 b3 c3 d3 =>
        wpAny_bind (wpAny_holding ((soundO X is k q4 d3).then b3 fun cs ss σ₄ s₄ a4 b4 c4 d4 => wpAny_newObj_type ?_)))))
      exact w_mono (s_slc d4 b4 (a1.tk (c2.trans (c3.trans c4))) (a2.tk (c3.trans c4)) (a3.tk c4) a4) fun _ _ h3 => h3.pv (c1.trans (c2.trans (c3.trans c4)))
theorem se_attr {n : String} (ia : SE G A P a) : SE G A P (.attr a n) := fun Γ C X e h Q σ w => chk_attr h fun v p h1 h2 frz s R => by
  refine w_eq ((arm_eval_Attribute _ _ _ _).trans (by rw [base_of h1])) (wpAny_bind ((ia Γ C X v h2 _ _ w).then R fun cv v σ₁ s₁ a1 b1 c1 d1 => wpAny_bind (wpAny_standAt (wpAny_bind (wpAny_holding (w_mono (s_attr X.g X.p.ok d1 b1 a1) fun cr s₂ h2 => ?_))))))
  exact wpAny_bind (wpAny_letTemporaryGo (wpAny_pure (h2.pv' c1)))
theorem se_bi {b : Bi} (is : SL G A P es) : SE G A P (.bi b es) := fun Γ C X e h' Q σ w => call_name (x := e) (K := fun f xs => C.glob b.name f && chkEs C es xs) (M := fun e => W G A Γ (eval e Γ.env) Q σ) h' fun f q xs p h frz s R => by
  obtain ⟨h1, h6⟩ := and_e h
  obtain ⟨rfl, hk, hd⟩ := glob_of X.c h1
  refine w_eq (eval_CallName _ _ _ _ _) (w_eq (by rw [star_of h6, back_of]) (wpAny_bind (w_builtin X.g X.b X.ok R hk hd (call_val (plain_args _ _) (w_args (is.es Γ C X xs h6 _ _ w).ws R fun cvs vs σ₁ s₁ a1 b1 c1 d1 => ?_)))))
  exact w_mono (s_bi X.a X.ok d1 b1 a1) fun _ _ h3 => h3.pv c1
theorem se_call {n : String} (is : SL G A P es) : SE G A P (.call n es) := fun Γ C X e h' Q σ w => call_name (x := e) (K := fun f xs => C.fns.contains n && (C.glob n f && chkEs C es xs)) (M := fun e => W G A Γ (eval e Γ.env) Q σ) h' fun f q xs p h frz s R => by
  obtain ⟨h0, h⟩ := and_e h
  obtain ⟨h1, h6⟩ := and_e h
  obtain ⟨rfl, hk, hd⟩ := glob_of X.c h1
  obtain ⟨f, hf1, hf2, hf3⟩ := X.p.call n (X.c.fns n (List.contains_iff_mem.mp h0))
  refine w_eq (eval_CallName _ _ _ _ _) (w_eq (by rw [star_of h6, back_of]) (wpAny_bind (w_global X.g X.ok R hk hd hf1 (callWith_of (P := G.K.In) (by rw [plain_args]; rfl) (keeps_K hf2) (w_args (is.es Γ C X xs h6 _ _ w).ws R fun cvs vs σ₁ s₁ a1 b1 c1 d1 => ⟨b1.kin X.g, ?_⟩)))))
  exact w_mono (hf3 _ _ _ d1 Γ frz σ₁ s₁ cvs X.ok b1 rfl a1) fun _ _ h3 => h3.pv c1
theorem se_me {m : Me} (ia : SE G A P a) (is : SL G A P es) : SE G A P (.me a m es) := fun Γ C X e h Q σ w => call_attr (x := e) (n := m.name) (o := a) (args := es) (C := C) (M := fun e => W G A Γ (eval e Γ.env) Q σ) h fun v q xs p h1 h2 h3 h4 h5 frz s R => by
  refine w_eq ((arm_eval_Call _ _ _ _ _ _ _).trans (by rw [base_of h3, star_of h5, back_of])) (wpAny_bind ((ia Γ C X v h4 _ _ w).then R fun cv v σ₁ s₁ a1 b1 c1 d1 => wpAny_bind (wpAny_standAt (meth_few h2 h1 fun pl => s_getMe d1.1 b1 a1 ?_))))
  refine Calls.callWith_builtin (plain_args _ _) (w_args (is.es Γ C X xs h5 _ _ d1.2).ws b1 fun cvs vs σ₂ s₂ a2 b2 c2 d2 => ?_)
  exact w_mono (s_me X.ok d2 b2 (a1.tk c2) a2) fun _ _ h3 => h3.pv (c1.trans c2)
theorem se_imeth {n : String} (ia : SE G A P a) (is : SL G A P es) : SE G A P (.imeth a n es) := fun Γ C X e h Q σ w =>
  have hm := and_e h
  call_attr (x := e) (n := n) (o := a) (args := es) (C := C) (M := fun e => W G A Γ (eval e Γ.env) Q σ) hm.2 fun v q xs p h1 h2 h3 h4 h5 frz s R => by
  obtain ⟨f, hf1, hf2, hf3, hf4, hf5⟩ := X.p.meth n (X.c.meths n (List.contains_iff_mem.mp hm.1))
  refine w_eq ((arm_eval_Call _ _ _ _ _ _ _).trans (by rw [base_of h3, star_of h5, back_of])) (wpAny_bind ((ia Γ C X v h4 _ _ w).then R fun cv v σ₁ s₁ a1 b1 c1 d1 => wpAny_bind (wpAny_standAt ?_)))
  obtain ⟨⟨a, d, fs, rfl, e1, e2, e3⟩, w1⟩ := d1
  obtain ⟨es, k, I, hF, _⟩ := inst_at b1 e1 e2
  refine a1.eO (meth_few h2 h1 fun pl => method_fn (b1.kin X.g) I (plainGet_of hf3).1 (plainGet_of hf3).2 hf1 (beq_iff_eq.mp hf2) ?_ ?_)
  · show (lookIn _ (dictOf es k)).map _ = _
    rw [lookIn_dict, (fields_get hF).2 e3]; rfl
  refine callWith_of (P := G.K.In) (by rw [plain_args]; rfl) (keeps_K hf4) (w_args (is.es Γ C X xs h5 _ _ w1).ws b1 fun cvs vs σ₂ s₂ a2 b2 c2 d2 => ⟨b2.kin X.g, ?_⟩)
  exact w_mono (hf5 _ _ _ d2 Γ frz σ₂ s₂ _ X.ok b2 rfl (.cons (.obj _) a2)) fun _ _ h3 => h3.pv (c1.trans c2)
theorem se_lcall {i : Nat} (is : SL G A P es) : SE G A P (.lcall i es) := fun Γ C X e h' Q σ w => call_name (x := e) (K := fun f xs => C.is i f && chkEs C es xs) (M := fun e => W G A Γ (eval e Γ.env) Q σ) h' fun f q xs p h frz s R => by
  obtain ⟨h1, h⟩ := and_e h
  obtain ⟨k, hk⟩ := is_of X.c h1
  obtain ⟨v, hv, w⟩ := loc_inv w
  refine w_eq (eval_CallName _ _ _ _ _) (w_eq (by rw [star_of h, back_of]) (wpAny_bind ((w_name (Q := fun u σ' => u = v ∧ σ' = σ) X.ok hk hv ⟨rfl, rfl⟩).then R fun cv v' σ₁ s₁ a1 b1 c1 ⟨e1, e2⟩ => ?_)))
  subst e1 e2
  refine callWith_of (P := fun h => ∃ a fo fd, cv = .ref a ∧ h.get? a = some fo ∧ fo.data = .func fd) (by rw [plain_args]; rfl) (fun h ⟨a, fo, fd, e, g, d⟩ => e ▸ keep_raw h g d)
    (w_args (is.es Γ C X xs h _ _ w).ws b1 fun cvs vs σ₂ s₂ a2 b2 c2 d2 => ?_)
  obtain ⟨a, fo, fd, rfl, g1, g2, hs⟩ := X.p.loc _ _ _ _ d2
  refine a1.eO ⟨⟨a, fo, fd, rfl, ?_, g2⟩, ?_⟩
  · cases b2.hmem _ _ g1 with
    | raw g _ => exact g
  · exact w_mono (hs Γ frz σ₂ s₂ cvs X.ok b2 rfl a2) fun _ _ h3 => h3.pv (c1.trans c2)
/-- a comprehension's parts -/
theorem chk_comp {C : SC} {elt it : Ex} {one : Bool} {is caps : List Nat} {cs : List Ex} {n : Nat} {x : Expr} (h : chkE C (.comp elt one is it cs n caps) x = true) : ∃ e t i ifs sc p, x = .ListComp e [⟨t, i, ifs, 0⟩] sc p ∧
    plainE i = true ∧ chkE C it i = true ∧ compOk C sc n caps = true ∧ chkBind (compSC C sc) one is t = true ∧ chkEs (compSC C sc) cs ifs = true ∧ chkE (compSC C sc) elt e = true :=
  isLC_e (e := x) (K := fun e gs sc => gen1 gs fun t i ifs => plainE i && (chkE C it i && (compOk C sc n caps && (chkBind (compSC C sc) one is t && (chkEs (compSC C sc) cs ifs && chkE (compSC C sc) elt e)))))
    (M := fun x => ∃ e t i ifs sc p, x = .ListComp e [⟨t, i, ifs, 0⟩] sc p ∧ plainE i = true ∧ chkE C it i = true ∧ compOk C sc n caps = true ∧ chkBind (compSC C sc) one is t = true ∧ chkEs (compSC C sc) cs ifs = true ∧ chkE (compSC C sc) elt e = true) h
    fun e gs sc p q => by
      obtain ⟨t, i, ifs, rfl, q⟩ := gen1_inv q
      obtain ⟨q1, q⟩ := and_e q
      obtain ⟨q2, q⟩ := and_e q
      obtain ⟨q3, q⟩ := and_e q
      obtain ⟨q4, q⟩ := and_e q
      exact ⟨e, t, i, ifs, sc, p, rfl, q1, q2, q3, q4, (and_e q).1, (and_e q).2⟩
theorem Cx.comp {Γ : FE} {C : SC} {sc : Scope} {n : Nat} {caps : List Nat} (X : Cx G A P Γ C) (hc : CompOk C sc n caps) (L : Addr) : Cx G A P (compFE Γ sc L) (compSC C sc) := ⟨X.g, X.b, X.a, X.p, comp_ok X.ok X.c hc L, comp_sc X.ok X.c hc L⟩
theorem comp_walk {Γ : FE} {C : SC} {elt : Ex} {one : Bool} {is caps : List Nat} {cs : List Ex} {n : Nat} {sc : Scope} {e t : Expr} {ifs : List Expr} (X : Cx G A P Γ C) (ie : SE G A P elt) (ic : SL G A P cs) (hc : CompOk C sc n caps) (h4 : chkBind (compSC C sc) one is t = true) (h5 : chkEs (compSC C sc) cs ifs = true) (h6 : chkE (compSC C sc) elt e = true) (L : Addr) :
    CompWalk G A P (compFE Γ sc L) e t ifs one is cs elt :=
  ⟨fun w _ _ _ r hv => s_bindIs X.a (X.comp hc L).ok (X.comp hc L).c h4 w r hv, fun w => ic.cs _ _ (X.comp hc L) ifs h5 _ _ w, fun w => ie _ _ (X.comp hc L) e h6 _ _ w⟩
theorem se_comp {it : Ex} {one : Bool} {is caps : List Nat} {n : Nat} (ie : SE G A P a) (ii : SE G A P it) (ic : SL G A P es) : SE G A P (.comp a one is it es n caps) := fun Γ C X e h Q σ w => by
  obtain ⟨e, t, i, ifs, sc, p, rfl, h1, h2, h3, h4, h5, h6⟩ := chk_comp h
  exact s_comp X.a X.ok X.c (compOk_of h3) h1 (comp_walk X ie ic (compOk_of h3) h4 h5 h6) (ii Γ C X i h2 _ _ w)

theorem st_not (ia : ST G A P a) : ST G A P (.not a) := fun Γ C X e h Q σ w => chk_not h fun y p h frz s R =>
  w_eq (arm_isTrue_UnaryOp _ _ _ _) (wpAny_bind ((ia Γ C X y h _ _ w).then R fun b σ₁ s₁ b1 c1 d1 => wpAny_pure ⟨σ₁, b1, c1, d1⟩))
theorem st_band (is : SL G A P es) : ST G A P (.band es) := fun Γ C X e h Q σ w => chk_band h fun xs p h frz s R => w_eq (arm_isTrue_BoolOp _ _ _ _ _) (is.ts Γ C X xs h true _ _ w frz s R)
theorem st_bor (is : SL G A P es) : ST G A P (.bor es) := fun Γ C X e h Q σ w => chk_bor h fun xs p h frz s R => w_eq (arm_isTrue_BoolOp _ _ _ _ _) (is.ts Γ C X xs h false _ _ w frz s R)
theorem st_ite (ic : ST G A P c) (ia : ST G A P a) (ib : ST G A P b) : ST G A P (.ite c a b) := fun Γ C X e h Q σ w => chk_ite h fun t y z p h1 h2 h3 frz s R =>
  w_eq (arm_isTrue_IfExp _ _ _ _ _ _) (wpAny_bind ((ic Γ C X t h1 _ _ w).then R fun t σ₁ s₁ b1 c1 d1 => by
    cases t with
    | true => exact w_mono (ia Γ C X y h2 _ _ d1 frz s₁ b1) fun _ _ h3 => h3.after c1
    | false => exact w_mono (ib Γ C X z h3 _ _ d1 frz s₁ b1) fun _ _ h3 => h3.after c1))
theorem st_cmp {ops : List CmpOp} (ia : SE G A P a) (is : SL G A P es) : ST G A P (.cmp a ops es) := fun Γ C X e h Q σ w => chk_cmp h fun l cs p h1 h2 frz s R =>
  w_eq ((arm_isTrue_Compare _ _ _ _ _ _).trans (by rw [marked_of _ h2])) (wpAny_bind ((ia Γ C X l h1 _ _ w).then R fun cv v σ₁ s₁ a1 b1 c1 d1 =>
    w_mono (is.ct Γ C X cs h2 _ _ _ _ d1 p frz s₁ cv b1 a1) fun _ _ h3 => h3.after c1))

theorem sl_nil : SL G A P [] where
  es Γ C X es h Q σ w := by cases chkEs_nil h; exact wn_nil w
  cs Γ C X es h Q σ w := by cases chkEs_nil h; exact fun frz s r => wpAny_pure ⟨σ, r, .refl _, w⟩
  ch Γ C X es h ops v Q σ w := by cases ops <;> exact False.elim w
  ct Γ C X es h ops v Q σ w := by cases ops <;> exact False.elim w
  bo Γ C X es h k Q σ w := False.elim w
  ts Γ C X es h k Q σ w := by
    cases chkEs_nil h
    exact fun frz s r => w_eq (arm_allTrue_nil _ _) (by cases k <;> exact wpAny_pure ⟨σ, r, .refl _, w⟩)
theorem le_es (i : SX G A P a) (is : SL G A P es) : ∀ (Γ : FE) (C : SC), Cx G A P Γ C → ∀ (xs : List Expr), chkEs C (a :: es) xs = true → ∀ (Q : List V → St → Prop) (σ : St), wpEs P (a :: es) Q σ → Wn G A Γ xs.length (spliced (xs.map fun e => (false, eval e Γ.env))) Q σ := fun Γ C X xs h Q σ w => by
  obtain ⟨e, xs, rfl, _, h1, h2⟩ := chkEs_cons h
  exact wn_cons fun frz s r => (i.e Γ C X e h1 _ _ w).then r fun cv v σ₁ s₁ a1 b1 c1 d1 => ⟨v, σ₁, a1, b1, c1, is.es Γ C X xs h2 _ _ d1⟩
theorem le_cs (i : SX G A P a) (is : SL G A P es) : ∀ (Γ : FE) (C : SC), Cx G A P Γ C → ∀ (xs : List Expr), chkEs C (a :: es) xs = true → ∀ (Q : Bool → St → Prop) (σ : St), wpTs P true (a :: es) Q σ → WB G A Γ (testsOf xs Γ.env) Q σ := fun Γ C X xs h Q σ w => by
  obtain ⟨e, xs, rfl, _, h1, h2⟩ := chkEs_cons h
  refine fun frz s r => tests_cons ((i.t Γ C X e h1 _ _ w).then r fun b σ₁ s₁ b1 c1 d1 => ?_)
  cases b with
  | true => exact w_mono (is.cs Γ C X xs h2 _ _ d1 frz s₁ b1) fun _ _ h3 => h3.after c1
  | false => exact tests_off xs ⟨σ₁, b1, c1, d1⟩
theorem ch_one {Γ : FE} {frz : Frz} {σ : St} {s s₀ : Shared} {op : CmpOp} {v u : V} {cv cu : Value} {Q : Bool → St → Prop} (hA : Rm A) (w : wpCmp σ.mem op v u fun b => Q b σ) (r : Rep G Γ frz σ s) (hv : RV s.heap cv v) (hu : RV s.heap cu u) (k : TK s₀.heap s.heap) :
    wpAny (model G.prog G.w) A (compareOp op cv cu) (fun cr s' => ∃ b, cr = .bool b ∧ PB G Γ frz s₀ Q b s') NoE s :=
  w_mono (s_cmp hA.un w r hv hu) fun _ _ ⟨b, e, p, q, t⟩ => ⟨b, e, σ, p, k.trans q, t⟩
theorem le_ch (i : SX G A P a) (is : SL G A P es) : ∀ (Γ : FE) (C : SC), Cx G A P Γ C → ∀ (xs : List Expr), chkEs C (a :: es) xs = true → ∀ (ops : List CmpOp) (v : V) (Q : Bool → St → Prop) (σ : St), wpCh P ops (a :: es) v Q σ → ∀ (pos : Pos) frz s cv, Rep G Γ frz σ s → RV s.heap cv v →
    wpAny (model G.prog G.w) A (compareChain pos cv ops (evalEach xs Γ.env)) (fun cr s' => ∃ b, cr = .bool b ∧ PB G Γ frz s Q b s') NoE s := fun Γ C X xs h ops v Q σ w pos frz s cv r hv => by
  obtain ⟨e, xs, rfl, _, h1, h2⟩ := chkEs_cons h
  cases ops with
  | nil => exact False.elim w
  | cons op ops =>
  cases ops with
  | nil =>
    cases es with
    | cons => exact False.elim w
    | nil =>
    cases chkEs_nil h2
    exact wpAny_bind (wpAny_holding ((i.e Γ C X e h1 _ _ w).then r fun cu u σ₁ s₁ a1 b1 c1 d1 => wpAny_bind (wpAny_standAt (wpAny_operating (ch_one X.a d1 b1 (hv.tk c1) a1 c1)))))
  | cons op' ops =>
    refine wpAny_bind (wpAny_holding ((i.e Γ C X e h1 _ _ w).then r fun cu u σ₁ s₁ a1 b1 c1 d1 => wpAny_bind (wpAny_standAt ?_)))
    refine wpAny_bind (wpAny_holding (w_mono (s_cmp X.a.un d1 b1 (hv.tk c1) a1) fun cr s₂ ⟨b, e, p, q, t⟩ => ?_))
    subst e
    refine wpAny_bind (w_release (wpAny_bind (wpAny_holding (wpAny_truthy_bool ?_))))
    cases b with
    | true => exact w_mono (is.ch Γ C X xs h2 _ _ _ _ t pos frz s₂ cu p (a1.tk q)) fun _ _ ⟨b, e, h3⟩ => ⟨b, e, h3.after (c1.trans q)⟩
    | false => exact wpAny_pure ⟨false, rfl, σ₁, p, c1.trans q, t⟩
theorem le_ct (i : SX G A P a) (is : SL G A P es) : ∀ (Γ : FE) (C : SC), Cx G A P Γ C → ∀ (xs : List Expr), chkEs C (a :: es) xs = true → ∀ (ops : List CmpOp) (v : V) (Q : Bool → St → Prop) (σ : St), wpCh P ops (a :: es) v Q σ → ∀ (pos : Pos) frz s cv, Rep G Γ frz σ s → RV s.heap cv v →
    wpAny (model G.prog G.w) A (testChain pos cv ops (evalEach xs Γ.env)) (PB G Γ frz s Q) NoE s := fun Γ C X xs h ops v Q σ w pos frz s cv r hv => by
  obtain ⟨e, xs, rfl, _, h1, h2⟩ := chkEs_cons h
  cases ops with
  | nil => exact False.elim w
  | cons op ops =>
  cases ops with
  | nil =>
    cases es with
    | cons => exact False.elim w
    | nil =>
    cases chkEs_nil h2
    exact wpAny_bind (wpAny_holding ((i.e Γ C X e h1 _ _ w).then r fun cu u σ₁ s₁ a1 b1 c1 d1 => wpAny_bind (wpAny_standAt (wpAny_bind (wpAny_operating (w_mono (ch_one X.a d1 b1 (hv.tk c1) a1 c1) fun _ _ ⟨b, e, t⟩ => by subst e; exact wpAny_holding (wpAny_truthy_bool t)))))))
  | cons op' ops =>
    refine wpAny_bind (wpAny_holding ((i.e Γ C X e h1 _ _ w).then r fun cu u σ₁ s₁ a1 b1 c1 d1 => wpAny_bind (wpAny_standAt ?_)))
    refine wpAny_bind (wpAny_holding (w_mono (s_cmp X.a.un d1 b1 (hv.tk c1) a1) fun cr s₂ ⟨b, e, p, q, t⟩ => ?_))
    subst e
    refine wpAny_bind (w_release (wpAny_bind (wpAny_holding (wpAny_truthy_bool ?_))))
    cases b with
    | true => exact w_mono (is.ct Γ C X xs h2 _ _ _ _ t pos frz s₂ cu p (a1.tk q)) fun _ _ h3 => h3.after (c1.trans q)
    | false => exact wpAny_pure ⟨σ₁, p, c1.trans q, t⟩
theorem le_bo (i : SX G A P a) (is : SL G A P es) : ∀ (Γ : FE) (C : SC), Cx G A P Γ C → ∀ (xs : List Expr), chkEs C (a :: es) xs = true → ∀ (k : Bool) (Q : V → St → Prop) (σ : St), wpBo P k (a :: es) Q σ → ∀ (pos : Pos), W G A Γ (boolOp pos (if k then .And else .Or) (evalEach xs Γ.env)) Q σ := fun Γ C X xs h k Q σ w pos frz s r => by
  obtain ⟨e, xs, rfl, _, h1, h2⟩ := chkEs_cons h
  cases es with
  | nil =>
    cases chkEs_nil h2
    exact i.e Γ C X e h1 _ _ w frz s r
  | cons x' es =>
    have ih : ∀ {s₂ : Shared} {σ₁ : St}, TK s.heap s₂.heap → Rep G Γ frz σ₁ s₂ → wpBo P k (x' :: es) Q σ₁ → wpAny (model G.prog G.w) A (boolOp pos (if k then .And else .Or) (evalEach xs Γ.env)) (PV G Γ frz s Q) NoE s₂ := fun c1 p t => w_mono (is.bo Γ C X xs h2 k _ _ t pos frz _ p) fun _ _ h3 => h3.after c1
    obtain ⟨e', es', rfl, _, hx⟩ := chkEs_cons h2
    refine wpAny_bind ((i.e Γ C X e h1 _ _ w).then r fun cv v σ₁ s₁ a1 b1 c1 d1 => wpAny_bind (wpAny_standAt (wpAny_bind (wpAny_holding (w_mono (s_truth d1 b1 a1) fun b s₂ h3 => ?_)))))
    obtain ⟨p, q, t⟩ := h3
    cases k <;> cases b
    · exact ih (c1.trans q) p t
    · exact wpAny_pure ⟨v, σ₁, a1.tk q, p, c1.trans q, t⟩
    · exact wpAny_pure ⟨v, σ₁, a1.tk q, p, c1.trans q, t⟩
    · exact ih (c1.trans q) p t
theorem le_ts (i : SX G A P a) (is : SL G A P es) : ∀ (Γ : FE) (C : SC), Cx G A P Γ C → ∀ (xs : List Expr), chkEs C (a :: es) xs = true → ∀ (k : Bool) (Q : Bool → St → Prop) (σ : St), wpTs P k (a :: es) Q σ → WB G A Γ (allTrue (if k then .And else .Or) xs Γ.env) Q σ := fun Γ C X xs h k Q σ w frz s r => by
  obtain ⟨e, xs, rfl, _, h1, h2⟩ := chkEs_cons h
  refine w_eq (arm_allTrue_cons _ _ _ _) (wpAny_bind ((i.t Γ C X e h1 _ _ w).then r fun b σ₁ s₁ b1 c1 d1 => ?_))
  cases k <;> cases b
  · exact w_mono (is.ts Γ C X xs h2 false _ _ d1 frz s₁ b1) fun _ _ h3 => h3.after c1
  · exact wpAny_pure ⟨σ₁, b1, c1, d1⟩
  · exact wpAny_pure ⟨σ₁, b1, c1, d1⟩
  · exact w_mono (is.ts Γ C X xs h2 true _ _ d1 frz s₁ b1) fun _ _ h3 => h3.after c1
end

theorem sx {x : Ex} (ih : SE G A P x) (hx : ∀ C e, chkE C x e = true → plainT e = true) (hw : ∀ (Q : Bool → St → Prop) (σ : St), wpT P x (wpE P x) Q σ → wpE P x (fun v σ₁ => wpTruth σ₁.mem v fun b => Q b σ₁) σ := by exact fun _ _ w => w) : SX G A P x := ⟨ih, st_plain ih hx hw⟩
theorem call_pl {e : Expr} {K : Expr → List Expr → List Keyword → Pos → Bool} (h : isCall e K = true) : plainT e = true := isCall_e (e := e) (K := K) (M := fun e => plainT e = true) h fun _ _ _ _ _ => rfl
theorem sub_pl {e : Expr} {K : Expr → Expr → Bool} (h : isSub e K = true) : plainT e = true := isSub_e (e := e) (K := K) (M := fun e => plainT e = true) h fun _ _ _ _ => rfl
theorem neg_pl {C : SC} {a : Ex} {e : Expr} (h : chkE C (.neg a) e = true) : plainT e = true := by refine chk_neg h ?_; intro _ _ _; rfl
theorem soundX : (x : Ex) → SX G A P x := Ex.rec (motive_1 := SX G A P) (motive_2 := SL G A P)
  (fun v => sx se_lit fun _ e h => isConst_e (e := e) (K := fun c => litOk v c) (M := fun e => plainT e = true) h fun _ _ _ _ => rfl)
  (fun i => sx se_var fun C e h => isName_e (e := e) (K := fun n => C.is i n) (M := fun e => plainT e = true) h fun _ _ _ => rfl)
  (fun op a b ia ib => sx (se_bin ia.e ib.e) fun C e h => isBin_e (e := e) (K := fun l o r => op == o && (chkE C a l && chkE C b r)) (M := fun e => plainT e = true) h fun _ _ _ _ _ => rfl)
  (fun a ia => sx (se_neg ia.e) fun C e h => neg_pl h)
  (fun a ia => ⟨se_not ia.e, st_not ia.t⟩)
  (fun c a b ic ia ib => ⟨se_ite ic.t ia.e ib.e, st_ite ic.t ia.t ib.t⟩)
  (fun es is => sx (se_list is) fun C e h => isList_e (e := e) (K := fun xs => decide (xs.length < 1000) && chkEs C es xs) (M := fun e => plainT e = true) h fun _ _ _ => rfl)
  (fun es is => sx (se_tup is) fun C e h => isTup_e (e := e) (K := fun xs => decide (xs.length < 1000) && chkEs C es xs) (M := fun e => plainT e = true) h fun _ _ _ _ => rfl)
  (fun a ops es ia is => ⟨se_cmp ia.e is, st_cmp ia.e is⟩)
  (fun es is => ⟨se_band is, st_band is⟩)
  (fun es is => ⟨se_bor is, st_bor is⟩)
  (fun a i ia ii => sx (se_idx ia.e ii.e) fun _ _ h => sub_pl h)
  (fun a lo hi st ia il ih is => sx (se_slc ia.e il.e ih.e is.e) fun _ _ h => sub_pl h)
  (fun o n io => sx (se_attr io.e) fun C e h => isAttr_e (e := e) (K := fun v y _ => PySem.Str.ofString n == y && (notCall v && chkE C o v)) (M := fun e => plainT e = true) h fun _ _ _ _ => rfl)
  (fun b es is => sx (se_bi is) fun _ _ h => call_pl h)
  (fun f es is => sx (se_call is) fun _ _ h => call_pl h)
  (fun o m es io is => sx (se_me io.e is) fun _ _ h => call_pl h)
  (fun o n es io is => sx (se_imeth io.e is) fun _ _ h => call_pl (and_e h).2)
  (fun i es is => sx (se_lcall is) fun _ _ h => call_pl h)
  (fun elt one is it cs n caps ie ii ic => sx (se_comp ie.e ii.e ic) fun _ e h => by obtain ⟨_, _, _, _, _, _, rfl, _⟩ := chk_comp h; rfl)
  sl_nil
  (fun x xs ix is => ⟨le_es ix is, le_cs ix is, le_ch ix is, le_ct ix is, le_bo ix is, le_ts ix is⟩)
theorem soundL : ∀ xs : List Ex, SL G A P xs
  | [] => sl_nil
  | x :: xs => ⟨le_es (soundX x) (soundL xs), le_cs (soundX x) (soundL xs), le_ch (soundX x) (soundL xs), le_ct (soundX x) (soundL xs), le_bo (soundX x) (soundL xs), le_ts (soundX x) (soundL xs)⟩
end
end Mine
set_option autoImplicit false
set_option maxRecDepth 10000
set_option linter.unusedVariables false
namespace Mine
open PySem PyProof.Rows PySem.W

/-- no list, set or dict comprehension -/
noncomputable def notComp (e : Expr) : Bool := e.ctorIdx != 8 && (e.ctorIdx != 9 && e.ctorIdx != 10)
noncomputable def isCompX : Ex → Bool
  | .comp .. => true
  | _ => false
theorem swaps_none {value : Expr} (h : notComp value = true) (t : Option Expr) (l : Nat) (env : Env) : swapsWith value t l env = pure false := by
  cases value <;> first | exact absurd h Bool.false_ne_true | rfl
theorem swaps_sole {value : Expr} (h : notComp value = true) (l : Nat) (env : Env) : ∀ targets, swapsWithSole targets value l env = pure false
  | [] => rfl
  | [_] => swaps_none h _ _ _
  | _ :: _ :: _ => rfl

noncomputable def chkTg (C : SC) (t : Tg) (x : Expr) : Bool := match t with
  | .var i => isName x fun n => C.isW i n
  | .tup is => isTup x fun xs => nodupN is && chkIs C is xs
  | .idx o i => isSub x fun v s => chkE C o v && chkE C i s
  | .slc o lo hi => isSub x fun v s => isSlice s fun l u k => k.isNone && (chkE C o v && (chkO C lo l && chkO C hi u))
  | .attr o n => isAttr x fun v y _ => PySem.Str.ofString n == y && chkE C o v
noncomputable def chkTgs (C : SC) : List Tg → List Expr → Bool
  | [], xs => xs.isEmpty
  | t :: ts, xs => xs.head?.any fun e => plainE e && chkTg C t e && chkTgs C ts xs.tail
theorem chkTgs_nil {C : SC} {xs : List Expr} (h : chkTgs C [] xs = true) : xs = [] := by
  cases xs with
  | nil => rfl
  | cons => cases h
theorem chkTgs_cons {C : SC} {t : Tg} {ts : List Tg} {xs : List Expr} (h : chkTgs C (t :: ts) xs = true) : ∃ e es, xs = e :: es ∧ plainE e = true ∧ chkTg C t e = true ∧ chkTgs C ts es = true := by
  cases xs with
  | nil => cases h
  | cons e es =>
    have h : (plainE e && chkTg C t e && chkTgs C ts es) = true := h
    rw [Bool.and_eq_true, Bool.and_eq_true] at h
    exact ⟨e, es, rfl, h.1.1, h.1.2, h.2⟩

/-- no display of constants alone, no list as a target -/
noncomputable def swapOk (targets : List Expr) (value : Expr) : Bool :=
  targets.head?.any fun t => t.ctorIdx != 24 && (t.ctorIdx != 25 || (value.ctorIdx != 25 || isTup value fun vs => !vs.all (constantsAlone 8) || vs.all (foldedForSure 8)))

-- views of a given statement
noncomputable def isExprS (x : Stmt) (K : Expr → Bool) : Bool := if h : x.ctorIdx = 24 then Stmt.Expr.elim (motive_2 := fun _ => Bool) x h fun y _ => K y else false
theorem isExprS_e {x : Stmt} {K : Expr → Bool} {M : Stmt → Prop} (h : isExprS x K = true) (kk : ∀ (y : Expr) (p : Pos), K y = true → M (.Expr y p)) : M x :=
  let ⟨i, q⟩ := dif_e h
  Stmt.Expr.elim (motive_2 := fun x => ∀ i, Stmt.Expr.elim (motive_2 := fun _ => Bool) x i (fun y _ => K y) = true → M x) x i (fun y p _ q => kk y p q) i q
noncomputable def isAssign (x : Stmt) (K : List Expr → Expr → Bool) : Bool := if h : x.ctorIdx = 5 then Stmt.Assign.elim (motive_2 := fun _ => Bool) x h fun xs y _ => K xs y else false
theorem isAssign_e {x : Stmt} {K : List Expr → Expr → Bool} {M : Stmt → Prop} (h : isAssign x K = true) (kk : ∀ (xs : List Expr) (y : Expr) (p : Pos), K xs y = true → M (.Assign xs y p)) : M x :=
  let ⟨i, q⟩ := dif_e h
  Stmt.Assign.elim (motive_2 := fun x => ∀ i, Stmt.Assign.elim (motive_2 := fun _ => Bool) x i (fun xs y _ => K xs y) = true → M x) x i (fun xs y p _ q => kk xs y p q) i q
noncomputable def isAug (x : Stmt) (K : Expr → Operator → Expr → Bool) : Bool := if h : x.ctorIdx = 7 then Stmt.AugAssign.elim (motive_2 := fun _ => Bool) x h fun t o y _ => K t o y else false
theorem isAug_e {x : Stmt} {K : Expr → Operator → Expr → Bool} {M : Stmt → Prop} (h : isAug x K = true) (kk : ∀ (t : Expr) (o : Operator) (y : Expr) (p : Pos), K t o y = true → M (.AugAssign t o y p)) : M x :=
  let ⟨i, q⟩ := dif_e h
  Stmt.AugAssign.elim (motive_2 := fun x => ∀ i, Stmt.AugAssign.elim (motive_2 := fun _ => Bool) x i (fun t o y _ => K t o y) = true → M x) x i (fun t o y p _ q => kk t o y p q) i q
noncomputable def isIfS (x : Stmt) (K : Expr → List Stmt → List Stmt → Bool) : Bool := if h : x.ctorIdx = 12 then Stmt.If.elim (motive_2 := fun _ => Bool) x h fun t y z _ => K t y z else false
theorem isIfS_e {x : Stmt} {K : Expr → List Stmt → List Stmt → Bool} {M : Stmt → Prop} (h : isIfS x K = true) (kk : ∀ (t : Expr) (y : List Stmt) (z : List Stmt) (p : Pos), K t y z = true → M (.If t y z p)) : M x :=
  let ⟨i, q⟩ := dif_e h
  Stmt.If.elim (motive_2 := fun x => ∀ i, Stmt.If.elim (motive_2 := fun _ => Bool) x i (fun t y z _ => K t y z) = true → M x) x i (fun t y z p _ q => kk t y z p q) i q
noncomputable def isWhile (x : Stmt) (K : Expr → List Stmt → List Stmt → Bool) : Bool := if h : x.ctorIdx = 11 then Stmt.While.elim (motive_2 := fun _ => Bool) x h fun t y z _ => K t y z else false
theorem isWhile_e {x : Stmt} {K : Expr → List Stmt → List Stmt → Bool} {M : Stmt → Prop} (h : isWhile x K = true) (kk : ∀ (t : Expr) (y : List Stmt) (z : List Stmt) (p : Pos), K t y z = true → M (.While t y z p)) : M x :=
  let ⟨i, q⟩ := dif_e h
  Stmt.While.elim (motive_2 := fun x => ∀ i, Stmt.While.elim (motive_2 := fun _ => Bool) x i (fun t y z _ => K t y z) = true → M x) x i (fun t y z p _ q => kk t y z p q) i q
noncomputable def isFor (x : Stmt) (K : Expr → Expr → List Stmt → List Stmt → Bool) : Bool := if h : x.ctorIdx = 9 then Stmt.For.elim (motive_2 := fun _ => Bool) x h fun tg e y z _ => K tg e y z else false
theorem isFor_e {x : Stmt} {K : Expr → Expr → List Stmt → List Stmt → Bool} {M : Stmt → Prop} (h : isFor x K = true) (kk : ∀ (tg : Expr) (e : Expr) (y : List Stmt) (z : List Stmt) (p : Pos), K tg e y z = true → M (.For tg e y z p)) : M x :=
  let ⟨i, q⟩ := dif_e h
  Stmt.For.elim (motive_2 := fun x => ∀ i, Stmt.For.elim (motive_2 := fun _ => Bool) x i (fun tg e y z _ => K tg e y z) = true → M x) x i (fun tg e y z p _ q => kk tg e y z p q) i q
noncomputable def isRet (x : Stmt) (K : Option Expr → Bool) : Bool := if h : x.ctorIdx = 3 then Stmt.Return.elim (motive_2 := fun _ => Bool) x h fun y _ => K y else false
theorem isRet_e {x : Stmt} {K : Option Expr → Bool} {M : Stmt → Prop} (h : isRet x K = true) (kk : ∀ (y : Option Expr) (p : Pos), K y = true → M (.Return y p)) : M x :=
  let ⟨i, q⟩ := dif_e h
  Stmt.Return.elim (motive_2 := fun x => ∀ i, Stmt.Return.elim (motive_2 := fun _ => Bool) x i (fun y _ => K y) = true → M x) x i (fun y p _ q => kk y p q) i q
noncomputable def isBrk (x : Stmt) (K : Pos → Bool) : Bool := if h : x.ctorIdx = 26 then Stmt.Break.elim (motive_2 := fun _ => Bool) x h fun p => K p else false
theorem isBrk_e {x : Stmt} {K : Pos → Bool} {M : Stmt → Prop} (h : isBrk x K = true) (kk : ∀ (p : Pos), K p = true → M (.Break p)) : M x :=
  let ⟨i, q⟩ := dif_e h
  Stmt.Break.elim (motive_2 := fun x => ∀ i, Stmt.Break.elim (motive_2 := fun _ => Bool) x i (fun p => K p) = true → M x) x i (fun p _ q => kk p q) i q
noncomputable def isDel (x : Stmt) (K : List Expr → Bool) : Bool := if h : x.ctorIdx = 4 then Stmt.Delete.elim (motive_2 := fun _ => Bool) x h fun xs _ => K xs else false
theorem isDel_e {x : Stmt} {K : List Expr → Bool} {M : Stmt → Prop} (h : isDel x K = true) (kk : ∀ (xs : List Expr) (p : Pos), K xs = true → M (.Delete xs p)) : M x :=
  let ⟨i, q⟩ := dif_e h
  Stmt.Delete.elim (motive_2 := fun x => ∀ i, Stmt.Delete.elim (motive_2 := fun _ => Bool) x i (fun xs _ => K xs) = true → M x) x i (fun xs p _ q => kk xs p q) i q
noncomputable def one1 (xs : List Expr) (K : Expr → Bool) : Bool := match xs with
  | [] => false
  | y :: r => r.isEmpty && K y
theorem one1_inv {xs : List Expr} {K : Expr → Bool} (h : one1 xs K = true) : ∃ y, xs = [y] ∧ K y = true := by
  match xs, h with
  | [y], h => exact ⟨y, rfl, h⟩

mutual
noncomputable def chkS (C : SC) : Sm → Stmt → Bool
  | .expr e, x => isExprS x fun y => notComp y && chkE C e y
  | .assign ts e, x => isAssign x fun xs y => (isCompX e || notComp y) && (swapOk xs y && (chkTgs C ts xs && chkE C e y))
  | .aug i op e, x => isAug x fun t o y => isName t fun n => C.isW i n && (op == o && chkE C e y)
  | .del o i, x => isDel x fun xs => one1 xs fun y => isSub y fun v s => chkE C o v && chkE C i s
  | .ife c a b, x => isIfS x fun t y z => chkE C c t && (chkSs C a y && chkSs C b z)
  | .whl c b, x => isWhile x fun t y z => z.isEmpty && (chkE C c t && chkSs C b y)
  | .fr t it b, x => isFor x fun tg e y z => z.isEmpty && (plainE e && (chkTg C t tg && (chkE C it e && chkSs C b y)))
  | .ret e, x => isRet x fun y => chkO C e y
  | .brk, x => isBrk x fun _ => true
  | .raise, _ => false
noncomputable def chkSs (C : SC) : List Sm → List Stmt → Bool
  | [], xs => xs.isEmpty
  | a :: as, xs => xs.head?.any fun e => chkS C a e && chkSs C as xs.tail
end
theorem chkSs_nil {C : SC} {xs : List Stmt} (h : chkSs C [] xs = true) : xs = [] := by
  cases xs with
  | nil => rfl
  | cons => cases h
theorem chkSs_cons {C : SC} {t : Sm} {ts : List Sm} {xs : List Stmt} (h : chkSs C (t :: ts) xs = true) : ∃ e es, xs = e :: es ∧ chkS C t e = true ∧ chkSs C ts es = true := by
  cases xs with
  | nil => cases h
  | cons e es =>
    have h : (chkS C t e && chkSs C ts es) = true := h
    rw [Bool.and_eq_true] at h
    exact ⟨e, es, rfl, h⟩

section
variable {G : GS} {A : Around} {Γ : FE} {frz : Frz} {σ : St} {s : Shared}

theorem setItem_list_any {l : Addr} {arr : Array Value} {n : Nat} {k : Int} {t : Tok} {j : Nat} {v : Value} {E : Value → Shared → Prop} {Q : Unit → Shared → Prop} (hl : s.heap.get? l = some { cls := .type "list", data := .seq arr n })
    (hk : tiny k) (hj : seqIndex? k arr.size = some j) (h : Q () { s with heap := s.heap.update l (Obj.mapSeq (·.setIfInBounds j v)) }) : wpAny (model G.prog G.w) A (setItem (.ref l) (.int k t) v) Q E s := by
  have hL : s.heap.IsList l arr := ⟨_, hl, rfl, n, rfl⟩
  obtain ⟨j0, hx⟩ : j < arr.size ∧ (0 ≤ k → j = k.toNat) := ⟨(seqIndex_lt hj).1, (seqIndex_lt hj).2⟩
  have hx' : arr[j]? = some arr[j] := Array.getElem?_eq_getElem j0
  unfold setItem
  try with_reducible refine wpAny_holding ?_
  first | refine wpAny_bind (wpAny_pure ?_) | skip
  refine wpAny_bind (wpAny_sequenceKey hL.typeIs (by decide) ?_)
  refine wpAny_bind (wpAny_callSpecial?_slot (name := Str.ofString "__setitem__") hL.typeIs slot_list_setitem
    (wpAny_call_entry slot_list_setitem hL.typeIs entry_list_setitem ?_ (args_list_setitem _ _ _)))
  show wpAny _ _ (Builtin.List.listSubscript? (.int k t) >>= _) _ _ s
  refine wpAny_bind (wpAny_listSubscript_int (tiny_fit hk) ?_)
  by_cases h0 : 0 ≤ k
  · have := hx h0
    subst this
    obtain ⟨j, rfl⟩ := Int.eq_ofNat_of_zero_le h0
    show wpAny _ _ ((seqItemAt l j >>= fun r => pure (r.map (j, ·))) >>= _) _ _ s
    refine wpAny_bind (wpAny_bind (wpAny_seqItemAt hl rfl (wpAny_pure ?_)))
    rw [show arr[j]? = some arr[j] from hx']
    show wpAny _ _ (setSeqItemAt l j v >>= _) _ _ s
    refine wpAny_bind (wpAny_setSeqItemAt hl rfl ?_)
    first
      | exact wpAny_bind (wpAny_pure (wpAny_pure ⟨.none, rfl, wpAny_pure h⟩))
      | exact wpAny_pure ⟨.none, rfl, wpAny_pure h⟩
  · obtain ⟨m, rfl⟩ : ∃ m : Nat, k = Int.negSucc m := ⟨(-k - 1).toNat, by omega⟩
    show wpAny _ _ ((Builtin.List.listItems (.ref l) >>= fun xs => pure ((seqIndex? (Int.negSucc m) xs.size).bind fun j => xs[j]?.map (j, ·))) >>= _) _ _ s
    refine wpAny_bind (wpAny_bind (wpAny_listItems hl rfl (wpAny_pure ?_)))
    rw [hj]
    simp only [Option.bind_some, hx', Option.map_some]
    show wpAny _ _ (setSeqItemAt l j v >>= _) _ _ s
    refine wpAny_bind (wpAny_setSeqItemAt hl rfl ?_)
    first
      | exact wpAny_bind (wpAny_pure (wpAny_pure ⟨.none, rfl, wpAny_pure h⟩))
      | exact wpAny_pure ⟨.none, rfl, wpAny_pure h⟩

theorem ext_size {arr new : Array Value} {x y : Int} (hz : arr.size + new.size ≤ 2000000) : (arr.extract 0 x.toNat ++ new ++ arr.extract (max x y).toNat arr.size).size ≤ sizeLine + 1 := by
  have h : min x.toNat arr.size + (arr.size - (max x y).toNat) ≤ arr.size := by
    rcases Nat.le_total x.toNat arr.size with h | h
    · rw [Nat.min_eq_left h]
      exact Nat.le_trans (Nat.add_le_add_left (Nat.sub_le_sub_left (Int.toNat_le_toNat (Int.le_max_left x y)) _) _) (Nat.le_of_eq (Nat.add_sub_cancel' h))
    · rw [Nat.min_eq_right h, Nat.sub_eq_zero_of_le (Nat.le_trans h (Int.toNat_le_toNat (Int.le_max_left x y)))]; exact Nat.le_refl _
  rw [Array.size_append, Array.size_append, Array.size_extract, Array.size_extract, Nat.min_self, Nat.sub_zero, sizeLine_eq, Nat.add_right_comm]
  exact Nat.le_trans (Nat.add_le_add_right h _) (Nat.le_trans hz (by decide))
theorem setItem_list_slice {l sl b : Addr} {arr new : Array Value} {n : Nat} {vl vu : Value} {lo hi : Option Int} {E : Value → Shared → Prop} {Q : Unit → Shared → Prop} (hl : s.heap.get? l = some { cls := .type "list", data := .seq arr n })
    (hs : s.heap.IsSliceOf sl vl vu .none) (pl : IsPart vl lo) (pu : IsPart vu hi) (hb : s.heap.IsList b new) (hne : l ≠ b) (hz : arr.size + new.size ≤ 2000000)
    (h : Q () { s with heap := s.heap.update l (Obj.mapSeq fun xs => xs.extract 0 (sliceBounds lo hi none arr.size).1.toNat ++ new ++ xs.extract (max (sliceBounds lo hi none arr.size).1 (sliceBounds lo hi none arr.size).2.1).toNat xs.size) }) :
    wpAny (model G.prog G.w) A (setItem (.ref l) (.ref sl) (.ref b)) Q E s := by
  have hL : s.heap.IsList l arr := ⟨_, hl, rfl, n, rfl⟩
  obtain ⟨os, hos, hcs, hds⟩ := id hs
  obtain ⟨ob, hob, hcb, nb, hdb⟩ := id hb
  have hTs : s.TypeIs (.ref sl) "slice" := ⟨os, hos, hcs⟩
  unfold setItem
  try with_reducible refine wpAny_holding ?_
  first | refine wpAny_bind (wpAny_pure ?_) | skip
  refine wpAny_bind (wpAny_sequenceKey hL.typeIs (by decide) ?_)
  refine wpAny_bind (wpAny_callSpecial?_slot (name := Str.ofString "__setitem__") hL.typeIs slot_list_setitem
    (wpAny_call_entry slot_list_setitem hL.typeIs entry_list_setitem ?_ (args_list_setitem _ _ _)))
  show wpAny _ _ (Builtin.List.listSubscript? (.ref sl) >>= _) _ _ s
  refine wpAny_bind ?_
  unfold Builtin.List.listSubscript?
  refine wpAny_bind (wpAny_specialOf hTs slice_no_index ?_)
  simp only [Option.isNone_none, if_true]
  refine wpAny_pure ?_
  show wpAny _ _ (typeOf (.ref sl) >>= _) _ _ s
  refine wpAny_bind (wpAny_typeOf hTs ?_)
  rw [if_neg (by decide)]
  rw [listSliceParts_eq]
  refine wpAny_bind (wpAny_bind (wpAny_field hos hds (x := .none) rfl (wpAny_bind (wpAny_listPart .none ?_))))
  rw [if_neg (show ¬ ((rawPart none == rawInt 0) = true) from Bool.false_ne_true)]
  refine wpAny_bind (wpAny_field hos hds (x := vl) rfl (wpAny_bind (wpAny_listPart pl ?_)))
  refine wpAny_bind (wpAny_field hos hds (x := vu) rfl (wpAny_bind (wpAny_listPart pu (wpAny_pure ?_))))
  dsimp only
  rw [if_neg (show ¬ (Builtin.List.listSameRef (.ref l) (.ref b) = true) by simpa [Builtin.List.listSameRef] using hne)]
  refine wpAny_bind ?_
  unfold Builtin.List.listAllItems
  refine wpAny_bind (wpAny_typeOf hb.typeIs ?_)
  rw [if_pos (by decide)]
  unfold Builtin.List.listItems
  refine wpAny_bind (wpAny_seqItems hob hdb (wpAny_pure ?_))
  refine wpAny_bind (wpAny_bind (wpAny_seqItems hl rfl (wpAny_pure ?_)))
  refine wpAny_bind (wpAny_of_eq (sliceIndices_raw lo hi none arr.size (by simp)) ?_)
  have hst : (sliceBounds lo hi none arr.size).2.2 = 1 := rfl
  generalize hB : sliceBounds lo hi none arr.size = B at h hst ⊢
  obtain ⟨x, y, z⟩ := B
  dsimp only at hst h ⊢
  subst hst
  rw [if_pos (by decide)]
  refine wpAny_bind (wpAny_rule ?_)
  rw [if_neg (by simp [Builtin.List.listTooLong, sizeLine]; omega)]
  have hz' : ((fun xs : Array Value => xs.extract 0 x.toNat ++ new ++ xs.extract (max x y).toNat xs.size) arr).size ≤ sizeLine + 1 := ext_size hz
  refine wpAny_bind (wpAny_updateSeq (f := fun xs : Array Value => xs.extract 0 x.toNat ++ new ++ xs.extract (max x y).toNat xs.size) hl rfl ?_ (hz := by rw [sizeLine_eq]; omega) (_hz' := hz'))
  refine wpAny_bind (wpAny_letGo ?_)
  first
    | exact wpAny_bind (wpAny_pure (wpAny_pure ⟨.none, rfl, wpAny_pure h⟩))
    | exact wpAny_pure ⟨.none, rfl, wpAny_pure h⟩

theorem clip_nat {n : Nat} (i : Int) : ((clipAt n i : Nat) : Int).toNat = clipAt n i := Int.toNat_natCast _
theorem bounds_one {lo hi : Option Int} {n : Nat} : (sliceBounds lo hi none n).1.toNat = slLo n lo ∧ (max (sliceBounds lo hi none n).1 (sliceBounds lo hi none n).2.1).toNat = max (slLo n lo) (slHi n hi) := by
  rw [sliceBounds_plain]
  exact ⟨Int.toNat_natCast _, by show (max ((slLo n lo : Nat) : Int) ((slHi n hi : Nat) : Int)).toNat = _; omega⟩

theorem s_setSlice {l b sl : Addr} {vs us : List V} {lo hi : Option Int} {vl vu : Value} (ok : Γ.ok) (r : Rep G Γ frz σ s) (e : σ.mem l = some (.list vs)) (eb : σ.mem b = some (.list us)) (hne : l ≠ b) (h1 : small vs.length) (h2 : small us.length)
    (hs : s.heap.IsSliceOf sl vl vu .none) (pl : IsPart vl lo) (pu : IsPart vu hi) :
    wpAny (model G.prog G.w) A (setItem (.ref l) (.ref sl) (.ref b)) (fun _ s' => Rep G Γ frz { σ with mem := upd σ.mem l (.list (vs.take (slLo vs.length lo) ++ us ++ vs.drop (max (slLo vs.length lo) (slHi vs.length hi)))) } s' ∧ TK s.heap s'.heap) NoE s := by
  obtain ⟨arr, n, g, rs, hz⟩ := (r.hmem _ _ e).l
  obtain ⟨arr2, n2, g2, rs2, hz2⟩ := (r.hmem _ _ eb).l
  refine setItem_list_slice g hs pl pu ⟨_, g2, rfl, n2, rfl⟩ hne (by rw [hz, hz2]; exact Nat.add_le_add h1 h2) ?_
  have key : ∀ h', TK s.heap h' → RVs h' (arr.extract 0 (sliceBounds lo hi none arr.size).1.toNat ++ arr2 ++ arr.extract (max (sliceBounds lo hi none arr.size).1 (sliceBounds lo hi none arr.size).2.1).toNat arr.size).toList
      (vs.take (slLo vs.length lo) ++ us ++ vs.drop (max (slLo vs.length lo) (slHi vs.length hi))) := fun h' k => by
    rw [bounds_one.1, bounds_one.2, Array.toList_append, Array.toList_append, Array.toList_extract, Array.toList_extract, List.extract_eq_take_drop, List.extract_eq_take_drop, List.drop_zero, Nat.sub_zero, hz]
    refine ((rs.tk k).take _ |>.append (rs2.tk k)).append ?_
    rw [List.take_of_length_le (by rw [List.length_drop, Array.length_toList, hz]; exact Nat.le_refl _)]
    exact (rs.tk k).drop _
  exact r.change ok (tk := s.toks) (o := .list _) e (fun b o hb e => (Heap.get?_update_other _ _ (Ne.symm hb)).trans e) (fun k => .list (Heap.get?_update_self _ g rfl) (key _ k))

theorem s_setItem {l : Addr} {vs : List V} {k : Int} {j : Nat} {v : V} {cv ck : Value} (ok : Γ.ok) (r : Rep G Γ frz σ s) (e : σ.mem l = some (.list vs)) (hk : tiny k) (hj : pyIx vs.length k = some j) (hc : RV s.heap ck (.int k)) (hv : RV s.heap cv v) :
    wpAny (model G.prog G.w) A (setItem (.ref l) ck cv) (fun _ s' => Rep G Γ frz { σ with mem := upd σ.mem l (.list (vs.set j v)) } s' ∧ TK s.heap s'.heap) NoE s := by
  obtain ⟨arr, n, g, rs, hz⟩ := (r.hmem _ _ e).l
  exact hc.eI fun _ => setItem_list_any g hk (by rw [hz]; exact hj) (r.change ok (tk := s.toks) (o := .list (vs.set j v)) e (h' := s.heap.update l (Obj.mapSeq (·.setIfInBounds j cv))) (fun b o hb e => (Heap.get?_update_other _ _ (Ne.symm hb)).trans e)
    (fun k => .list (Heap.get?_update_self _ g rfl) (by show RVs _ (arr.setIfInBounds j cv).toList _; rw [Array.toList_setIfInBounds]; exact (rs.tk k).set j (hv.tk k))))

theorem swapped_of {ts vs : List Expr} {k k' : Nat} {p p' : Pos} {env : Env} (h : (!vs.all (constantsAlone 8) || vs.all (foldedForSure 8)) = true) :
    swappedStores [.Tuple ts k p] (.Tuple vs k' p') env = pure none ∨ ∃ f, swappedStores [.Tuple ts k p] (.Tuple vs k' p') env = pure (some (ts.filterMap (nameIf f))) ∧ (ts.filterMap (nameIf f)).length = ts.length ∧ (ts.length = 2 ∨ ts.length = 3) := by
  unfold swappedStores
  dsimp only
  split
  · exact .inl rfl
  · rename_i c1
    split
    · exact .inl rfl
    · split
      · exact .inl rfl
      · rename_i c3
        split
        · exact .inl rfl
        · rename_i c4
          split
          · rename_i c5
            rw [c5] at h
            simp at h
            exact absurd (by simpa using h) c4
          · refine .inr ⟨fun id pos => env.kindOf id == some .local && pos.line == (ts.head?.map (·.pos.line)).getD 0, rfl, ?_, ?_⟩
            · have := c3
              simp only [Bool.or_eq_true, not_or, bne_iff_ne, ne_eq, Decidable.not_not] at this
              exact this.1
            · simp only [Bool.or_eq_true, not_or, bne_iff_ne, ne_eq, Decidable.not_not, Bool.not_eq_true', Bool.or_eq_false_iff, not_and, beq_eq_false_iff_ne] at c1
              by_cases q : ts.length = 2
              · exact .inl q
              · exact .inr (c1.1.1 q)

theorem set_swap (σ : St) {i j : Nat} (a b : V) (h : i ≠ j) : (σ.set i a).set j b = (σ.set j b).set i a := by
  unfold St.set
  simp only [St.mk.injEq, and_true]
  exact List.set_comm _ _ h
theorem setAll_rev {σ : St} {is : List Nat} {vs : List V} (h : nodupN is = true) (hl : is.length = vs.length) (hn : is.length = 2 ∨ is.length = 3) : σ.setAll is.reverse vs.reverse = σ.setAll is vs := by
  match is, vs, hl with
  | [i, j], [a, b], _ =>
    simp [nodupN] at h
    show (σ.set j b).set i a = (σ.set i a).set j b
    rw [set_swap]; omega
  | [i, j, k], [a, b, c], _ =>
    simp [nodupN] at h
    show ((σ.set k c).set j b).set i a = ((σ.set i a).set j b).set k c
    rw [set_swap σ c b (by omega), set_swap _ c a (by omega), set_swap σ b a (by omega)]
  | [], _, _ => simp at hn
  | [_], _, _ => simp at hn
  | _ :: _ :: _ :: _ :: _, _, _ => simp at hn

end
end Mine
set_option autoImplicit false
set_option maxRecDepth 10000
set_option linter.unusedVariables false
namespace Mine
open PySem PyProof.Rows PySem.W

section
variable {G : GS} {A : Around} {Γ : FE} {frz : Frz} {σ : St} {s : Shared}

variable {P : PC} {C : SC}
theorem s_idxT {o i : Ex} {e : Expr} (X : Cx G A P Γ C) (h : chkTg C (.idx o i) e = true) {v : V} {cv : Value} {Q : St → Prop} (w : wpTg P (.idx o i) v Q σ) (r : Rep G Γ frz σ s) (hv : RV s.heap cv v) :
    wpAny (model G.prog G.w) A (assign e Γ.env cv) (PU G Γ frz s Q) NoE s :=
  isSub_e (e := e) (K := fun v s => chkE C o v && chkE C i s) (M := fun e => wpAny (model G.prog G.w) A (assign e Γ.env cv) (PU G Γ frz s Q) NoE s) h fun eo ei p h => by
    refine w_eq (arm_assign_Subscript _ _ _ _ _) (wpAny_bind (wpAny_holding (((soundX o).e Γ C X eo (and_e h).1 _ _ w).then r fun co ov σ₁ s₁ a1 r1 t1 w1 => ?_)))
    refine wpAny_bind (wpAny_holding (((soundX i).e Γ C X ei (and_e h).2 _ _ w1).then r1 fun ci iv σ₂ s₂ a2 r2 t2 w2 => ?_))
    obtain ⟨a, k, vs, j, rfl, rfl, hk, hm, hj, w⟩ := w2
    exact a1.eO (wpAny_bind (wpAny_standAt (wpAny_bind (wpAny_holding (w_mono (s_setItem X.ok r2 hm hk hj a2 (hv.tk (t1.trans t2))) fun _ s₃ h3 => w_release ⟨_, h3.1, (t1.trans t2).trans h3.2, w⟩)))))
theorem E6 {α β γ δ ε ζ : Sort _} {p : α → β → γ → δ → ε → ζ → Prop} {R : Prop} (h : ∃ a b c d e f, p a b c d e f) (k : ∀ a b c d e f, p a b c d e f → R) : R := let ⟨a, b, c, d, e, f, q⟩ := h; k a b c d e f q
theorem slc_fin {a b : Addr} {ia ib : Option Int} {xs ys : List V} {cl ch : Value} {l hh : V} {Q : St → Prop} {post : Unit → Shared → Prop} (ok : Γ.ok) (ea : slPart l = some ia) (eb : slPart hh = some ib) (h : a ≠ b ∧ σ.mem a = some (.list xs) ∧ σ.mem b = some (.list ys) ∧ small xs.length ∧ small ys.length ∧
    Q { σ with mem := upd σ.mem a (.list (xs.take (slLo xs.length ia) ++ ys ++ xs.drop (max (slLo xs.length ia) (slHi xs.length ib)))) })
    (r : Rep G Γ frz σ s) (a2 : RV s.heap cl l) (a3 : RV s.heap ch hh) (k : ∀ σ' s', Rep G Γ frz σ' s' → TK s.heap s'.heap → Q σ' → post () s') :
    wpAny (model G.prog G.w) A (setItem (.ref a) (.ref s.heap.objs.size) (.ref b)) post NoE { s with heap := s.heap.push (sliceO cl ch .none) } := by
  have kk := push_keeps s.heap (sliceO cl ch .none)
  obtain ⟨_, _, _, qa⟩ := slPart_is ea a2
  obtain ⟨_, _, _, qb⟩ := slPart_is eb a3
  exact w_mono (s_setSlice ok (r.grow (tk := s.toks) kk) h.2.1 h.2.2.1 h.1 h.2.2.2.1 h.2.2.2.2.1 (Heap.IsSliceOf.new ..) qa qb) fun _ s₅ h5 => k _ _ h5.1 ((TK.of kk).trans h5.2) h.2.2.2.2.2
theorem s_slcT {o lo hi : Ex} {e : Expr} (X : Cx G A P Γ C) (h : chkTg C (.slc o lo hi) e = true) {v : V} {cv : Value} {Q : St → Prop} (w : wpTg P (.slc o lo hi) v Q σ) (r : Rep G Γ frz σ s) (hv : RV s.heap cv v) :
    wpAny (model G.prog G.w) A (assign e Γ.env cv) (PU G Γ frz s Q) NoE s :=
  isSub_e (e := e) (K := fun v s => isSlice s fun l u k => k.isNone && (chkE C o v && (chkO C lo l && chkO C hi u))) (M := fun e => wpAny (model G.prog G.w) A (assign e Γ.env cv) (PU G Γ frz s Q) NoE s) h fun eo es p h =>
  isSlice_e (e := es) (K := fun l u k => k.isNone && (chkE C o eo && (chkO C lo l && chkO C hi u))) (M := fun es => wpAny (model G.prog G.w) A (assign (.Subscript eo es p) Γ.env cv) (PU G Γ frz s Q) NoE s) h fun l u k p' h => by
    obtain ⟨h0, h⟩ := and_e h
    obtain ⟨h1, h⟩ := and_e h
    obtain ⟨h2, h3⟩ := and_e h
    cases k with
    | some => cases h0
    | none =>
    refine w_eq (arm_assign_Subscript _ _ _ _ _) (wpAny_bind (wpAny_holding (((soundX o).e Γ C X eo h1 _ _ w).then r fun co ov σ₁ s₁ a1 r1 t1 w1 => ?_)))
    refine wpAny_bind (wpAny_holding (w_eq (arm_eval_Slice _ _ _ _ _) ?_))
    refine wpAny_bind ((soundO X (soundX lo).e l h2 w1).then r1 fun cl l σ₂ s₂ a2 r2 t2 w2 => wpAny_bind (wpAny_holding ((soundO X (soundX hi).e u h3 w2).then r2 fun ch hh σ₃ s₃ a3 r3 t3 w3 => ?_)))
    refine E6 w3 fun a b ia ib xs ys q => ?_
    refine (q.1 ▸ a1).eO ((q.2.1 ▸ hv).eO (wpAny_bind (wpAny_holding (wpAny_pure (wpAny_newObj_type ?_)))))
    exact wpAny_bind (wpAny_standAt (wpAny_bind (wpAny_holding (slc_fin X.ok q.2.2.1 q.2.2.2.1 q.2.2.2.2 r3 (a2.tk t3) a3 fun σ' s' r5 t5 w => w_release ⟨σ', r5, ((t1.trans t2).trans t3).trans t5, w⟩))))
theorem s_attrT {o : Ex} {n : String} {e : Expr} (X : Cx G A P Γ C) (h : chkTg C (.attr o n) e = true) {v : V} {cv : Value} {Q : St → Prop} (w : wpTg P (.attr o n) v Q σ) (r : Rep G Γ frz σ s) (hv : RV s.heap cv v) :
    wpAny (model G.prog G.w) A (assign e Γ.env cv) (PU G Γ frz s Q) NoE s :=
  isAttr_e (e := e) (K := fun v y _ => PySem.Str.ofString n == y && chkE C o v) (M := fun e => wpAny (model G.prog G.w) A (assign e Γ.env cv) (PU G Γ frz s Q) NoE s) h fun eo y p h => by
    have h2 := (and_e h).2
    cases beq_iff_eq.mp (and_e h).1
    refine w_eq (arm_assign_Attribute _ _ _ _ _) (wpAny_bind (wpAny_holding (((soundX o).e Γ C X eo h2 _ _ w).then r fun co ov σ₁ s₁ a1 r1 t1 w1 => ?_)))
    obtain ⟨a, d, fs, rfl, e1, e2, e3, e4, w⟩ := w1
    exact a1.eO (wpAny_bind (wpAny_standAt (wpAny_bind (wpAny_holding (w_mono (s_setattr X.g X.p.ok X.ok r1 e1 e2 e4 e3 (hv.tk t1)) fun _ s₃ h3 => w_release ⟨_, h3.1, t1.trans h3.2, w⟩)))))
theorem s_target (X : Cx G A P Γ C) (t : Tg) (e : Expr) (h : chkTg C t e = true) {v : V} {cv : Value} {Q : St → Prop} (w : wpTg P t v Q σ)
    (r : Rep G Γ frz σ s) (hv : RV s.heap cv v) : wpAny (model G.prog G.w) A (assign e Γ.env cv) (PU G Γ frz s Q) NoE s :=
  match t, h, w with
  | .var _, h, w => s_nameT X.ok X.c h w r hv
  | .tup _, h, w => s_tupT X.a X.ok X.c h w r hv
  | .idx _ _, h, w => s_idxT X h w r hv
  | .slc _ _ _, h, w => s_slcT X h w r hv
  | .attr _ _, h, w => s_attrT X h w r hv

theorem each_plain {e : Expr} {es : List Expr} {env : Env} (h : plainE e = true) : assignEach (e :: es) env = (false, assign e env) :: assignEach es env := by
  cases e <;> first | rfl | exact absurd h Bool.false_ne_true
theorem s_targets (X : Cx G A P Γ C) : ∀ (ts : List Tg) (es : List Expr), chkTgs C ts es = true → ∀ {v : V} {cv : Value} {Q : St → Prop} {σ : St} {s : Shared}, wpTgs P ts v Q σ →
    Rep G Γ frz σ s → RV s.heap cv v → wpAny (model G.prog G.w) A (assignAll cv ((assignEach es Γ.env).map (·.2))) (PU G Γ frz s Q) NoE s
  | [], es, h, v, cv, Q, σ, s, w, r, hv => by rw [chkTgs_nil h]; exact wpAny_pure ⟨σ, r, .refl _, w⟩
  | [t], es, h, v, cv, Q, σ, s, w, r, hv => by
    obtain ⟨e, es, rfl, hp, h1, h2⟩ := chkTgs_cons h
    cases chkTgs_nil h2
    rw [each_plain hp]
    exact s_target X t e h1 w r hv
  | t :: t' :: ts, es, h, v, cv, Q, σ, s, w, r, hv => by
    obtain ⟨e, es, rfl, hp, h1, h2⟩ := chkTgs_cons h
    have ih := fun {s₁ : Shared} {σ₁ : St} (w1 : wpTgs P (t' :: ts) v Q σ₁) (r1 : Rep G Γ frz σ₁ s₁) (hv1 : RV s₁.heap cv v) => s_targets X (t' :: ts) es h2 w1 r1 hv1
    obtain ⟨e', es', rfl, hp', _, _⟩ := chkTgs_cons h2
    rw [each_plain hp, each_plain hp'] at *
    exact wpAny_bind (wpAny_holding (w_mono (s_target X t e h1 w r hv) fun _ s₁ ⟨σ₁, r1, t1, w1⟩ => w_mono (ih w1 r1 (hv.tk t1)) fun _ s₂ p => p.after t1))

theorem etu (t1 t2 t3 : Expr) (t4 : List Expr) (t5 : Scope) (p : Pos) (env : Env) (u : Value → Sem Unit) :
    evalThenUse (.ListComp t1 [⟨t2, t3, t4, 0⟩] t5 p) env u = (comprehension (.ListComp t1 [⟨t2, t3, t4, 0⟩] t5 p) t5 env (firstIterPos [⟨t2, t3, t4, 0⟩] p) (newList []) false (eval t3 env) (some u) >>= fun _ => pure ()) := rfl
/-- a comprehension's value exchanged for a name -/
theorem s_assignComp (X : Cx G A P Γ C) {ts : List Tg} {elt it : Ex} {one : Bool} {is caps : List Nat} {cs : List Ex} {n : Nat} {xs : List Expr} {y : Expr}
    (h3 : chkTgs C ts xs = true) (h4 : chkE C (.comp elt one is it cs n caps) y = true) {Q : Fl → St → Prop} (w : wpE P (.comp elt one is it cs n caps) (fun v σ₁ => wpTgs P ts v (fun σ₂ => Q .next σ₂) σ₁) σ) :
    WF G A Γ (do evalThenUse y Γ.env fun v => assignAll v ((assignEach xs Γ.env).map (·.2)); pure Flow.next) Q σ := fun frz s r => by
  obtain ⟨t1, t2, t3, t4, t5, p, rfl, g1, g2, g3, g4, g5, g6⟩ := chk_comp h4
  rw [etu]
  refine wpAny_bind ?_
  have core := comp_core (pos := p) (ipos := firstIterPos [⟨t2, t3, t4, 0⟩] p) (use := some fun v => assignAll v ((assignEach xs Γ.env).map (·.2))) (QQ := fun _ s' => wpAny (model G.prog G.w) A (pure ()) (fun _ s'' => wpAny (model G.prog G.w) A (pure Flow.next) (PF G Γ frz s Q) NoE s'') NoE s')
    (R := fun σ₁ us m => ∀ a, m a = none → wpTgs P ts (.obj a) (fun σ₂ => Q .next σ₂) { σ₁ with mem := upd m a (.list us) }) X.a X.ok X.c (compOk_of g3) g1 (comp_walk X (soundX elt).e (soundL cs) (compOk_of g3) g4 g5 g6) r ((soundX it).e Γ C X t3 g2 _ _ w)
  refine wpAny_bind (core fun σ₁ s' us m' D L mL hR hm r' t' d' ns => ?_)
  obtain ⟨oL, es, ep, e, dL, hk, hf⟩ := id ns
  have ni : ¬ Imm oL := ns_not_imm ns e
  show wpAny _ A (assignAll (.ref D) ((assignEach xs Γ.env).map (·.2))) _ NoE s'
  refine w_mono (s_targets X ts xs h3 (hR D hm) (r'.asideIn d' e) (.obj D)) fun _ s₂ ⟨σ₂, r2, tt2, w2⟩ => ?_
  obtain ⟨r3, d3, e3⟩ := Rep.asideOut r' d' r2
  refine ⟨mL, ⟨oL, es, ep, e3, dL, hk, hf⟩, fun h' hs' => ?_⟩
  obtain ⟨r4, t4⟩ := r3.aside (tk := s₂.toks) d3 e3 ni hs'.extBut
  exact wpAny_pure (wpAny_pure ⟨.next, σ₂, .next, r4, (t'.trans tt2).trans t4, w2⟩)

/-- is the value exchanged -/
theorem sole_comp {xs : List Expr} {e t : Expr} {i : Expr} {ifs : List Expr} {sc : Scope} {p : Pos} {l : Nat} {env : Env} : ∃ b, swapsWithSole xs (.ListComp e [⟨t, i, ifs, 0⟩] sc p) l env = pure b ∧ (b = true → ∃ n p, xs = [.Name n p]) := by
  match xs with
  | [] => exact ⟨false, rfl, fun q => nomatch q⟩
  | _ :: _ :: _ => exact ⟨false, rfl, fun q => nomatch q⟩
  | [tg] => cases tg <;> first | exact ⟨false, rfl, fun q => nomatch q⟩ | exact ⟨_, rfl, fun _ => ⟨_, _, rfl⟩⟩
theorem sole_of {e : Ex} {xs : List Expr} {y : Expr} {l : Nat} {env : Env} (h1 : (isCompX e || notComp y) = true) (h4 : chkE C e y = true) : ∃ b, swapsWithSole xs y l env = pure b ∧ (b = true → ∃ elt one is it cs n caps, e = .comp elt one is it cs n caps) := by
  cases q : isCompX e with
  | false =>
    rw [q, Bool.false_or] at h1
    exact ⟨false, swaps_sole h1 _ _ _, fun q => nomatch q⟩
  | true =>
    cases e <;> first | exact absurd q Bool.false_ne_true | skip
    obtain ⟨t1, t2, t3, t4, t5, p, rfl, _⟩ := chk_comp h4
    obtain ⟨b, hb, _⟩ := sole_comp (xs := xs) (e := t1) (t := t2) (i := t3) (ifs := t4) (sc := t5) (p := p) (l := l) (env := env)
    exact ⟨b, hb, fun _ => ⟨_, _, _, _, _, _, _, rfl⟩⟩
theorem swaps_many {x x' y : Expr} {xs : List Expr} {env : Env} : swappedStores (x :: x' :: xs) y env = pure none := by cases x <;> rfl
theorem swaps_no {x y : Expr} {env : Env} (h : x.ctorIdx ≠ 24 ∧ (x.ctorIdx ≠ 25 ∨ y.ctorIdx ≠ 25)) : swappedStores [x] y env = pure none := by
  cases x <;> first | rfl | exact absurd rfl h.1 | skip
  cases y <;> first | rfl | exact absurd rfl (h.2.resolve_left fun q => q rfl)
/-- names of a tuple, in the other order -/
theorem s_swapped (X : Cx G A P Γ C) {ts : List Tg} {es : List Expr} {k : Nat} {p : Pos} {f : PySem.Str → Pos → Bool} {v : V} {cv : Value} {Q : Fl → St → Prop} (h3 : chkTgs C ts [.Tuple es k p] = true) (hlen : (es.filterMap (nameIf f)).length = es.length) (h23 : es.length = 2 ∨ es.length = 3)
    (w : wpTgs P ts v (fun σ₂ => Q .next σ₂) σ) (r : Rep G Γ frz σ s) (hv : RV s.heap cv v) :
    wpAny (model G.prog G.w) A (assignStores Γ.env cv (some (es.filterMap (nameIf f))) ((assignEach [.Tuple es k p] Γ.env).map (·.2))) (PF G Γ frz s Q) NoE s := by
  obtain ⟨t, ts, rfl⟩ : ∃ t ts', ts = t :: ts' := by
    cases ts with
    | nil => cases chkTgs_nil h3
    | cons t ts => exact ⟨_, _, rfl⟩
  obtain ⟨_, _, eq, _, ht, hts⟩ := chkTgs_cons h3
  cases eq
  cases ts with
  | cons t' ts => obtain ⟨_, _, eq, _⟩ := chkTgs_cons hts; cases eq
  | nil =>
  cases t <;> first | exact absurd ht Bool.false_ne_true | skip
  rename_i is
  obtain ⟨ht1, ht2⟩ := and_e (show (nodupN is && chkIs C is es) = true from ht)
  obtain ⟨vals, rfl, hl, w2⟩ := tup_inv w
  have bs := names_bs (A := A) X.ok X.c f ht2 hlen
  have hbl := bs.length
  rw [List.length_map] at hbl
  have bs' := bs.reverse
  rw [← List.map_reverse] at bs'
  show wpAny _ _ (do rule "assign.swapped-stores"; let items ← unpackItems cv (es.filterMap (nameIf f)).length none; assignInOrder ((es.filterMap (nameIf f)).reverse.map fun n => bindName Γ.env n) items.reverse; pure Flow.next) _ _ s
  refine wpAny_bind (wpAny_rule (wpAny_bind (s_unpack X.a r hv (hl.trans hbl.symm) fun cvs s₂ rs r2 t2 => wpAny_bind ?_)))
  refine s_bindsF bs' r2 rs.reverse (by rw [List.length_reverse, List.length_reverse]; exact hl.symm) fun s' r' t' => wpAny_pure ⟨.next, _, .next, r', t2.trans t', ?_⟩
  rw [setAll_rev ht1 hl.symm (by rw [← hbl, hlen]; exact h23)]
  exact w2
theorem s_stores (X : Cx G A P Γ C) {ts : List Tg} {xs : List Expr} {y : Expr} {v : V} {cv : Value} {Q : Fl → St → Prop} (h2 : swapOk xs y = true) (h3 : chkTgs C ts xs = true)
    (w : wpTgs P ts v (fun σ₂ => Q .next σ₂) σ) (r : Rep G Γ frz σ s) (hv : RV s.heap cv v) :
    wpAny (model G.prog G.w) A (do assignStores Γ.env cv (← swappedStores xs y Γ.env) ((assignEach xs Γ.env).map (·.2))) (PF G Γ frz s Q) NoE s := by
  have plain : wpAny (model G.prog G.w) A (assignStores Γ.env cv none ((assignEach xs Γ.env).map (·.2))) (PF G Γ frz s Q) NoE s :=
    wpAny_bind (w_mono (s_targets X ts xs h3 w r hv) fun _ s₂ ⟨σ₂, r2, t2, w2⟩ => wpAny_pure ⟨.next, σ₂, .next, r2, t2, w2⟩)
  have go : swappedStores xs y Γ.env = pure none → wpAny (model G.prog G.w) A (do assignStores Γ.env cv (← swappedStores xs y Γ.env) ((assignEach xs Γ.env).map (·.2))) (PF G Γ frz s Q) NoE s := fun e => by
    rw [e]; exact wpAny_bind (wpAny_pure plain)
  cases xs with
  | nil => cases h2
  | cons x xs =>
  cases xs with
  | cons x' xs => exact go swaps_many
  | nil =>
  obtain ⟨h24, h2⟩ := and_e h2
  by_cases hx : x.ctorIdx = 25
  · by_cases hy : y.ctorIdx = 25
    · rw [hx, hy] at h2
      refine isTup_e (e := y) (K := fun vs => !vs.all (constantsAlone 8) || vs.all (foldedForSure 8)) (M := fun y => (swappedStores [x] y Γ.env = pure none → wpAny (model G.prog G.w) A (do assignStores Γ.env cv (← swappedStores [x] y Γ.env) ((assignEach [x] Γ.env).map (·.2))) (PF G Γ frz s Q) NoE s) → wpAny (model G.prog G.w) A (do assignStores Γ.env cv (← swappedStores [x] y Γ.env) ((assignEach [x] Γ.env).map (·.2))) (PF G Γ frz s Q) NoE s) h2 ?_ go
      intro vs k' p' h2 go
      revert h3 go
      refine Expr.Tuple.elim (motive_1 := fun x => chkTgs C ts [x] = true → (swappedStores [x] (.Tuple vs k' p') Γ.env = pure none → wpAny (model G.prog G.w) A (do assignStores Γ.env cv (← swappedStores [x] (.Tuple vs k' p') Γ.env) ((assignEach [x] Γ.env).map (·.2))) (PF G Γ frz s Q) NoE s) → wpAny (model G.prog G.w) A (do assignStores Γ.env cv (← swappedStores [x] (.Tuple vs k' p') Γ.env) ((assignEach [x] Γ.env).map (·.2))) (PF G Γ frz s Q) NoE s) x hx ?_
      intro es k p h3 go
      rcases swapped_of (ts := es) (vs := vs) (k := k) (k' := k') (p := p) (p' := p') (env := Γ.env) h2 with q | ⟨f, q, hlen, h23⟩
      · exact go q
      · rw [q]; exact wpAny_bind (wpAny_pure (s_swapped X h3 hlen h23 w r hv))
    · exact go (swaps_no ⟨bne_iff_ne.mp h24, .inr hy⟩)
  · exact go (swaps_no ⟨bne_iff_ne.mp h24, .inl hx⟩)
theorem s_assign (X : Cx G A P Γ C) {ts : List Tg} {e : Ex} {xs : List Expr} {y : Expr} {pos : Pos} (h1 : (isCompX e || notComp y) = true) (h2 : swapOk xs y = true) (h3 : chkTgs C ts xs = true) (h4 : chkE C e y = true)
    {Q : Fl → St → Prop} (w : wpS P (.assign ts e) Q σ) : WF G A Γ (exec (.Assign xs y pos) Γ.env) Q σ := fun frz s r => by
  obtain ⟨b, hbe, hbt⟩ := sole_of (xs := xs) (l := pos.line) (env := Γ.env) h1 h4
  refine w_eq (PyProof.Rows.exec_Assign _ _ _) (wpAny_bind (wpAny_standAt ?_))
  rw [hbe]
  refine wpAny_bind (wpAny_pure ?_)
  cases b with
  | true =>
    obtain ⟨elt, one, is, it, cs, n', caps, rfl⟩ := hbt rfl
    exact s_assignComp X h3 h4 w frz s r
  | false =>
    exact wpAny_bind (((soundX e).e Γ C X y h4 _ _ w).then r fun cv v σ₁ s₁ a1 r1 t1 w1 => w_mono (s_stores X h2 h3 w1 r1 a1) fun _ _ h => h.after t1)
end
end Mine
set_option autoImplicit false
set_option maxRecDepth 10000
set_option linter.unusedVariables false
namespace Mine
open PySem PyProof.Rows PySem.W

section
variable {G : GS} {A : Around} {Γ : FE} {frz : Frz} {σ : St} {s : Shared}

theorem WF.then {t : Sem Flow} {Q : Fl → St → Prop} {post : Flow → Shared → Prop} {E : Value → Shared → Prop} (h : WF G A Γ t Q σ) (r : Rep G Γ frz σ s)
    (k : ∀ cv v σ₁ s₁, RF s₁.heap cv v → Rep G Γ frz σ₁ s₁ → TK s.heap s₁.heap → Q v σ₁ → post cv s₁) : wpAny (model G.prog G.w) A t post E s :=
  wpAny_mono (h frz s r) (fun cv s₁ ⟨v, σ₁, a, b, c, d⟩ => k cv v σ₁ s₁ a b c d) fun _ _ x => x.elim

theorem s_aug {op : Operator} {v u : V} {cv cu : Value} {Q : V → Prop} (h : wpAug σ.mem op v u Q) (r : Rep G Γ frz σ s) (hv : RV s.heap cv v) (hu : RV s.heap cu u) {post : Value → Shared → Prop}
    (k : ∀ cr r s', RV s'.heap cr r → Rep G Γ frz σ s' → TK s.heap s'.heap → Q r → post cr s') : wpAny (model G.prog G.w) A (inplaceOp op cv cu) post NoE s := by
  cases op <;> first | exact False.elim h | skip
  · cases v <;> first | exact False.elim h | skip
    · obtain ⟨b, rfl, h⟩ := asI_inv h
      exact hv.eI fun _ => hu.eI fun _ => PyProof.Rows.iadd_int (k _ _ _ (.int _ _) (r.toks _) (.refl _) h)
    · obtain ⟨b, rfl, h1, h2, h3⟩ := asS_inv h
      exact hv.eS fun _ => hu.eS fun _ => PyProof.Rows.iadd_str (fun t' tk => by rw [mkS_append]; exact k _ _ _ (.str _ _) (r.toks _) (.refl _) h3) (by rw [mkS_length, mkS_length, sizeLine_eq]; exact Nat.le_trans (Nat.add_le_add h1 h2) (by decide))
  · exact ord_e (M := fun cv cu => wpAny (model G.prog G.w) A (inplaceOp .Sub cv cu) post NoE s) h hv hu fun _ _ _ _ h => PyProof.Rows.isub_int (k _ _ _ (.int _ _) (r.toks _) (.refl _) h)

theorem s_load {i : Nat} {x : PySem.Str} {k : VK} {v : V} {post : Value → Shared → Prop} (ok : Γ.ok) (r : Rep G Γ frz σ s) (hx : Γ.vars[i]? = some (x, k)) (hv : σ.loc[i]? = some (some v)) (q : ∀ cv, RV s.heap cv v → post cv s) :
    wpAny (model G.prog G.w) A (loadName Γ.env x) post NoE s := by
  cases k with
  | loc =>
    obtain ⟨m, n, f⟩ := r.hns
    obtain ⟨cv, e, rv⟩ := f i x v hx hv
    exact wpAny_loadName_local ok.fn (ok.loc i x hx) n e (q _ rv)
  | own c =>
    obtain ⟨_, _, o, ov, g, d, f⟩ := r.hown i x c hx
    obtain ⟨cv, e, rv⟩ := f v hv
    subst e
    obtain ⟨a1, a2, _⟩ := ok.own i x c hx
    exact wpAny_loadName_cell ok.fn a1 a2 ⟨_, g, d⟩ (q _ rv)
  | ref c =>
    obtain ⟨o, ov, g, d, f⟩ := r.href i x c hx
    obtain ⟨cv, e, rv⟩ := f v hv
    subst e
    have g' := r.hfrz _ _ g
    obtain ⟨a1, a2⟩ := ok.ref i x c hx
    rcases a1 with a1 | a1
    · exact wpAny_loadName_cell ok.fn a1 a2 ⟨_, g', d⟩ (q _ rv)
    · exact wpAny_loadName_free ok.fn a1 a2 ⟨_, g', d⟩ (q _ rv) (ok.dbg i x _ hx).2

noncomputable def SS (G : GS) (A : Around) (P : PC) (x : Sm) : Prop := ∀ (Γ : FE) (C : SC), Cx G A P Γ C → ∀ (e : Stmt), chkS C x e = true → ∀ (Q : Fl → St → Prop) (σ : St), wpS P x Q σ → WF G A Γ (exec e Γ.env) Q σ
noncomputable def SB (G : GS) (A : Around) (P : PC) (xs : List Sm) : Prop := ∀ (Γ : FE) (C : SC), Cx G A P Γ C → ∀ (es : List Stmt), chkSs C xs es = true → ∀ (Q : Fl → St → Prop) (σ : St), wpSs P xs Q σ → WF G A Γ (execs es Γ.env) Q σ
variable {P : PC}
theorem sd_expr {y : Ex} : SS G A P (.expr y) := fun Γ C X e h Q σ w => isExprS_e (x := e) (K := fun e => notComp e && chkE C y e) (M := fun e => WF G A Γ (exec e Γ.env) Q σ) h fun e p h frz s r =>
  wpAny_Expr_any (((soundX y).e Γ C X e (and_e h).2 _ _ w).then r fun cv v σ₁ s₁ a1 r1 t1 w1 => ⟨.next, σ₁, .next, r1, t1, w1⟩) (by unfold interactive; rw [X.ok.fn]; rfl) (swaps_none (and_e h).1 _ _ _)
theorem sd_assign {ts : List Tg} {y : Ex} : SS G A P (.assign ts y) := fun Γ C X e h Q σ w => isAssign_e (x := e) (K := fun xs e => (isCompX y || notComp e) && (swapOk xs e && (chkTgs C ts xs && chkE C y e))) (M := fun e => WF G A Γ (exec e Γ.env) Q σ) h fun xs e p h =>
  s_assign X (and_e h).1 (and_e (and_e h).2).1 (and_e (and_e (and_e h).2).2).1 (and_e (and_e (and_e h).2).2).2 w
theorem sd_aug {i : Nat} {op : Operator} {y : Ex} : SS G A P (.aug i op y) := fun Γ C X e h Q σ w => isAug_e (x := e) (K := fun t o e => isName t fun n => C.isW i n && (op == o && chkE C y e)) (M := fun e => WF G A Γ (exec e Γ.env) Q σ) h fun t o e p h =>
  isName_e (e := t) (K := fun n => C.isW i n && (op == o && chkE C y e)) (M := fun t => WF G A Γ (exec (.AugAssign t o e p) Γ.env) Q σ) h fun n q h frz s r => by
    obtain ⟨h1, h⟩ := and_e h
    obtain ⟨h2, h3⟩ := and_e h
    cases beq_iff_eq.mp h2
    obtain ⟨v, hv, w⟩ := loc_inv w
    obtain ⟨k, hx, hk⟩ := isW_of X.c h1
    refine wpAny_AugAssign_Name (s_load X.ok r hx hv fun cv rv => ((soundX y).e Γ C X e h3 _ _ w).then r fun cu u σ₁ s₁ a1 r1 t1 w1 => s_aug w1 r1 (rv.tk t1) a1 fun cr q s' rq r2 t2 w2 => ?_)
    exact w_mono (s_store X.ok r2 hx hk rq) fun _ s₃ h3 => ⟨.next, _, .next, h3.1, (t1.trans t2).trans h3.2, w2⟩
theorem del_fin {a : Addr} {k : Int} {t : Tok} {vs : List V} {j : Nat} {post : Unit → Shared → Prop} (ok : Γ.ok) (r : Rep G Γ frz σ s) (hk : tiny k) (hm : σ.mem a = some (.list vs)) (hj : pyIx vs.length k = some j) (hz : small vs.length)
    (q : ∀ s', Rep G Γ frz { σ with mem := upd σ.mem a (.list (vs.eraseIdx j)) } s' → TK s.heap s'.heap → post () s') : wpAny (model G.prog G.w) A (delItem (.ref a) (.int k t)) post NoE s := by
  obtain ⟨arr, n, g, rs, hzz⟩ := (r.hmem _ _ hm).l
  refine PySem.P.delItem_list (n := n) g (tiny_fit hk) (by rw [hzz]; exact hj) ?_ (by rw [hzz]; exact small_line hz)
  obtain ⟨q1, q2⟩ := r.change ok (tk := s.toks) (o := .list (vs.eraseIdx j)) hm (h' := s.heap.update _ (Obj.mapSeq fun xs => xs.eraseIdxIfInBounds j)) (fun b o hb e => (Heap.get?_update_other _ _ (Ne.symm hb)).trans e)
    (fun k => .list (Heap.get?_update_self _ g rfl) (by
      show RVs _ (arr.eraseIdxIfInBounds j).toList _
      rw [Array.toList_eraseIdxIfInBounds, List.eraseIdx_eq_take_drop_succ, List.eraseIdx_eq_take_drop_succ]
      exact ((rs.tk k).take _).append ((rs.tk k).drop _)))
  exact q _ q1 q2
theorem sd_del {o i : Ex} : SS G A P (.del o i) := fun Γ C X e h Q σ w => isDel_e (x := e) (K := fun xs => one1 xs fun y => isSub y fun v s => chkE C o v && chkE C i s) (M := fun e => WF G A Γ (exec e Γ.env) Q σ) h fun xs p h => by
  obtain ⟨y, rfl, h⟩ := one1_inv h
  refine isSub_e (e := y) (K := fun v s => chkE C o v && chkE C i s) (M := fun y => WF G A Γ (exec (.Delete [y] p) Γ.env) Q σ) h fun eo ei p' h frz s r => ?_
  refine wpAny_Delete (wpAny_deleteEach_cons (wpAny_delete_Subscript (((soundX o).e Γ C X eo (and_e h).1 _ _ w).then r fun co ov σ₁ s₁ a1 r1 t1 w1 => ((soundX i).e Γ C X ei (and_e h).2 _ _ w1).then r1 fun ci iv σ₂ s₂ a2 r2 t2 w2 => ?_)))
  obtain ⟨a, k, vs, j, rfl, rfl, hk, hm, hj, hz, w⟩ := w2
  exact a1.eO (a2.eI fun _ => del_fin X.ok r2 hk hm hj hz fun s' q1 q2 => wpAny_deleteEach_nil ⟨.next, _, .next, q1, (t1.trans t2).trans q2, w⟩)
theorem sd_ife {c : Ex} {a b : List Sm} (ia : SB G A P a) (ib : SB G A P b) : SS G A P (.ife c a b) := fun Γ C X e h Q σ w => isIfS_e (x := e) (K := fun t y z => chkE C c t && (chkSs C a y && chkSs C b z)) (M := fun e => WF G A Γ (exec e Γ.env) Q σ) h fun t y z p h frz s r =>
  w_eq (arm_exec_If _ _ _ _ _) (wpAny_bind (wpAny_standAt (wpAny_bind (((soundX c).t Γ C X t (and_e h).1 _ _ w).then r fun t σ₁ s₁ r1 t1 w1 => by
    cases t with
    | true => exact w_mono (ia Γ C X y (and_e (and_e h).2).1 _ _ w1 frz s₁ r1) fun f s₂ p => p.after t1
    | false => exact w_mono (ib Γ C X z (and_e (and_e h).2).2 _ _ w1 frz s₁ r1) fun f s₂ p => p.after t1))))
theorem sd_whl {c : Ex} {b : List Sm} (ib : SB G A P b) : SS G A P (.whl c b) := fun Γ C X e h Q σ w => isWhile_e (x := e) (K := fun t y z => z.isEmpty && (chkE C c t && chkSs C b y)) (M := fun e => WF G A Γ (exec e Γ.env) Q σ) h fun t y z p h frz s r => by
  obtain ⟨h0, h⟩ := and_e h
  obtain ⟨hc, hb⟩ := and_e h
  cases List.isEmpty_iff.mp h0
  obtain ⟨I, ⟨n, hI⟩, turn⟩ := w
  refine wpAny_While (codeAny_whileLoop (fun n s' => ∃ σ', Rep G Γ frz σ' s' ∧ TK s.heap s'.heap ∧ I n σ') ?_ n ⟨σ, r, .refl _, hI⟩)
  intro n s₁ ⟨σ₁, r1, t1, i1⟩
  refine wpAny_mono ((soundX c).t Γ C X t hc _ _ (turn n σ₁ i1) frz s₁ r1) (fun t s₂ p => ?_) fun _ _ x => x.elim
  obtain ⟨σ₂, r2, t2, w2⟩ := p
  cases t with
  | true =>
    rw [if_pos rfl] at w2 ⊢
    refine (ib Γ C X y hb _ _ w2).then r2 fun cf f σ₃ s₃ a3 r3 t3 w3 => ?_
    have tt := (t1.trans t2).trans t3
    cases a3 with
    | next => obtain ⟨m, hm, hi⟩ := w3; exact ⟨m, hm, σ₃, r3, tt, hi⟩
    | cont => obtain ⟨m, hm, hi⟩ := w3; exact ⟨m, hm, σ₃, r3, tt, hi⟩
    | brk => exact ⟨.next, σ₃, .next, r3, tt, w3⟩
    | ret q => exact ⟨.ret _, σ₃, .ret q, r3, tt, w3⟩
  | false =>
    rw [if_neg Bool.false_ne_true] at w2 ⊢
    rw [arm_execs_nil]
    exact wpAny_pure ⟨.next, σ₂, .next, r2, t1.trans t2, w2⟩
/-- where a for stands -/
noncomputable def ForI (G : GS) (P : PC) (Γ : FE) (frz : Frz) (s : Shared) (ia : Addr) (t : Tg) (b : List Sm) (g : Mem → Prop) (Q : Fl → St → Prop) (n : Nat) (s' : Shared) : Prop :=
  ∃ σ' vs' o, vs'.length = n ∧ Rep G Γ frz σ' s' ∧ TK s.heap s'.heap ∧ Aside G Γ frz σ' ia ∧ s'.heap.get? ia = some o ∧ IterAt s'.heap o g vs' ∧ wpLoop (wpTg P t) (wpSs P b) g Q vs' σ'
theorem for_turn {Γ : FE} {C : SC} {frz : Frz} {t : Tg} {b : List Sm} {tg : Expr} {y : List Stmt} {g : Mem → Prop} {Q : Fl → St → Prop} {s₀ s : Shared} {ia : Addr} {o : Obj} {vs : List V} {v : V} {cv : Value} (X : Cx G A P Γ C) (ib : SB G A P b) (htg : chkTg C t tg = true) (hb : chkSs C b y = true)
    {E : Value → Shared → Prop} {R : Flow → Shared → Prop}
    (r : Rep G Γ frz σ s) (t0 : TK s₀.heap s.heap) (d : Aside G Γ frz σ ia) (ho : s.heap.get? ia = some o) (i : IterAt s.heap o g vs) (hv : RV s.heap cv v)
    (w : wpTg P t v (fun σ => wpSs P b (fun fl σ₁ => match fl with
      | .next => wpLoop (wpTg P t) (wpSs P b) g Q vs σ₁
      | .cont => wpLoop (wpTg P t) (wpSs P b) g Q vs σ₁
      | .brk => Q .next σ₁
      | .ret r => Q (.ret r) σ₁) σ) σ)
    (k : ∀ f s', (f = .next ∨ f = .cont) → ForI G P Γ frz s₀ ia t b g Q vs.length s' → R f s') (kb : ∀ s', PF G Γ frz s₀ Q .next s' → R .brk s') (kr : ∀ v s', PF G Γ frz s₀ Q (.ret v) s' → R (.ret v) s') :
    wpAny (model G.prog G.w) A (assign tg Γ.env cv) (fun _ s' => wpAny (model G.prog G.w) A (execs y Γ.env) R E s') NoE s := by
  refine w_mono (s_target X t tg htg w (r.asideIn d ho) hv) fun _ s₅ p => ?_
  obtain ⟨σ₅, r5, t5, w5⟩ := p
  refine (ib Γ C X y hb _ _ w5).then r5 fun cf f σ₆ s₆ a6 r6 t6 w6 => ?_
  obtain ⟨r6', d6, ho6⟩ := Rep.asideOut r d r6
  have tt := (t0.trans t5).trans t6
  have i6 := i.tk (t5.trans t6)
  cases a6 with
  | next => exact k _ _ (.inl rfl) ⟨σ₆, vs, o, rfl, r6', tt, d6, ho6, i6, w6⟩
  | cont => exact k _ _ (.inr rfl) ⟨σ₆, vs, o, rfl, r6', tt, d6, ho6, i6, w6⟩
  | brk => exact kb _ ⟨.next, σ₆, .next, r6', tt, w6⟩
  | ret q => exact kr _ _ ⟨.ret _, σ₆, .ret q, r6', tt, w6⟩
theorem sd_fr {t : Tg} {it : Ex} {b : List Sm} (ib : SB G A P b) : SS G A P (.fr t it b) := fun Γ C X e h Q σ w => isFor_e (x := e) (K := fun tg e y z => z.isEmpty && (plainE e && (chkTg C t tg && (chkE C it e && chkSs C b y)))) (M := fun e => WF G A Γ (exec e Γ.env) Q σ) h fun tg e y z p h frz s r => by
  obtain ⟨h0, h⟩ := and_e h
  obtain ⟨hpl, h⟩ := and_e h
  obtain ⟨htg, h⟩ := and_e h
  obtain ⟨hit, hb⟩ := and_e h
  cases List.isEmpty_iff.mp h0
  refine wpAny_For (((soundX it).e Γ C X e hit _ _ w).then r fun cv v σ₁ s₁ a1 r1 t1 w1 => ?_) fun x => folded_plain hpl x
  obtain ⟨vs, g, w1, mk⟩ := iter_make (A := A) r1 a1 w1
  refine w_mono mk fun itv s₂ p => ?_
  obtain ⟨ia, o, rfl, r2, t2, d2, ho2, i2⟩ := p
  refine codeAny_forLoop_any (ForI G P Γ frz s ia t b g Q) ?_ _ ⟨σ₁, vs, o, rfl, r2, t1.trans t2, d2, ho2, i2, w1⟩
  intro n s₃ h3
  obtain ⟨σ₃, vs', o', hl, r3, t3, d3, ho3, i3, w3⟩ := h3
  cases vs' with
  | nil =>
    refine wpAny_mono (iter_next X.a r3 d3 ho3 i3 w3.1) (fun x s₄ p => ?_) fun _ _ x => x.elim
    cases x with
    | some _ => exact False.elim p
    | none => exact w_eq (arm_execs_nil _) (wpAny_pure ⟨.next, σ₃, .next, p.1, t3.trans p.2, w3.2⟩)
  | cons v' vs' =>
    refine wpAny_mono (iter_next X.a r3 d3 ho3 i3 w3.1) (fun x s₄ p => ?_) fun _ _ x => x.elim
    cases x with
    | none => exact False.elim p
    | some cv' =>
      obtain ⟨a4, r4, t4, o4, ho4, i4⟩ := p
      show wpAny _ _ (letOwnedTupleGo tg (Value.ref ia) cv') _ _ s₄
      refine letGo_none ho4 i4 ?_
      refine wpAny_mono (for_turn X ib htg hb r4 (t3.trans t4) d3 ho4 i4 a4 w3.2 ?_ ?_ ?_) (fun _ _ x => x) fun _ _ x => x.elim
      · intro f s' hf h
        rcases hf with rfl | rfl
        · exact ⟨_, by rw [← hl]; exact Nat.lt_succ_self _, h⟩
        · exact ⟨_, by rw [← hl]; exact Nat.lt_succ_self _, h⟩
      · exact fun _ h => h
      · exact fun _ _ h => h
theorem sd_ret {y : Ex} : SS G A P (.ret y) := fun Γ C X e h Q σ w => isRet_e (x := e) (K := fun e => chkO C y e) (M := fun e => WF G A Γ (exec e Γ.env) Q σ) h fun e p h frz s r => by
  cases e with
  | none =>
    obtain ⟨v, σ', a, b, c, d⟩ := soundO_none h w r
    exact wpAny_Return_none ⟨.ret v, σ', .ret a, b, c, d⟩
  | some e => exact wpAny_Return_some (((soundX y).e Γ C X e h _ _ w).then r fun cv v σ₁ s₁ a1 r1 t1 w1 => ⟨.ret v, σ₁, .ret a1, r1, t1, w1⟩)
theorem sd_brk : SS G A P .brk := fun Γ C X e h Q σ w => isBrk_e (x := e) (K := fun _ => true) (M := fun e => WF G A Γ (exec e Γ.env) Q σ) h fun p _ frz s r =>
  w_eq (arm_exec_Break _ _) (wpAny_bind (wpAny_standAt (wpAny_pure ⟨.brk, σ, .brk, r, .refl _, w⟩)))
theorem sb_nil : SB G A P [] := fun Γ C X es h Q σ w frz s r => by
  cases chkSs_nil h
  exact w_eq (arm_execs_nil _) (wpAny_pure ⟨.next, σ, .next, r, .refl _, w⟩)
theorem sb_cons {x : Sm} {xs : List Sm} (ix : SS G A P x) (is : SB G A P xs) : SB G A P (x :: xs) := fun Γ C X es h Q σ w frz s r => by
  obtain ⟨e, es, rfl, h1, h2⟩ := chkSs_cons h
  refine w_eq (arm_execs_cons _ _ _) (wpAny_bind ((ix Γ C X e h1 _ _ w).then r fun cf f σ₁ s₁ a1 r1 t1 w1 => ?_))
  cases a1 with
  | next => exact w_mono (is Γ C X es h2 _ _ w1 frz s₁ r1) fun f s₂ p => p.after t1
  | brk => exact wpAny_pure ⟨_, σ₁, .brk, r1, t1, w1⟩
  | cont => exact wpAny_pure ⟨_, σ₁, .cont, r1, t1, w1⟩
  | ret q => exact wpAny_pure ⟨_, σ₁, .ret q, r1, t1, w1⟩
theorem soundB : (xs : List Sm) → SB G A P xs := Sm.rec_1 (motive_1 := SS G A P) (motive_2 := SB G A P)
  (fun _ => sd_expr) (fun _ _ => sd_assign) (fun _ _ _ => sd_aug) (fun _ _ => sd_del) (fun _ _ _ ia ib => sd_ife ia ib) (fun _ _ ib => sd_whl ib) (fun _ _ _ ib => sd_fr ib) (fun _ => sd_ret) sd_brk
  (fun _ _ _ _ h => absurd h Bool.false_ne_true) sb_nil (fun _ _ ix is => sb_cons ix is)
end
end Mine
set_option autoImplicit false
set_option maxRecDepth 10000
set_option linter.unusedVariables false
namespace Mine
open PySem PyProof.Rows PySem.W

noncomputable def retV : Fl → V
  | .ret v => v
  | _ => .none

theorem bindL_other {k : PySem.Str → Option NameKind} : ∀ {ps : List PySem.Str} {cs : List Value} {m : PySem.Str → Option Value} {x : PySem.Str}, x ∉ ps → bindL k (ps.zip cs) m x = m x
  | [], _, _, _, _ => by simp [bindL]
  | _ :: _, [], _, _, _ => by simp [bindL]
  | p :: ps, c :: cs, m, x, h => by
    rw [List.zip_cons_cons]; unfold bindL
    rw [bindL_other (fun q => h (List.mem_cons_of_mem _ q))]
    split
    · exact if_neg (fun q => h (by subst q; simp))
    · rfl
theorem bindL_get {k : PySem.Str → Option NameKind} : ∀ {ps : List PySem.Str} {cs : List Value} {m : PySem.Str → Option Value} {i : Nat} {x : PySem.Str} {c : Value}, ps.Nodup → ps[i]? = some x → cs[i]? = some c → k x = some .local → bindL k (ps.zip cs) m x = some c
  | [], _, _, _, _, _, _, h, _, _ => by simp at h
  | _ :: _, [], _, _, _, _, _, _, h, _ => by simp at h
  | p :: ps, d :: cs, m, 0, x, c, hn, h1, h2, hk => by
    simp only [List.getElem?_cons_zero, Option.some.injEq] at h1 h2
    subst h1; subst h2
    rw [List.nodup_cons] at hn
    rw [List.zip_cons_cons]; unfold bindL
    rw [bindL_other hn.1, if_pos hk, if_pos rfl]
  | p :: ps, d :: cs, m, i + 1, x, c, hn, h1, h2, hk => by
    rw [List.nodup_cons] at hn
    rw [List.zip_cons_cons]; unfold bindL
    exact bindL_get hn.2 (by simpa using h1) (by simpa using h2) hk
theorem bindC_other {k : PySem.Str → Option NameKind} : ∀ {ps : List PySem.Str} {cs : List Value} {m : PySem.Str → Option Value} {x : PySem.Str}, x ∉ ps → bindC k (ps.zip cs) m x = m x
  | [], _, _, _, _ => by simp [bindC]
  | _ :: _, [], _, _, _ => by simp [bindC]
  | p :: ps, c :: cs, m, x, h => by
    rw [List.zip_cons_cons]; unfold bindC
    rw [bindC_other (fun q => h (List.mem_cons_of_mem _ q))]
    split
    · rfl
    · exact if_neg (fun q => h (by subst q; simp))

theorem bindC_get {k : PySem.Str → Option NameKind} : ∀ {ps : List PySem.Str} {cs : List Value} {m : PySem.Str → Option Value} {i : Nat} {x : PySem.Str} {c : Value}, ps.Nodup → ps[i]? = some x → cs[i]? = some c → ¬ k x = some .local → bindC k (ps.zip cs) m x = some c
  | [], _, _, _, _, _, _, h, _, _ => by simp at h
  | _ :: _, [], _, _, _, _, _, _, h, _ => by simp at h
  | p :: ps, d :: cs, m, 0, x, c, hn, h1, h2, hk => by
    simp only [List.getElem?_cons_zero, Option.some.injEq] at h1 h2
    subst h1; subst h2
    rw [List.nodup_cons] at hn
    rw [List.zip_cons_cons]; unfold bindC
    rw [bindC_other hn.1, if_neg hk, if_pos rfl]
  | p :: ps, d :: cs, m, i + 1, x, c, hn, h1, h2, hk => by
    rw [List.nodup_cons] at hn
    rw [List.zip_cons_cons]; unfold bindC
    exact bindC_get hn.2 (by simpa using h1) (by simpa using h2) hk

theorem w_ifneg {α : Type} {M : Model} {A : Around} {E : Value → Shared → Prop} {s : Shared} {c : Prop} [Decidable c] {x y : Sem α} {Q : α → Shared → Prop} (h : ¬ c) (k : wpAny M A y Q E s) : wpAny M A (if c then x else y) Q E s := by rw [if_neg h]; exact k
noncomputable def parOk (p : Arguments) (ps : List PySem.Str) : Bool :=
  p.posonlyargs.isEmpty && (p.vararg.isNone && (p.kwonlyargs.isEmpty && (p.kwarg.isNone && p.args.map Arg.arg == ps)))
/-- the default values -/
noncomputable def Dflt (h : Heap) (v : Value) (ds : List Value) : Prop := (v = .none ∧ ds = []) ∨ ∃ T o arr n, v = .ref T ∧ h.get? T = some o ∧ o.data = .seq arr n ∧ arr.toList = ds
theorem w_dflt {M : Model} {A : Around} {E : Value → Shared → Prop} {s : Shared} {v : Value} {ds : List Value} {Q : Option (Array Value) → Shared → Prop} (h : Dflt s.heap v ds) (q : ∀ d : Option (Array Value), (d.getD #[]).toList = ds → Q d s) : wpAny M A (seqItems? v) Q E s := by
  rcases h with ⟨rfl, rfl⟩ | ⟨T, o, arr, n, rfl, h1, h2, h3⟩
  · exact wpAny_bind (wpAny_of_eq (a := ()) rfl (wpAny_pure (q none rfl)))
  · exact wpAny_seqItems h1 h2 (q _ h3)
noncomputable def fill (s l : List (PySem.Str × Value)) : List (PySem.Str × Value) := l.foldl (fun s x => if (s.lookup x.1).isNone = true then s ++ [(x.1, x.2)] else s) s
theorem lookup_app {x : PySem.Str} : ∀ (s l : List (PySem.Str × Value)), (s ++ l).lookup x = (s.lookup x).or (l.lookup x)
  | [], _ => rfl
  | (y, v) :: s, l => by
    rw [List.cons_append, List.lookup_cons, List.lookup_cons, lookup_app s l]
    cases x == y <;> rfl
theorem fill_look {x : PySem.Str} : ∀ (l s : List (PySem.Str × Value)), (fill s l).lookup x = (s.lookup x).or (l.lookup x)
  | [], s => (Option.or_none).symm
  | (y, v) :: l, s => by
    show (fill (if (s.lookup y).isNone = true then s ++ [(y, v)] else s) l).lookup x = _
    rw [fill_look l, List.lookup_cons]
    by_cases q : x = y
    · subst q
      rw [beq_self_eq_true]
      by_cases e : (s.lookup x).isNone = true
      · rw [if_pos e, lookup_app, List.lookup_cons, beq_self_eq_true, Option.isNone_iff_eq_none.mp e]; rfl
      · rw [if_neg e]
        cases z : List.lookup x s with
        | none => rw [z] at e; exact absurd rfl e
        | some u => rfl
    · rw [beq_eq_false_iff_ne.mpr q]
      by_cases e : (s.lookup y).isNone = true
      · rw [if_pos e, lookup_app, List.lookup_cons, beq_eq_false_iff_ne.mpr q]; show ((s.lookup x).or none).or _ = _; rw [Option.or_none]
      · rw [if_neg e]
theorem w_fill {M : Model} {A : Around} {E : Value → Shared → Prop} {s : Shared} {Q : List (PySem.Str × Value) → Shared → Prop} : ∀ (l t : List (PySem.Str × Value)), Q (fill t l) s →
    wpAny M A (forIn l t fun (x : PySem.Str × Value) (t : List (PySem.Str × Value)) => if (t.lookup x.1).isNone = true then pure (ForInStep.yield (t ++ [(x.1, x.2)])) else pure (ForInStep.yield t)) Q E s
  | [], t, q => wpAny_pure q
  | x :: l, t, q => by
    rw [List.forIn_cons]
    refine wpAny_bind ?_
    split
    · exact wpAny_pure (w_fill l _ (by unfold fill at q; rw [List.foldl_cons, if_pos (by assumption)] at q; exact q))
    · exact wpAny_pure (w_fill l _ (by unfold fill at q; rw [List.foldl_cons, if_neg (by assumption)] at q; exact q))
theorem fm_zip {L : PySem.Str → Option Value} : ∀ {ps : List PySem.Str} {cs : List Value}, ps.length = cs.length → (∀ (i : Nat) x v, ps[i]? = some x → cs[i]? = some v → L x = some v) → ps.filterMap (fun n => (L n).map (n, ·)) = ps.zip cs
  | [], _, _, _ => rfl
  | _ :: _, [], h, _ => nomatch h
  | p :: ps, c :: cs, h, k => by
    rw [List.filterMap_cons, k 0 p c rfl rfl, List.zip_cons_cons, ← fm_zip (Nat.succ.inj h) fun i x v a b => k (i + 1) x v a b]; rfl
theorem zip_look : ∀ {ps : List PySem.Str} {cs : List Value}, ps.Nodup → ∀ {i : Nat} {x : PySem.Str}, ps[i]? = some x → (ps.zip cs).lookup x = cs[i]?
  | [], _, _, _, _, h => nomatch h
  | _ :: _, [], _, _, _, _ => rfl
  | p :: ps, c :: cs, hn, 0, x, h => by cases h; rw [List.zip_cons_cons, List.lookup_cons, beq_self_eq_true]; rfl
  | p :: ps, c :: cs, hn, i + 1, x, h => by
    rw [List.nodup_cons] at hn
    have h : ps[i]? = some x := h
    have ne : x ≠ p := fun q => hn.1 (by rw [← q]; exact List.mem_of_getElem? h)
    rw [List.zip_cons_cons, List.lookup_cons, beq_eq_false_iff_ne.mpr ne]; exact zip_look hn.2 h
theorem args_eq {p : Arguments} (h1 : p.posonlyargs = []) (h2 : p.vararg = none) (h3 : p.kwonlyargs = []) (h4 : p.kwarg = none) : p = ⟨[], p.args, none, [], p.kw_defaults, none, p.defaults⟩ := by
  cases p; cases h1; cases h2; cases h3; cases h4; rfl
theorem parOk_inv {p : Arguments} {ps : List PySem.Str} (h : parOk p ps = true) : p = ⟨[], p.args, none, [], p.kw_defaults, none, p.defaults⟩ ∧ p.args.map Arg.arg = ps :=
  have h2 := (and_e h).2
  have h3 := (and_e h2).2
  have h4 := (and_e h3).2
  ⟨args_eq (List.isEmpty_iff.mp (and_e h).1) (Option.isNone_iff_eq_none.mp (and_e h2).1) (List.isEmpty_iff.mp (and_e h3).1) (Option.isNone_iff_eq_none.mp (and_e h4).1), beq_iff_eq.mp (and_e h4).2⟩
theorem bind_look {ps : List PySem.Str} {cs ds : List Value} {c j : Nat} (hn : ps.Nodup) (hc : cs.length = j + c) (hp : ps.length = c + ds.length) (hj : j ≤ ds.length) :
    ps.filterMap (fun n => ((fill (ps.zip cs) ((ps.drop (ps.length - ds.length)).zip ds)).lookup n).map (n, ·)) = ps.zip (cs ++ ds.drop j) := by
  refine fm_zip (by rw [List.length_append, List.length_drop, hc, hp, Nat.add_comm j c, Nat.add_assoc, Nat.add_sub_cancel' hj]) fun i x v h1 h2 => ?_
  rw [fill_look, zip_look hn h1, hp, Nat.add_sub_cancel]
  by_cases q : i < cs.length
  · rw [List.getElem?_append_left q] at h2
    rw [h2]; rfl
  · have q := Nat.le_of_not_lt q
    rw [List.getElem?_append_right q, List.getElem?_drop, hc] at h2
    rw [List.getElem?_eq_none q]
    obtain ⟨i, rfl⟩ := Nat.exists_eq_add_of_le (hc ▸ q)
    rw [Nat.add_sub_cancel_left] at h2
    have e : (ps.drop c)[j + i]? = some x := by rw [List.getElem?_drop, ← h1, ← Nat.add_assoc, Nat.add_comm c j]
    show ((ps.drop c).zip ds).lookup x = _
    rw [zip_look (hn.sublist (List.drop_sublist _ _)) e, h2]
theorem bind_miss {ps : List PySem.Str} {cs : List Value} {k : Nat} (hn : ps.Nodup) (hk : k ≤ cs.length) : ((ps.take k).filter fun n => ((ps.zip cs).lookup n).isNone).isEmpty = true := by
  rw [List.isEmpty_iff, List.filter_eq_nil_iff]
  intro n hm
  obtain ⟨i, hi⟩ := List.getElem?_of_mem hm
  rw [List.getElem?_take] at hi
  split at hi
  · rename_i hik
    rw [zip_look hn hi, List.getElem?_eq_getElem (Nat.lt_of_lt_of_le hik hk)]
    exact Bool.false_ne_true
  · cases hi
theorem bind_core {s : Shared} {f : FuncData} {ar : List Arg} {kd : List (Option Expr)} {de : List Expr} {cs ds : List Value} {c j : Nat} (hf : f.params = ⟨[], ar, none, [], kd, none, de⟩) (hd : Dflt s.heap f.defaults ds) (hn : (ar.map Arg.arg).Nodup)
    (hc : cs.length = j + c) (hp : (ar.map Arg.arg).length = c + ds.length) (hj : j ≤ ds.length) : BindsTo s f ⟨cs, []⟩ ((ar.map Arg.arg).zip (cs ++ ds.drop j)) := by
  obtain ⟨_, _, _, _, _, _, _, dv, _, _, _, _, _, _⟩ := f
  cases hf
  rw [← bind_look hn hc hp hj]
  intro M A E Q q
  unfold bindArgs
  refine wpAny_bind (wpAny_pure (wpAny_bind (w_dflt hd fun d hds => ?_)))
  subst hds
  have e : (d.getD #[]).toList.drop ((d.getD #[]).toList.length - (ar.map Arg.arg).length) = (d.getD #[]).toList := by rw [hp, Nat.sub_eq_zero_of_le (Nat.le_add_left ..)]; rfl
  have m := bind_miss (cs := cs) (k := (ar.map Arg.arg).length - ((d.getD #[]).toList.drop ((d.getD #[]).toList.length - (ar.map Arg.arg).length)).length) hn (by rw [e, hp, hc, Nat.add_sub_cancel]; exact Nat.le_add_left ..)
  have q' : Q ((ar.map Arg.arg ++ []).filterMap (fun n => ((fill ((ar.map Arg.arg).zip cs) (((ar.map Arg.arg).drop ((ar.map Arg.arg).length - ((d.getD #[]).toList.drop ((d.getD #[]).toList.length - (ar.map Arg.arg).length)).length)).zip ((d.getD #[]).toList.drop ((d.getD #[]).toList.length - (ar.map Arg.arg).length)))).lookup n).map (n, ·))) s := by
    rw [e, List.append_nil]; exact q
  have hl : cs.length ≤ (ar.map Arg.arg).length := by rw [hc, hp, Nat.add_comm]; exact Nat.add_le_add_left hj c
  exact w_ifneg (fun h => absurd (of_decide_eq_true (and_e h).1) (Nat.not_lt.mpr hl)) (w_ifneg (fun h => Bool.noConfusion (m.symm.trans ((Bool.not_eq_true' _).mp h))) (wpAny_bind (w_fill _ _ (wpAny_bind (wpAny_pure (w_ifneg Bool.false_ne_true (wpAny_pure q')))))))
theorem bind_simple {s : Shared} {fd : FuncData} {ps : List PySem.Str} {cs ds : List Value} {c j : Nat} (hp : parOk fd.params ps = true) (hd : Dflt s.heap fd.defaults ds) (hn : ps.Nodup) (hc : cs.length = j + c) (hpl : ps.length = c + ds.length) (hj : j ≤ ds.length) :
    BindsTo s fd ⟨cs, []⟩ (ps.zip (cs ++ ds.drop j)) := by
  obtain ⟨e, rfl⟩ := parOk_inv hp
  exact bind_core e hd hn hc hpl hj

noncomputable def fdAt (o : Obj) : Option FuncData := match o.data with
  | .func fd => some fd
  | _ => none
noncomputable def fnOf (K : Frag) (f : Addr) : Option FuncData := (K.lookup f).bind fdAt
theorem fnOf_inv {K : Frag} {f : Addr} {fd : FuncData} (h : fnOf K f = some fd) : ∃ o, K.lookup f = some o ∧ o.data = .func fd := by
  obtain ⟨o, e1, e2⟩ := Option.bind_eq_some_iff.mp h
  refine ⟨o, e1, ?_⟩
  unfold fdAt at e2
  generalize o.data = d at e2
  cases d <;> cases e2
  rfl
noncomputable def bodyOf (fd : FuncData) : List Stmt := match fd.body with
  | .stmts b => b
  | _ => []
noncomputable def isStmts (fd : FuncData) : Bool := match fd.body with
  | .stmts _ => true
  | _ => false
theorem lookup_mem' {α β : Type} [BEq α] [LawfulBEq α] {x : α} {k : β} : ∀ {l : List (α × β)}, l.lookup x = some k → (x, k) ∈ l
  | [], h => by cases h
  | (y, d) :: l, h => by
    rw [List.lookup_cons] at h
    split at h
    · rename_i e; rw [beq_iff_eq] at e; subst e; cases h; simp
    · exact List.mem_cons_of_mem _ (lookup_mem' h)


theorem cells_more {x : PySem.Str} : ∀ (names : List (PySem.Str × NameKind)) (n : Nat) (acc : List (PySem.Str × Addr)), (acc.lookup x).isSome = true → ((cellsFrom n names acc).lookup x).isSome = true
  | [], _, _, h => h
  | (y, k) :: r, n, acc, h => by
    unfold cellsFrom
    split
    · refine cells_more r _ _ ?_
      rw [List.lookup_cons]
      split
      · rfl
      · exact h
    · exact cells_more r _ _ h
theorem cells_some {x : PySem.Str} : ∀ (names : List (PySem.Str × NameKind)) (n : Nat) (acc : List (PySem.Str × Addr)), names.lookup x = some .cell → ((cellsFrom n names acc).lookup x).isSome = true
  | [], _, _, h => by cases h
  | (y, k) :: r, n, acc, h => by
    rw [List.lookup_cons] at h
    unfold cellsFrom
    split at h
    · rename_i e
      cases h
      rw [if_pos (by decide)]
      refine cells_more r _ _ ?_
      rw [List.lookup_cons, e]; rfl
    · split <;> exact cells_some r _ _ h

/-- the names of a function: its own dict's, its own cells' -/
noncomputable def fnVars (fd : FuncData) (L : Addr) (xs : List PySem.Str) : List (PySem.Str × VK) :=
  xs.map fun x => (x, if fd.scope.names.lookup x = some .cell then .own (((cellsFrom (L + 1) fd.scope.names []).lookup x).getD 0) else .loc)
noncomputable def fnFE (fd : FuncData) (L f : Addr) (xs : List PySem.Str) : FE := ⟨callEnvC fd L f, fnVars fd L xs⟩
/-- names local or in cells, none twice -/
noncomputable def locOk (fd : FuncData) (xs : List PySem.Str) : Bool :=
  nodupS xs && xs.all fun x => (fd.scope.names.lookup x == some .local || fd.scope.names.lookup x == some .cell) && !(x == ("__debug__" : PySem.Str)) && !(x == ("__classdict__" : PySem.Str))
noncomputable def namesOk (fd : FuncData) (C : SC) : Bool := (C.names.all fun p => fd.scope.names.lookup p.1 == some p.2) && C.cells.all fun x => fd.scope.names.lookup x == some .cell
noncomputable def locSC (ps rest : List PySem.Str) (names : List (PySem.Str × NameKind)) (fns meths : List String) (cells : List PySem.Str) : SC := ⟨(ps ++ rest).map (·, false), names, fns, meths, cells⟩
/-- a value that stands for itself -/
noncomputable def selfOk (v : V) (c : Value) : Bool := match v with
  | .none => c == .none
  | .bool b => c == .bool b
  | _ => false
theorem selfOk_rv {v : V} {c : Value} (h : selfOk v c = true) (hh : Heap) : RV hh c v := by
  cases v <;> first | exact absurd h Bool.false_ne_true | (cases beq_iff_eq.mp h; constructor)
noncomputable def selfsOk : List V → List Value → Bool
  | [], cs => cs.isEmpty
  | v :: vs, cs => cs.head?.any fun c => selfOk v c && selfsOk vs cs.tail
theorem selfsOk_rv {h : Heap} : ∀ {vs : List V} {cs : List Value}, selfsOk vs cs = true → RVs h cs vs
  | [], cs, q => by cases List.isEmpty_iff.mp q; exact .nil
  | v :: vs, cs, q => by
    cases cs with
    | nil => cases q
    | cons c cs => exact .cons (selfOk_rv (and_e q).1 h) (selfsOk_rv (and_e q).2)
/-- the defaults, told -/
noncomputable def seqOf (o : Obj) : List Value := match o.data with
  | .seq arr _ => arr.toList
  | _ => []
noncomputable def isSeq (o : Obj) : Bool := match o.data with
  | .seq _ _ => true
  | _ => false
theorem isSeq_inv {o : Obj} (h : isSeq o = true) : ∃ arr n, o.data = .seq arr n := by
  unfold isSeq at h
  generalize o.data = d at h
  cases d <;> first | exact absurd h Bool.false_ne_true | exact ⟨_, _, rfl⟩
noncomputable def refA (v : Value) : Option Addr := match v with
  | .ref T => some T
  | _ => none
theorem refA_inv {v : Value} {T : Addr} (h : refA v = some T) : v = .ref T := by cases v <;> cases h; rfl
noncomputable def dfltOk (K : Frag) (v : Value) (ds : List V) : Bool := (v == .none && ds.isEmpty) || (refA v).any fun T => (K.lookup T).any fun o => isSeq o && selfsOk ds (seqOf o)
theorem any_inv {α : Type} {o : Option α} {f : α → Bool} (h : o.any f = true) : ∃ a, o = some a ∧ f a = true := by
  cases o with
  | none => cases h
  | some a => exact ⟨a, rfl, h⟩
theorem dfltOk_of {K : Frag} {v : Value} {ds : List V} {h : Heap} (X : K.In h) (q : dfltOk K v ds = true) : ∃ cs, Dflt h v cs ∧ RVs h cs ds := by
  rcases (Bool.or_eq_true _ _).mp q with q | q
  · have q2 := List.isEmpty_iff.mp (and_e q).2
    exact ⟨[], .inl ⟨beq_iff_eq.mp (and_e q).1, rfl⟩, q2 ▸ .nil⟩
  · obtain ⟨T, eT, q⟩ := any_inv q
    obtain ⟨o, eo, q⟩ := any_inv q
    obtain ⟨q1, q2⟩ := and_e q
    obtain ⟨arr, n, e⟩ := isSeq_inv q1
    refine ⟨_, .inr ⟨_, _, _, _, refA_inv eT, X _ _ eo, e, rfl⟩, ?_⟩
    unfold seqOf at q2
    rw [e] at q2
    exact selfsOk_rv q2
/-- the parts of a function that need no heap -/
noncomputable def fdOk (K : Frag) (fd : FuncData) (ps : List PySem.Str) : Bool :=
  codeIn K fd.code fd.qualname && (fd.globals == mainGlobals && (fd.builtins == builtinsNs && (parOk fd.params ps && (!fd.scope.isCoroutine && (!fd.scope.isGenerator && fd.scope.kind == .function)))))
structure FdOk (K : Frag) (fd : FuncData) (ps : List PySem.Str) : Prop where
  code : codeIn K fd.code fd.qualname = true
  glb : fd.globals = mainGlobals
  bui : fd.builtins = builtinsNs
  par : parOk fd.params ps = true
  co : fd.scope.isCoroutine = false
  ge : fd.scope.isGenerator = false
  fn : fd.scope.kind = .function
theorem fdOk_of {K : Frag} {fd : FuncData} {ps : List PySem.Str} (h : fdOk K fd ps = true) : FdOk K fd ps :=
  have h2 := (and_e h).2
  have h3 := (and_e h2).2
  have h4 := (and_e h3).2
  have h5 := (and_e h4).2
  have h6 := (and_e h5).2
  ⟨(and_e h).1, beq_iff_eq.mp (and_e h2).1, beq_iff_eq.mp (and_e h3).1, (and_e h4).1, (Bool.not_eq_true' _).mp (and_e h5).1, (Bool.not_eq_true' _).mp (and_e h6).1, beq_iff_eq.mp (and_e h6).2⟩
noncomputable def fnChkD (K : Frag) (f : Addr) (ds : List V) (ps rest : List PySem.Str) (C : SC) (mine : List Sm) : Bool :=
  (fnOf K f).any fun fd => fdOk K fd ps && (dfltOk K fd.defaults ds && (namesOk fd C && (locOk fd (ps ++ rest) && (fd.closure.isEmpty && (isStmts fd && chkSs C mine (bodyOf fd))))))
noncomputable def fnChk (K : Frag) (f : Addr) (ps rest : List PySem.Str) (C : SC) (mine : List Sm) : Bool := fnChkD K f [] ps rest C mine

theorem fnVars_get {fd : FuncData} {L : Addr} {xs : List PySem.Str} {i : Nat} {x : PySem.Str} {k : VK} (h : (fnVars fd L xs)[i]? = some (x, k)) :
    xs[i]? = some x ∧ k = if fd.scope.names.lookup x = some .cell then .own (((cellsFrom (L + 1) fd.scope.names []).lookup x).getD 0) else .loc := by
  unfold fnVars at h
  rw [List.getElem?_map, Option.map_eq_some_iff] at h
  obtain ⟨y, a, b⟩ := h
  cases b
  exact ⟨a, rfl⟩

theorem apart_eq {x y : PySem.Str} {c : Addr} : ∀ {l : List (PySem.Str × Addr)}, (l.Pairwise fun x y => x.2 ≠ y.2) → (x, c) ∈ l → (y, c) ∈ l → x = y
  | [], _, h, _ => by cases h
  | (z, d) :: l, ap, h1, h2 => by
    rw [List.pairwise_cons] at ap
    rcases List.mem_cons.mp h1 with e1 | e1 <;> rcases List.mem_cons.mp h2 with e2 | e2
    · cases e1; cases e2; rfl
    · cases e1; exact absurd rfl (ap.1 (y, c) e2)
    · cases e2; exact absurd rfl (ap.1 (x, c) e1)
    · exact apart_eq ap.2 e1 e2
section
variable {G : GS} {A : Around}

theorem locOk_of {fd : FuncData} {xs : List PySem.Str} (h : locOk fd xs = true) : xs.Nodup ∧ ∀ x ∈ xs, (fd.scope.names.lookup x = some .local ∨ fd.scope.names.lookup x = some .cell) ∧ (x == ("__debug__" : PySem.Str)) = false ∧ (x == ("__classdict__" : PySem.Str)) = false := by
  unfold locOk at h
  simp only [Bool.and_eq_true, List.all_eq_true, Bool.not_eq_true', beq_iff_eq, Bool.or_eq_true] at h
  exact ⟨nodupS_of h.1, fun x hx => ⟨(h.2 x hx).1.1, (h.2 x hx).1.2, (h.2 x hx).2⟩⟩

theorem fn_ok {fd : FuncData} {L f : Addr} {xs : List PySem.Str} (h : locOk fd xs = true) (h2 : fd.scope.kind = .function) (h3 : fd.globals = mainGlobals) (h4 : fd.builtins = builtinsNs)
    (ab : ∀ n c, (n, c) ∈ cellsFrom (L + 1) fd.scope.names [] → L < c) (ap : (cellsFrom (L + 1) fd.scope.names []).Pairwise fun x y => x.2 ≠ y.2) : (fnFE fd L f xs).ok := by
  obtain ⟨nd, hl⟩ := locOk_of h
  have cl : ∀ {x : PySem.Str} {c : Addr}, VK.own c = (if fd.scope.names.lookup x = some .cell then VK.own (((cellsFrom (L + 1) fd.scope.names []).lookup x).getD 0) else .loc) →
      fd.scope.names.lookup x = some .cell ∧ (cellsFrom (L + 1) fd.scope.names []).lookup x = some c := fun {x c} e => by
    split at e
    · rename_i q
      cases e
      obtain ⟨c, hc⟩ := Option.isSome_iff_exists.mp (cells_some fd.scope.names (L + 1) [] q)
      exact ⟨q, by rw [hc]; rfl⟩
    · cases e
  have same : ∀ (i j : Nat) x k k', (fnVars fd L xs)[i]? = some (x, k) → (fnVars fd L xs)[j]? = some (x, k') → i = j := fun i j x k k' hx hy => by
    have hx := (fnVars_get hx).1
    have hy := (fnVars_get hy).1
    obtain ⟨hi, _⟩ := List.getElem?_eq_some_iff.mp hx
    exact (List.getElem?_inj hi nd).mp (hx.trans hy.symm)
  refine ⟨h2, h3, h4, ?_, ?_, ?_, same, ?_, ?_⟩
  · intro i x hx
    obtain ⟨a, b⟩ := fnVars_get hx
    rcases (hl x (List.mem_of_getElem? a)).1 with q | q
    · exact q
    · rw [if_pos q] at b; cases b
  · intro i x c hx
    obtain ⟨a, b⟩ := fnVars_get hx
    obtain ⟨b1, b2⟩ := cl b
    exact ⟨b1, b2, Nat.ne_of_gt (ab x c (mem_of_lookup b2))⟩
  · intro i x c hx
    have b := (fnVars_get hx).2
    split at b <;> cases b
  · intro i j x y c hx hy
    have hx' := (cl (fnVars_get hx).2).2
    have hy' := (cl (fnVars_get hy).2).2
    cases apart_eq ap (mem_of_lookup hx') (mem_of_lookup hy')
    exact same i j x _ _ hx hy
  · intro i x k hx
    exact (hl x (List.mem_of_getElem? (fnVars_get hx).1)).2

theorem sc_ok {fd : FuncData} {L f : Addr} {ps rest : List PySem.Str} {names : List (PySem.Str × NameKind)} {fns meths : List String} {cells : List PySem.Str} (h : namesOk fd (locSC ps rest names fns meths cells) = true)
    (hf : ∀ n, n ∈ fns → n ∈ G.fns) (hm : ∀ n, n ∈ meths → n ∈ G.meths) : (locSC ps rest names fns meths cells).ok G (fnFE fd L f (ps ++ rest)) := by
  unfold namesOk at h
  rw [Bool.and_eq_true] at h
  refine ⟨?_, hf, hm, ?_, ?_⟩
  · intro i x hx e
    have q : fd.scope.names.lookup x = some .cell := beq_iff_eq.mp (List.all_eq_true.mp h.2 x hx)
    have b := (fnVars_get e).2
    rw [if_pos q] at b; cases b
  · intro i x r hx
    replace hx : ((ps ++ rest).map (·, false))[i]? = some (x, r) := hx
    rw [List.getElem?_map, Option.map_eq_some_iff] at hx
    obtain ⟨y, a, b⟩ := hx
    cases b
    refine ⟨_, by show (fnVars fd L (ps ++ rest))[i]? = _; unfold fnVars; rw [List.getElem?_map, a]; rfl, fun _ c q => ?_⟩
    split at q <;> cases q
  · intro x hx
    exact beq_iff_eq.mp (List.all_eq_true.mp h.1 _ (lookup_mem' hx))

noncomputable def CallC (G : GS) (A : Around) (f : Value) (vs : List V) (Q : V → Mem → Prop) (m : Mem) : Prop :=
  ∀ frz s cvs, Rp G frz m s → RVs s.heap cvs vs → codeAny (model G.prog G.w) A (.call f ⟨cvs, []⟩)
    (fun r s' => match r with
      | .ok (.ret v) => PR G frz s Q v s'
      | .ok _ => False
      | .error e => NoE e s') s
theorem CallC.toS {f : Value} {vs : List V} {Q : V → Mem → Prop} {m : Mem} (h : CallC G A f vs Q m) : CallS G A f vs Q m :=
  .of fun frz s cvs r hv => wpAny_call (h frz s cvs r hv)

theorem Rp.none_of_ge {frz : Frz} {m : Mem} {s : Shared} (r : Rp G frz m s) {a : Addr} (h : s.heap.objs.size ≤ a) : m a = none ∧ frz a = none := by
  constructor
  · cases e : m a with
    | none => rfl
    | some o => exact absurd (r.hmem _ _ e).lt (Nat.not_lt.mpr h)
  · cases e : frz a with
    | none => rfl
    | some o => exact absurd (Heap.lt_size (r.hfrz _ _ e)) (Nat.not_lt.mpr h)

/-- a function is entered: its frame stands -/
theorem enter_rep {fd : FuncData} {f : Addr} {ps rest : List PySem.Str} {vs : List V} {cvs : List Value} {frz : Frz} {m : Mem} {s : Shared} {h₁ : Heap} {tk : Nat} (r : Rp G frz m s) (hv : RVs s.heap cvs vs) (hl : vs.length = ps.length) (hloc : locOk fd (ps ++ rest) = true)
    (x : InCallC s (callEnvC fd s.heap.objs.size f).locals (bindL (callEnvC fd s.heap.objs.size f).kindOf (ps.zip cvs) fun _ => none) (callEnvC fd s.heap.objs.size f).cells (bindC (callEnvC fd s.heap.objs.size f).kindOf (ps.zip cvs) fun _ => none) { s with heap := h₁, toks := tk }) :
    Rep G (fnFE fd s.heap.objs.size f (ps ++ rest)) frz ⟨vs.map some ++ List.replicate rest.length none, m⟩ { s with heap := h₁, toks := tk } ∧ TK s.heap h₁ := by
  obtain ⟨nd, hlk⟩ := locOk_of hloc
  have hkeep := x.toInCall.keep
  have tk0 : TK s.heap h₁ := .of hkeep
  have ndp := (List.nodup_append.mp nd).1
  have ge : ∀ {y : PySem.Str} {c : Addr}, (cellsFrom (s.heap.objs.size + 1) fd.scope.names []).lookup y = some c → s.heap.objs.size ≤ c := fun e => Nat.le_of_lt (x.above _ _ (mem_of_lookup e))
  have val : ∀ {i : Nat} {y : PySem.Str} {v : V}, (ps ++ rest)[i]? = some y → (vs.map some ++ List.replicate rest.length none)[i]? = some (some v) → ∃ cv, ps[i]? = some y ∧ cvs[i]? = some cv ∧ RV s.heap cv v := fun {i y v} h1 h2 => by
    by_cases hi : i < ps.length
    · rw [List.getElem?_append_left hi] at h1
      rw [List.getElem?_append_left (by rw [List.length_map]; omega), List.getElem?_map, Option.map_eq_some_iff] at h2
      obtain ⟨u, hu, e2⟩ := h2
      cases e2
      obtain ⟨cv, a, b⟩ := hv.get hu
      exact ⟨cv, h1, a, b⟩
    · rw [List.getElem?_append_right (by rw [List.length_map]; omega), List.getElem?_replicate] at h2
      split at h2 <;> cases h2
  refine ⟨⟨let ⟨_, _, e⟩ := r.same; ⟨h₁, tk, by rw [e]⟩, r.hbase, r.hkeep, fun b o e => hkeep b o (r.hfrz b o e), fun a o e => (r.hmem a o e).keep tk0 (hkeep a), r.hmemF, r.hsz, (r.none_of_ge (Nat.le_refl _)).2, (r.none_of_ge (Nat.le_refl _)).1, ?_, ?_, ?_⟩, tk0⟩
  · refine ⟨_, x.toInCall.ns, fun i y v hx hv' => ?_⟩
    obtain ⟨a, b⟩ := fnVars_get hx
    obtain ⟨cv, c1, c2, c3⟩ := val a hv'
    refine ⟨cv, bindL_get ndp c1 c2 ?_, c3.tk tk0⟩
    rcases (hlk y (List.mem_of_getElem? a)).1 with q | q
    · exact q
    · rw [if_pos q] at b; cases b
  · intro i y c hx
    obtain ⟨a, b⟩ := fnVars_get hx
    split at b
    · rename_i q
      cases b
      obtain ⟨c, hc⟩ := Option.isSome_iff_exists.mp (cells_some fd.scope.names (s.heap.objs.size + 1) [] q)
      rw [hc]
      have g := ge hc
      obtain ⟨co, g1, g2⟩ := x.cell y c hc
      refine ⟨(r.none_of_ge g).2, (r.none_of_ge g).1, co, _, g1, g2, fun v hv' => ?_⟩
      obtain ⟨cv, c1, c2, c3⟩ := val a hv'
      refine ⟨cv, bindC_get ndp c1 c2 ?_, c3.tk tk0⟩
      show ¬ fd.scope.names.lookup y = _
      rw [q]; decide
    · cases b
  · intro i y c hx
    have b := (fnVars_get hx).2
    split at b <;> cases b

theorem retV_rv {h : Heap} {cf : Flow} {fl : Fl} : RF h cf fl → RV h (match cf with | .ret v => v | _ => .none) (retV fl) := by
  intro a
  cases a with
  | ret q => exact q
  | next => exact .none
  | brk => exact .none
  | cont => exact .none
theorem isStmts_of {fd : FuncData} (h : isStmts fd = true) : fd.body = .stmts (bodyOf fd) := by
  obtain ⟨_, _, _, b, _, _, _, _, _, _, _, _, _, _⟩ := fd
  cases b <;> first | rfl | cases h
theorem call_fnD {f : Addr} {ds : List V} {c j : Nat} {ps rest : List PySem.Str} {names : List (PySem.Str × NameKind)} {fns meths : List String} {cells : List PySem.Str} {mine : List Sm} {P : PC} {vs : List V} {m : Mem} {Q : V → Mem → Prop}
    (gok : G.ok) (gbi : G.bi) (h : fnChkD G.K f ds ps rest (locSC ps rest names fns meths cells) mine = true) (hd : A.depth < recursionLimit) (hA : ∀ env, Rm (A.deeper env)) (hP : ∀ env, P.run G (A.deeper env))
    (hf : ∀ n, n ∈ fns → n ∈ G.fns) (hm : ∀ n, n ∈ meths → n ∈ G.meths) (hl : vs.length = j + c) (hpl : ps.length = c + ds.length) (hj : j ≤ ds.length)
    (w : wpSs P mine (fun fl σ' => Q (retV fl) σ'.mem) ⟨(vs ++ ds.drop j).map some ++ List.replicate rest.length none, m⟩) : CallC G A (.ref f) vs Q m := by
  obtain ⟨fd, hfd, h⟩ := any_inv h
  obtain ⟨o, hK, hdt⟩ := fnOf_inv hfd
  obtain ⟨h0, h⟩ := and_e h
  obtain ⟨h1, h⟩ := and_e h
  obtain ⟨h2, h⟩ := and_e h
  obtain ⟨h3, h⟩ := and_e h
  obtain ⟨h4, h⟩ := and_e h
  obtain ⟨h5, h6⟩ := and_e h
  have F := fdOk_of h0
  have nd := locOk_of h3
  intro frz s cvs r hv
  have kin : G.K.In s.heap := fun a o e => r.hfrz _ _ (r.hbase _ _ (gok.k a o e))
  have hlim : s.heap.NoLimit := gok.lim.keeps fun b o e => r.hfrz _ _ (r.hbase _ _ e)
  obtain ⟨dvs, hdv, rdv⟩ := dfltOk_of kin h1
  have hz := hv.length
  have hdz := rdv.length
  have rall := hv.append (rdv.drop j)
  refine codeAny_call_function hd (kin _ _ hK) hdt F.co F.ge (isStmts_of h5) (codeRec_of kin F.code) ?_
  refine bind_simple (c := c) (j := j) F.par hdv (List.nodup_append.mp nd.1).1 (hz.trans hl) (hdz ▸ hpl) (hdz ▸ hj) _ _ _ _ ?_
  rw [List.isEmpty_iff.mp h4]
  refine wpAny_newFunctionEnv_cells F.fn ?_ fun env he s₁ x => ?_
  · intro y hy
    rcases (nd.2 y.1 (List.mem_append_left _ (List.of_mem_zip hy).1)).1 with q | q
    · exact .inl q
    · exact .inr ⟨q, cells_some _ _ _ q⟩
  · subst he
    refine ⟨hlim.keeps x.toInCall.keep, codeAny_func ?_⟩
    obtain ⟨h₁, tk, rfl, _⟩ := x.done
    obtain ⟨r0, t0⟩ := enter_rep (rest := rest) r rall (by rw [List.length_append, List.length_drop, hl, hpl, Nat.add_comm j c, Nat.add_assoc, Nat.add_sub_cancel' hj]) h3 x
    have ok : (fnFE fd s.heap.objs.size f (ps ++ rest)).ok := fn_ok h3 F.fn F.glb F.bui (fun n c hm => x.above n c hm) x.apart
    exact (soundB mine _ _ ⟨gok, gbi, hA _, hP _, ok, sc_ok h2 hf hm⟩ (bodyOf fd) h6 _ _ w).then r0 fun cf fl σ₁ s₁ a1 r1 t1 w1 => ⟨retV fl, _, retV_rv a1, r1.rp, t0.trans t1, w1⟩
theorem call_fn {f : Addr} {ps rest : List PySem.Str} {names : List (PySem.Str × NameKind)} {fns meths : List String} {cells : List PySem.Str} {mine : List Sm} {P : PC} {vs : List V} {m : Mem} {Q : V → Mem → Prop}
    (gok : G.ok) (gbi : G.bi) (h : fnChk G.K f ps rest (locSC ps rest names fns meths cells) mine = true) (hd : A.depth < recursionLimit) (hA : ∀ env, Rm (A.deeper env)) (hP : ∀ env, P.run G (A.deeper env))
    (hf : ∀ n, n ∈ fns → n ∈ G.fns) (hm : ∀ n, n ∈ meths → n ∈ G.meths) (hl : vs.length = ps.length)
    (w : wpSs P mine (fun fl σ' => Q (retV fl) σ'.mem) ⟨vs.map some ++ List.replicate rest.length none, m⟩) : CallC G A (.ref f) vs Q m :=
  call_fnD (ds := []) (c := ps.length) (j := 0) gok gbi h hd hA hP hf hm (hl.trans (Nat.zero_add _).symm) rfl (Nat.le_refl _) (by rw [show vs ++ List.drop 0 ([] : List V) = vs from List.append_nil vs]; exact w)
end
end Mine
set_option autoImplicit false
set_option maxRecDepth 10000
set_option linter.unusedVariables false
namespace Mine
open PySem PyProof.Rows PySem.W

section
variable {G : GS} {A : Around} {Γ : FE} {frz : Frz} {σ : St} {s : Shared}

/-- an instance is made -/
theorem call_class {C fI : Addr} {Q : V → Mem → Prop} {m : Mem} (gok : G.ok) (hm : makesIn G.K C = true) (hi : findIn G.K (.ref C) "__init__" = some (some (.ref fI))) (hf : typeIn G.K (.ref fI) = some (.type "function"))
    (h : ∀ x d, m x = none → m d = none → x ≠ d → CallC G (A.under (.builtin "type.__call__" ⟨[.ref C], []⟩)) (.ref fI) [.obj x] (fun r m' => r = .none ∧ Q (.obj x) m') (upd (upd m d (.dict [])) x (.inst C d))) : CallS G A (.ref C) [] Q m := by
  intro Γ frz σ s cvs ok r hmem hv
  refine wpAny_call ?_
  cases hv
  obtain ⟨mm, nm, _⟩ := r.hns
  refine make_K (r.fr nm) (r.rest []) (r.kin gok) hm hi hf fun x d h' F' N' hlt hdx => ?_
  have N2 : News G.base Γ.env.locals h' (restOf G Γ.env.locals s.heap []) := fun p hp => N' p (List.mem_cons_of_mem _ (List.mem_cons_of_mem _ hp))
  have gx := N' _ (List.mem_cons_self)
  have gd := N' _ (List.mem_cons_of_mem _ (List.mem_cons_self))
  have keepL : ∀ b o, b ≠ Γ.env.locals → s.heap.get? b = some o → h'.get? b = some o := fun b o hb e => r.keep_of_rest F' N2 b o (by simp) hb e
  have kp : Kp Γ.env.locals s.heap h' := ⟨keepL, fun m' n' => ns_uniq nm n' ▸ F'.ns⟩
  -- d and x are new
  have new : ∀ b, b ≠ Γ.env.locals → G.base.get? b = none → d ≤ b → s.heap.get? b = none := fun b hb hbase hle => by
    cases q : s.heap.get? b with
    | none => rfl
    | some o => exact absurd (hlt (b, o) (restOf_mem.mpr ⟨hb, by simp, hbase, q⟩)) (by simp; omega)
  have sd := new d gd.2.1 gd.2.2 (Nat.le_refl _)
  have sx := new x gx.2.1 gx.2.2 (Nat.le_of_lt hdx)
  have none_of : ∀ b, s.heap.get? b = none → σ.mem b = none ∧ frz b = none ∧ (∀ (i : Nat) y c, Γ.vars[i]? = some (y, .own c) → c ≠ b) := fun b hb => by
    refine ⟨?_, ?_, ?_⟩
    · cases e : σ.mem b with
      | none => rfl
      | some o => obtain ⟨y, ey, _⟩ := (r.hmem _ _ e).obj; rw [hb] at ey; cases ey
    · cases e : frz b with
      | none => rfl
      | some o => have := r.hfrz _ _ e; rw [hb] at this; cases this
    · intro i y c e q
      obtain ⟨_, _, o, _, g, _⟩ := r.hown i y c e
      rw [q, hb] at g; cases g
  have r1 := r.growL ok (tk := s.toks) kp
  obtain ⟨d1, d2, d3⟩ := none_of d sd
  obtain ⟨x1, x2, x3⟩ := none_of x sx
  have hne : x ≠ d := Nat.ne_of_gt hdx
  have r2 := r1.join (a := d) (o := .dict []) d1 d2 gd.2.1 d3 (.dict (n := 0) (es := []) gd.1 trivial)
  have r3 := r2.join (a := x) (o := .inst C d) (by show upd _ _ _ _ = _; rw [upd_ne _ _ hne]; exact x1) x2 gx.2.1 x3 (.inst gx.1)
  have t1 : TK s.heap h' := r.kp_tk kp
  subst hmem
  refine codeAny_mono (h x d x1 d1 hne _ _ [.ref x] r3.inn (.cons (.obj x) .nil)) fun rr s' p => ?_
  rcases rr with e | (_ | _ | _ | v)
  · exact p.elim
  · exact p.elim
  · exact p.elim
  · exact p.elim
  · obtain ⟨v', m', a, b, c, rfl, q⟩ := p
    cases a
    exact ⟨rfl, .obj x, m', .obj x, Rep.back r3 rfl b (fun _ _ q _ e => frzIn_some.mpr ⟨q, e⟩) c, t1.trans c, q⟩
end
end Mine
set_option autoImplicit false
set_option maxRecDepth 10000
set_option linter.unusedVariables false
namespace Mine
open PySem PyProof.Rows PySem.W

/-- room for k levels of calls -/
structure Lv (A : Around) (k : Nat) : Prop where
  hd : A.handled = none
  dp : A.depth + k < recursionLimit
  un : A.units + 4 * k + 80 < cLine
theorem Lv.deeper {A : Around} {k : Nat} (h : Lv A (k + 1)) (env : Env) : Lv (A.deeper env) k :=
  ⟨h.hd, by have := h.dp; show A.depth + 1 + k < _; omega, by have := h.un; show A.units + 3 + 4 * k + 80 < _; omega⟩
theorem Lv.rm {A : Around} {k : Nat} (h : Lv A k) : Rm A := ⟨h.hd, by have := h.un; omega⟩
theorem Lv.less {A : Around} {k j : Nat} (h : Lv A k) (e : j ≤ k) : Lv A j := ⟨h.hd, by have := h.dp; omega, by have := h.un; omega⟩
theorem Lv.room {A : Around} {k : Nat} (h : Lv A k) : A.depth < recursionLimit := by have := h.dp; omega

noncomputable def fnV (K : Frag) (n : String) : Value := match nsIn K mainGlobals (PySem.Str.ofString n) with
  | some (some f) => f
  | _ => .none
noncomputable def fnsOk (K : Frag) (fns : List String) : Bool := fns.all fun n => match nsIn K mainGlobals (PySem.Str.ofString n) with
  | some (some f) => keepIn K f
  | _ => false
noncomputable def meA (K : Frag) (C : Addr) (n : String) : Addr := match findIn K (.ref C) (PySem.Str.ofString n) with
  | some (some (.ref f)) => f
  | _ => 0
noncomputable def methsOk (K : Frag) (C : Addr) (ms : List String) : Bool := ms.all fun n => match findIn K (.ref C) (PySem.Str.ofString n) with
  | some (some (.ref f)) => isFn K (.ref f) && plainGet K C (PySem.Str.ofString n) && keepIn K (.ref f)
  | _ => false

structure Base (G : GS) (P : PC) : Prop where
  gok : G.ok
  gbi : G.bi
  pc : P.ok G
  fns : fnsOk G.K G.fns = true
  meths : methsOk G.K P.cls G.meths = true

theorem run_mk {G : GS} {A : Around} {P : PC} (b : Base G P) (hcall : ∀ n, n ∈ G.fns → ∀ vs Q m, P.call n vs Q m → CallS G A (fnV G.K n) vs Q m) (hmeth : ∀ n, n ∈ G.meths → ∀ vs Q m, P.meth n vs Q m → CallS G A (.ref (meA G.K P.cls n)) vs Q m)
    (hloc : ∀ v vs Q m, P.loc v vs Q m → ∃ a fo fd, v = .obj a ∧ m a = some (.raw fo) ∧ fo.data = .func fd ∧ CallS G A (.ref a) vs Q m) : P.run G A where
  ok := b.pc
  call := fun n hn => by
    have h := List.all_eq_true.mp b.fns n hn
    have hc := hcall n hn
    unfold fnV at hc
    split at h
    · rename_i f e
      rw [e] at hc
      exact ⟨f, e, h, hc⟩
    · cases h
  meth := fun n hn => by
    have h := List.all_eq_true.mp b.meths n hn
    have hc := hmeth n hn
    unfold meA at hc
    split at h
    · rename_i f e
      rw [e] at hc
      simp only [Bool.and_eq_true] at h
      exact ⟨f, e, h.1.1, h.1.2, h.2, hc⟩
    · cases h
  loc := hloc

noncomputable def pcOf (cls : Addr) : PC where
  cls := cls
  fld := fun n => ["Diff_Timeout", "Diff_EditCost", "Match_Threshold", "Match_Distance", "Patch_DeleteThreshold", "Patch_Margin", "Match_MaxBits"].contains n
  cc := fun n => if n = "DIFF_DELETE" then some (.int (-1)) else if n = "DIFF_INSERT" then some (.int 1) else if n = "DIFF_EQUAL" then some (.int 0) else none
  call := fun _ _ _ _ => False
  meth := fun _ _ _ _ => False
  loc := fun _ _ _ _ => False
theorem Base.swap {G : GS} {P P' : PC} (b : Base G P) (h1 : P'.cls = P.cls) (h2 : P'.fld = P.fld) (h3 : P'.cc = P.cc) : Base G P' := by
  refine ⟨b.gok, b.gbi, ⟨?_, ?_, ?_, ?_, ?_⟩, b.fns, ?_⟩
  · rw [h1]; exact b.pc.hd
  · rw [h1, h2]; exact b.pc.get
  · rw [h1, h3]; exact b.pc.cc
  · rw [h1]; exact b.pc.set
  · rw [h1]; exact b.pc.over
  · rw [h1]; exact b.meths
theorem run0 {G : GS} {A : Around} {cls : Addr} (b : Base G (pcOf cls)) : (pcOf cls).run G A :=
  run_mk b (fun _ _ _ _ _ h => h.elim) (fun _ _ _ _ _ h => h.elim) (fun _ _ _ _ h => h.elim)


noncomputable def vA : Value → Addr
  | .ref a => a
  | _ => 0
noncomputable def fnA (K : Frag) (n : String) : Addr := vA (fnV K n)
noncomputable def clsA (K : Frag) : Addr := fnA K "diff_match_patch"
noncomputable def toolList : List String := ["Diff_Timeout", "Diff_EditCost", "Match_Threshold", "Match_Distance", "Patch_DeleteThreshold", "Patch_Margin", "Match_MaxBits"]
noncomputable def ccOk (K : Frag) (cls : Addr) (n : String) (k : Int) : Bool := plainGet K cls (PySem.Str.ofString n) && !copiedNames.contains (PySem.Str.ofString n) &&
  match findIn K (.ref cls) (PySem.Str.ofString n) with
  | some (some (.int i t)) => i == k && specialIn K (.int i t) "__get__" == some none
  | _ => false
noncomputable def pcChk (K : Frag) (cls : Addr) : Bool :=
  hasDictIn K cls && toolList.all (fun n => plainGet K cls (PySem.Str.ofString n) && findIn K (.ref cls) (PySem.Str.ofString n) == some none && takerIn K cls (PySem.Str.ofString n) == some none) &&
  findIn K (.ref cls) "__setattr__" == some (some (.builtin "object.__setattr__")) && plainOver K cls && ccOk K cls "DIFF_DELETE" (-1) && ccOk K cls "DIFF_INSERT" 1 && ccOk K cls "DIFF_EQUAL" 0
noncomputable def noList (K : Frag) : Bool := K.all fun p => !(p.2.cls == .type "list")
noncomputable def biChk (K : Frag) : Bool := ["len", "min", "max", "sum", "range", "list", "chr", "ord"].all fun n => nsIn K mainGlobals (PySem.Str.ofString n) == some none

theorem ccOk_of {K : Frag} {cls : Addr} {n : String} {k : Int} (h : ccOk K cls n k = true) : plainGet K cls (PySem.Str.ofString n) = true ∧ copiedNames.contains (PySem.Str.ofString n) = false ∧
    ∃ a, findIn K (.ref cls) (PySem.Str.ofString n) = some (some a) ∧ specialIn K a "__get__" = some none ∧ handedIn a = true ∧ ∀ h, RV h a (.int k) := by
  unfold ccOk at h
  simp only [Bool.and_eq_true, Bool.not_eq_true'] at h
  obtain ⟨⟨h1, h2⟩, h3⟩ := h
  refine ⟨h1, h2, ?_⟩
  split at h3
  · rename_i i t e
    simp only [Bool.and_eq_true, beq_iff_eq] at h3
    obtain ⟨rfl, h3⟩ := h3
    exact ⟨_, e, h3, rfl, fun _ => .int _ _⟩
  · cases h3
theorem pc_ok {G : GS} (h : pcChk G.K (clsA G.K) = true) : (pcOf (clsA G.K)).ok G := by
  unfold pcChk at h
  simp only [Bool.and_eq_true, beq_iff_eq, List.all_eq_true] at h
  obtain ⟨⟨⟨⟨⟨⟨h1, h2⟩, h3⟩, h4⟩, h5⟩, h6⟩, h7⟩ := h
  constructor
  · exact h1
  · intro n hn
    have := h2 n (List.contains_iff_mem.mp hn)
    exact ⟨this.1.1, this.1.2, this.2⟩
  · intro n v hv
    replace hv : (if n = "DIFF_DELETE" then some (V.int (-1)) else if n = "DIFF_INSERT" then some (.int 1) else if n = "DIFF_EQUAL" then some (.int 0) else none) = some v := hv
    split at hv
    · rename_i e; subst e; cases hv; exact ccOk_of h5
    · split at hv
      · rename_i e; subst e; cases hv; exact ccOk_of h6
      · split at hv
        · rename_i e; subst e; cases hv; exact ccOk_of h7
        · cases hv
  · exact h3
  · exact h4
end Mine
set_option autoImplicit false
set_option maxRecDepth 10000
set_option linter.unusedVariables false
namespace Mine
open PySem PyProof.Rows PySem.W

theorem bi_boot (b : Bi) : bootBuiltins (PySem.Str.ofString b.name) = some b.val := by
  cases b
  · show bootBuiltins "len" = some (.builtin "len"); boot_by_name
  · show bootBuiltins "min" = some (.builtin "min"); boot_by_name
  · show bootBuiltins "max" = some (.builtin "max"); boot_by_name
  · show bootBuiltins "sum" = some (.builtin "sum"); boot_by_name
  · show bootBuiltins "range" = some (.type "range"); boot_by_name
  · show bootBuiltins "list" = some (.type "list"); boot_by_name
  · show bootBuiltins "chr" = some (.builtin "chr"); boot_by_name
  · show bootBuiltins "ord" = some (.builtin "ord"); boot_by_name

/-- the module of built-ins stands -/
noncomputable def BM (G : GS) : Prop := ∃ bm ob, G.mg "__builtins__" = some (.ref bm) ∧ bm ≠ builtinsNs ∧ G.base.get? bm = some ob ∧ ob.cls = .type "module" ∧ ob.dict = some builtinsNs ∧ ob.data = .plain

/-- at the law's start the script and the empty tables are told -/
noncomputable def mem0 (Ps : List Addr) (sc : Addr) (o : Obj) (ns : List Int) : Mem := fun a => if Ps.contains a then some (.raw (tabObj #[])) else if a = sc then some (.ro o (ns.map V.int)) else none
theorem rvs_ints {h : Heap} {vs : List Value} {ns : List Int} (r : IntsAre vs ns) : RVs h vs (ns.map V.int) := by
  induction r with
  | nil => exact .nil
  | cons n t _ ih => exact .cons (.int n t) ih
theorem CodeAll.to {h h' : Heap} (k : ∀ b o vs, h.get? b = some o → o.data = .fields vs → o.cls = .type "code" → h'.get? b = some o) : ∀ {tabs : List (Addr × Addr)}, CodeAll tabs h → CodeAll tabs h'
  | [], _ => trivial
  | _ :: _, h => by
    obtain ⟨⟨o, vs, file, tf, flags, tg, inF, text, tt, e, r1, r2, r⟩, b⟩ := h
    exact ⟨⟨o, vs, file, tf, flags, tg, inF, text, tt, k _ _ _ e r2 r1, r1, r2, r⟩, CodeAll.to k b⟩

/-- the law's call at the top -/
theorem law_top {prog : Program} {w : World} {p : Program} {loose : List PySem.Str} {mean : ExcName → Option Value} {mg mb : PySem.Str → Option Value} {K : Frag} {sc fa : Addr} {s : Shared} {tabs : List (Addr × Addr)}
    {vals : List Value} {ns : List Int} {R : Result → Shared → Prop} {fns meths : List String}
    (hT : TabsAt tabs s.heap) (X : K.In (ghostOf s.heap tabs)) (T : Top p loose mean mg mb (ghostOf s.heap tabs)) (hl : s.heap.IsList sc vals.toArray) (hI : IntsAre vals ns)
    (hbi : biChk K = true) (hnl : noList K = true)
    (go : ∀ (ol : Obj) (G : GS), G.prog = prog → G.w = w → G.K = K → G.fns = fns → G.meths = meths → G.mg = mg → G.ok → G.bi → BM G → CodeAll tabs G.base → (∀ q ∈ tabs, mem0 (tabs.map (·.2)) sc ol ns q.2 = some (.raw (tabObj #[]))) → mem0 (tabs.map (·.2)) sc ol ns sc = some (.ro ol (ns.map V.int)) →
      CallC G callerA (.ref fa) [.obj sc] (fun r m => r = .bool true ∧ (∀ q ∈ tabs, ∃ ps, m q.2 = some (.raw (tabObj ps))) ∧ m sc = some (.ro ol (ns.map V.int))) (mem0 (tabs.map (·.2)) sc ol ns))
    (hpost : ∀ s' : Shared, (∃ h tk, s' = { s with heap := h, toks := tk }) → (∀ b o, (ghostOf s.heap tabs).get? b = some o → s'.heap.get? b = some o) → (∀ q ∈ tabs, ∃ ps, s'.heap.get? q.2 = some (tabObj ps)) → R (.ok (.ret (.bool true))) s') :
    codeAny (model prog w) callerA (.call (.ref fa) ⟨[.ref sc], []⟩) R s := by
  have hlg := ghost_list hT hl
  generalize hg : ghostOf s.heap tabs = g at X T hlg hpost
  have kg : ∀ b o, g.get? b = some o → s.heap.get? b = some o := fun b o e => by rw [← hg] at e; exact of_hideAll _ e
  obtain ⟨ol, gl, cl, nl, dl⟩ := hlg
  have hne : ∀ b o, g.get? b = some o → (∀ xs n, o.data ≠ .seq xs n) → (hideAll g [sc]).get? b = some o := fun b o e hd => hideAll_get _ e fun q => by
    rw [List.mem_singleton] at q; subst q; rw [gl] at e; cases e; exact hd _ _ dl
  have nsk : ∀ {a m}, g.Ns a m → (hideAll g [sc]).Ns a m := fun ⟨o, es, ep, e, d, r⟩ => ⟨o, es, ep, hne _ _ e (fun xs n q => by rw [d] at q; cases q), d, r⟩
  have hsc : (hideAll g [sc]).get? sc = none := hideAll_none _ (List.mem_singleton.mpr rfl)
  have Xb : K.In (hideAll g [sc]) := fun a o e => by
    refine hideAll_get _ (X a o e) fun q => ?_
    rw [List.mem_singleton] at q; subst q
    have h2 := List.all_eq_true.mp hnl _ (mem_of_lookupK e)
    have := X _ _ e
    rw [gl] at this; cases this
    simp [cl] at h2
  have hPg : ∀ P, P ∈ tabs.map (·.2) → g.get? P = none := fun P hP => by rw [← hg]; exact hideAll_none _ hP
  have hPs : ∀ P, P ∈ tabs.map (·.2) → P ≠ sc := fun P hP q => by subst q; rw [hPg _ hP] at gl; cases gl
  have hPt : ∀ P, P ∈ tabs.map (·.2) → s.heap.get? P = some (tabObj #[]) := fun P hP => by
    obtain ⟨q, hq, rfl⟩ := List.mem_map.mp hP; exact (hT q hq).2
  let G : GS := ⟨prog, w, s, hideAll g [sc], (hideAll g [sc]).get?, mg, mb, K, fns, meths⟩
  have gok : G.ok := ⟨nsk T.g, nsk T.b, let ⟨mc, a, r⟩ := T.nolimit; ⟨mc, nsk a, r⟩, Xb⟩
  have gbi : G.bi := ⟨fun b => by
    have hb := List.all_eq_true.mp hbi b.name (by cases b <;> simp [Bi.name])
    exact ⟨mg_none_of X T.g (beq_iff_eq.mp hb), (T.builtins _ (by cases b <;> decide +kernel)).trans (bi_boot b)⟩⟩
  have bm : BM G := by
    obtain ⟨bm, ob, b1, b2, b3, b4, b5, b6⟩ := T.bmain
    exact ⟨bm, ob, b1, b2, hne _ _ b3 (fun xs n q => by rw [b6] at q; cases q), b4, b5, b6⟩
  have Ca : CodeAll tabs G.base := CodeAll.to (fun b o vs e hd _ => hne _ _ e (fun xs n q => by rw [hd] at q; cases q)) (by rw [← hg]; exact ghost_code hT)
  have m1 : ∀ q ∈ tabs, mem0 (tabs.map (·.2)) sc ol ns q.2 = some (.raw (tabObj #[])) := fun q hq => by
    unfold mem0; rw [if_pos (List.contains_iff_mem.mpr (List.mem_map_of_mem hq))]
  have m2 : mem0 (tabs.map (·.2)) sc ol ns sc = some (.ro ol (ns.map V.int)) := by
    unfold mem0; rw [if_neg (fun q => hPs _ (List.contains_iff_mem.mp q) rfl), if_pos rfl]
  have kb : ∀ b o, (hideAll g [sc]).get? b = some o → s.heap.get? b = some o := fun b o e => kg _ _ (of_hideAll _ e)
  have rp : Rp G (hideAll g [sc]).get? (mem0 (tabs.map (·.2)) sc ol ns) s := by
    refine ⟨⟨s.heap, s.toks, rfl⟩, fun _ _ e => e, fun _ _ e => e, kb, fun a o e => ?_, fun a o e => ?_, ?_⟩
    · unfold mem0 at e
      split at e
      · rename_i q; cases e; exact .raw (hPt _ (List.contains_iff_mem.mp q)) (by simp [Imm])
      · split at e
        · rename_i q; subst q; cases e; exact .ro (kg _ _ gl) cl dl (rvs_ints hI)
        · cases e
    · unfold mem0 at e
      split at e
      · rename_i q
        cases z : (hideAll g [sc]).get? a with
        | none => rfl
        | some o' => have := of_hideAll _ z; rw [hPg _ (List.contains_iff_mem.mp q)] at this; cases this
      · split at e
        · rename_i q; subst q; exact hsc
        · cases e
    · show (hideAll g [sc]).objs.size ≤ _
      rw [hideAll_size, ← hg, hideAll_size]; exact Nat.le_refl _
  refine codeAny_mono (go ol G rfl rfl rfl rfl rfl rfl gok gbi bm Ca m1 m2 _ s [.ref sc] rp (.cons (.obj sc) .nil)) fun r s' h => ?_
  rcases r with e | (_ | _ | _ | v)
  · exact h.elim
  · exact h.elim
  · exact h.elim
  · exact h.elim
  · obtain ⟨v', m', a, r1, t1, rfl, hps, hS⟩ := h
    cases a
    refine hpost s' r1.same (fun b o e => ?_) fun q hq => ?_
    · by_cases hb : b = sc
      · subst hb
        rw [gl] at e; cases e
        cases r1.hmem _ _ hS with
        | ro g' _ _ _ => exact g'
      · exact r1.hfrz b o (hideAll_get _ e (fun q => hb (List.mem_singleton.mp q)))
    · obtain ⟨ps, hp⟩ := hps q hq
      cases r1.hmem _ _ hp with
      | raw g _ => exact ⟨ps, g⟩

theorem callerLv : Lv callerA 200 := ⟨rfl, by show 301 + 200 < 1000; omega, by show callerA.units + 4 * 200 + 80 < cLine; decide⟩

noncomputable def fragAt (as : List Addr) (h : Heap) : Frag := as.filterMap fun a => (h.get? a).map fun o => (a, o)
theorem fragAt_in {as : List Addr} {h : Heap} : (fragAt as h).In h := fun a o e => by
  have := mem_of_lookupK e
  unfold fragAt at this
  rw [List.mem_filterMap] at this
  obtain ⟨b, _, e⟩ := this
  rw [Option.map_eq_some_iff] at e
  obtain ⟨x, e1, e2⟩ := e
  cases e2
  exact e1
/-- what the own hook sees: a test over the written part, and empty tables -/
noncomputable def myHook (chk : Frag → Bool) (as ts : List Addr) : Hook where
  α := Bool × List (Option Obj)
  obs := fun s => (chk (fragAt as s.heap), ts.map s.heap.get?)
  val := fun _ => (true, ts.map fun _ => some (tabObj #[]))
  says := fun _ h => (∃ K : Frag, K.In h ∧ chk K = true) ∧ ∀ P, P ∈ ts → h.get? P = some (tabObj #[])
  of := fun _ _ x => ⟨⟨_, fragAt_in, (Prod.mk.inj x).1⟩, List.map_inj_left.mp (Prod.mk.inj x).2⟩
  keeps := fun _ _ _ x k => ⟨let ⟨K, a, b⟩ := x.1; ⟨K, fun p o e => k _ _ (a p o e), b⟩, fun P hP => k _ _ (x.2 P hP)⟩
theorem left_boot {p q : Program} {loose : List PySem.Str} {Xt : Shared → Bool} {α : Type} {Yf : Shared → α} {Ya : World → α} {N : Nat} {g0 : Bool}
    (hb : ∀ w : World, (fencedOpening treeTable p w N).map (fun s => (s.heap, s.gens, s.drawn, s.toks)) = some (boot_heap w.params, Array.mk [], boot_drawn, boot_toks))
    (h : ∀ (w : World) (os : OsState), (topFrom treeTable p w N ⟨boot_heap w.params, Array.mk [], boot_drawn, boot_toks, os⟩).map (fun s => (openSeen q loose (importedModules p.main.body) Xt g0 s, Yf s)) = some (openGood q loose, Ya w)) :
    LeftO p q loose Xt Yf Ya N g0 := fun w => by
  obtain ⟨⟨h0, gs, d, k, os⟩, e, e'⟩ := Option.map_eq_some_iff.mp (hb w)
  cases e'
  unfold openEnds
  rw [e]
  exact h w os
end Mine
set_option autoImplicit false
set_option maxRecDepth 10000
set_option linter.unusedVariables false
namespace Mine
open PySem PyProof.Rows PySem.W

section
variable {P : PC} {m : Mem} {σ : St}
theorem r_lit {v : V} {Q : V → St → Prop} : wpE P (.lit v) Q σ = Q v σ := rfl
theorem r_var {i : Nat} {Q : V → St → Prop} : wpE P (.var i) Q σ = (match σ.loc[i]? with | some (some v) => Q v σ | _ => False) := rfl
theorem r_bin {op : Operator} {a b : Ex} {Q : V → St → Prop} : wpE P (.bin op a b) Q σ = wpE P a (fun v σ₁ => wpE P b (fun u σ₂ => wpBin σ₂.mem op v u fun r m => Q r { σ₂ with mem := m }) σ₁) σ := rfl
theorem r_neg {a : Ex} {Q : V → St → Prop} : wpE P (.neg a) Q σ = wpE P a (fun v σ₁ => match v with | .int i => Q (.int (-i)) σ₁ | _ => False) σ := rfl
theorem r_not {a : Ex} {Q : V → St → Prop} : wpE P (.not a) Q σ = wpE P a (fun v σ₁ => wpTruth σ₁.mem v fun b => Q (.bool (!b)) σ₁) σ := rfl
theorem r_list {es : List Ex} {Q : V → St → Prop} : wpE P (.list es) Q σ = wpEs P es (fun vs σ₁ => ∀ a, σ₁.mem a = none → Q (.obj a) { σ₁ with mem := upd σ₁.mem a (.list vs) }) σ := rfl
theorem r_tup {es : List Ex} {Q : V → St → Prop} : wpE P (.tup es) Q σ = wpEs P es (fun vs σ₁ => Q (.tup vs) σ₁) σ := rfl
theorem r_cmp {a : Ex} {ops : List CmpOp} {es : List Ex} {Q : V → St → Prop} : wpE P (.cmp a ops es) Q σ = wpE P a (fun v σ₁ => wpCh P ops es v (fun b σ₂ => Q (.bool b) σ₂) σ₁) σ := rfl
theorem r_band {es : List Ex} {Q : V → St → Prop} : wpE P (.band es) Q σ = wpBo P true es Q σ := rfl
theorem r_bor {es : List Ex} {Q : V → St → Prop} : wpE P (.bor es) Q σ = wpBo P false es Q σ := rfl
theorem r_idx {a i : Ex} {Q : V → St → Prop} : wpE P (.idx a i) Q σ = wpE P a (fun v σ₁ => wpE P i (fun u σ₂ => wpIdx σ₂.mem v u fun r => Q r σ₂) σ₁) σ := rfl
theorem r_slc {a lo hi st : Ex} {Q : V → St → Prop} : wpE P (.slc a lo hi st) Q σ = wpE P a (fun v σ₁ => wpE P lo (fun l σ₂ => wpE P hi (fun h σ₃ => wpE P st (fun s σ₄ => wpSlc σ₄.mem v l h s fun r m => Q r { σ₄ with mem := m }) σ₃) σ₂) σ₁) σ := rfl
theorem r_attr {o : Ex} {n : String} {Q : V → St → Prop} : wpE P (.attr o n) Q σ = wpE P o (fun v σ₁ => wpAttr P σ₁.mem v n fun r => Q r σ₁) σ := rfl
theorem r_bi {b : Bi} {args : List Ex} {Q : V → St → Prop} : wpE P (.bi b args) Q σ = wpEs P args (fun vs σ₁ => wpBi σ₁.mem b vs fun r m => Q r { σ₁ with mem := m }) σ := rfl
theorem r_call {f : String} {args : List Ex} {Q : V → St → Prop} : wpE P (.call f args) Q σ = wpEs P args (fun vs σ₁ => P.call f vs (fun r m => Q r { σ₁ with mem := m }) σ₁.mem) σ := rfl
theorem r_me {o : Ex} {m : Me} {args : List Ex} {Q : V → St → Prop} : wpE P (.me o m args) Q σ = wpE P o (fun v σ₁ => meOk σ₁.mem v m ∧ wpEs P args (fun vs σ₂ => wpMe σ₂.mem v m vs fun r m' => Q r { σ₂ with mem := m' }) σ₁) σ := rfl
theorem r_imeth {o : Ex} {n : String} {args : List Ex} {Q : V → St → Prop} : wpE P (.imeth o n args) Q σ = wpE P o (fun v σ₁ => (∃ a d fs, v = .obj a ∧ σ₁.mem a = some (.inst P.cls d) ∧ σ₁.mem d = some (.dict fs) ∧ lookF n fs = none) ∧ wpEs P args (fun vs σ₂ => P.meth n (v :: vs) (fun r m => Q r { σ₂ with mem := m }) σ₂.mem) σ₁) σ := rfl
theorem r_comp {elt : Ex} {one : Bool} {is : List Nat} {it : Ex} {cs : List Ex} {n : Nat} {caps : List Nat} {Q : V → St → Prop} : wpE P (.comp elt one is it cs n caps) Q σ = wpE P it (fun v σ₁ => wpItems σ₁.mem v fun vs g => small vs.length ∧ wpComp (bindIs one is) (wpTs P true cs) (wpE P elt) g (fun us m => ∀ a, m a = none → Q (.obj a) { σ₁ with mem := upd m a (.list us) }) vs [] (compSt σ₁ n caps)) σ := rfl
theorem r_es0 {Q : List V → St → Prop} : wpEs P [] Q σ = Q [] σ := rfl
theorem r_es1 {e : Ex} {es : List Ex} {Q : List V → St → Prop} : wpEs P (e :: es) Q σ = wpE P e (fun v σ₁ => wpEs P es (fun vs σ₂ => Q (v :: vs) σ₂) σ₁) σ := rfl
theorem r_ch1 {op : CmpOp} {e : Ex} {v : V} {Q : Bool → St → Prop} : wpCh P [op] [e] v Q σ = wpE P e (fun u σ₁ => wpCmp σ₁.mem op v u fun b => Q b σ₁) σ := rfl
theorem r_bo1 {k : Bool} {e : Ex} {Q : V → St → Prop} : wpBo P k [e] Q σ = wpE P e Q σ := rfl
theorem r_bo2 {k : Bool} {e d : Ex} {es : List Ex} {Q : V → St → Prop} : wpBo P k (e :: d :: es) Q σ = wpE P e (fun v σ₁ => wpTruth σ₁.mem v fun b => if b = k then wpBo P k (d :: es) Q σ₁ else Q v σ₁) σ := rfl
theorem r_tnot {a : Ex} {w : (V → St → Prop) → St → Prop} {Q : Bool → St → Prop} : wpT P (.not a) w Q σ = wpT P a (wpE P a) (fun b σ₁ => Q (!b) σ₁) σ := rfl
theorem r_tband {es : List Ex} {w : (V → St → Prop) → St → Prop} {Q : Bool → St → Prop} : wpT P (.band es) w Q σ = wpTs P true es Q σ := rfl
theorem r_tbor {es : List Ex} {w : (V → St → Prop) → St → Prop} {Q : Bool → St → Prop} : wpT P (.bor es) w Q σ = wpTs P false es Q σ := rfl
theorem r_tcmp {a : Ex} {ops : List CmpOp} {es : List Ex} {w : (V → St → Prop) → St → Prop} {Q : Bool → St → Prop} : wpT P (.cmp a ops es) w Q σ = wpE P a (fun v σ₁ => wpCh P ops es v Q σ₁) σ := rfl
theorem r_tvar {i : Nat} {w : (V → St → Prop) → St → Prop} {Q : Bool → St → Prop} : wpT P (.var i) w Q σ = w (fun v σ₁ => wpTruth σ₁.mem v fun b => Q b σ₁) σ := rfl
theorem r_tcall {f : String} {args : List Ex} {w : (V → St → Prop) → St → Prop} {Q : Bool → St → Prop} : wpT P (.call f args) w Q σ = w (fun v σ₁ => wpTruth σ₁.mem v fun b => Q b σ₁) σ := rfl
theorem r_tme {o : Ex} {m : Me} {args : List Ex} {w : (V → St → Prop) → St → Prop} {Q : Bool → St → Prop} : wpT P (.me o m args) w Q σ = w (fun v σ₁ => wpTruth σ₁.mem v fun b => Q b σ₁) σ := rfl
theorem r_tidx {a i : Ex} {w : (V → St → Prop) → St → Prop} {Q : Bool → St → Prop} : wpT P (.idx a i) w Q σ = w (fun v σ₁ => wpTruth σ₁.mem v fun b => Q b σ₁) σ := rfl
theorem r_tbi {b : Bi} {args : List Ex} {w : (V → St → Prop) → St → Prop} {Q : Bool → St → Prop} : wpT P (.bi b args) w Q σ = w (fun v σ₁ => wpTruth σ₁.mem v fun b => Q b σ₁) σ := rfl
theorem r_ts0 {k : Bool} {Q : Bool → St → Prop} : wpTs P k [] Q σ = Q k σ := rfl
theorem r_ts1 {k : Bool} {e : Ex} {es : List Ex} {Q : Bool → St → Prop} : wpTs P k (e :: es) Q σ = wpT P e (wpE P e) (fun b σ₁ => if b = k then wpTs P k es Q σ₁ else Q (!k) σ₁) σ := rfl
theorem r_tgs0 {v : V} {Q : St → Prop} : wpTgs P [] v Q σ = Q σ := rfl
theorem r_tgs1 {t : Tg} {ts : List Tg} {v : V} {Q : St → Prop} : wpTgs P (t :: ts) v Q σ = wpTg P t v (fun σ₁ => wpTgs P ts v Q σ₁) σ := rfl
theorem r_sexpr {e : Ex} {Q : Fl → St → Prop} : wpS P (.expr e) Q σ = wpE P e (fun _ σ₁ => Q .next σ₁) σ := rfl
theorem r_sassign {ts : List Tg} {e : Ex} {Q : Fl → St → Prop} : wpS P (.assign ts e) Q σ = wpE P e (fun v σ₁ => wpTgs P ts v (fun σ₂ => Q .next σ₂) σ₁) σ := rfl
theorem r_saug {i : Nat} {op : Operator} {e : Ex} {Q : Fl → St → Prop} : wpS P (.aug i op e) Q σ = (match σ.loc[i]? with | some (some v) => wpE P e (fun u σ₁ => wpAug σ₁.mem op v u fun r => Q .next (σ₁.set i r)) σ | _ => False) := rfl
theorem r_sdel {o i : Ex} {Q : Fl → St → Prop} : wpS P (.del o i) Q σ = wpE P o (fun ov σ₁ => wpE P i (fun iv σ₂ => ∃ a k vs j, ov = .obj a ∧ iv = .int k ∧ tiny k ∧ σ₂.mem a = some (.list vs) ∧ pyIx vs.length k = some j ∧ small vs.length ∧ Q .next { σ₂ with mem := upd σ₂.mem a (.list (vs.eraseIdx j)) }) σ₁) σ := rfl
theorem r_sife {c : Ex} {a b : List Sm} {Q : Fl → St → Prop} : wpS P (.ife c a b) Q σ = wpT P c (wpE P c) (fun t σ₁ => if t then wpSs P a Q σ₁ else wpSs P b Q σ₁) σ := rfl
theorem r_swhl {c : Ex} {b : List Sm} {Q : Fl → St → Prop} : wpS P (.whl c b) Q σ = wpWhile (wpT P c (wpE P c)) (wpSs P b) Q σ := rfl
theorem r_sfr {t : Tg} {it : Ex} {b : List Sm} {Q : Fl → St → Prop} : wpS P (.fr t it b) Q σ = wpE P it (fun v σ₁ => wpItems σ₁.mem v fun vs g => wpLoop (wpTg P t) (wpSs P b) g Q vs σ₁) σ := rfl
theorem r_sret {e : Ex} {Q : Fl → St → Prop} : wpS P (.ret e) Q σ = wpE P e (fun v σ₁ => Q (.ret v) σ₁) σ := rfl
theorem r_ss0 {Q : Fl → St → Prop} : wpSs P [] Q σ = Q .next σ := rfl
theorem r_ss1 {s : Sm} {ss : List Sm} {Q : Fl → St → Prop} : wpSs P (s :: ss) Q σ = wpS P s (fun fl σ₁ => match fl with | .next => wpSs P ss Q σ₁ | .brk => Q .brk σ₁ | .cont => Q .cont σ₁ | .ret r => Q (.ret r) σ₁) σ := rfl
theorem bin_add {a b : Int} {Q : V → Mem → Prop} : wpBin m .Add (.int a) (.int b) Q = Q (.int (a + b)) m := rfl
theorem bin_sub {a b : Int} {Q : V → Mem → Prop} : wpBin m .Sub (.int a) (.int b) Q = Q (.int (a - b)) m := rfl
theorem bin_mul {a b : Int} {Q : V → Mem → Prop} : wpBin m .Mult (.int a) (.int b) Q = (tiny a ∧ Q (.int (a * b)) m) := rfl
theorem bin_div {a b : Int} {Q : V → Mem → Prop} : wpBin m .FloorDiv (.int a) (.int b) Q = (0 < b ∧ tiny b ∧ Q (.int (a / b)) m) := rfl
theorem bin_mod {a b : Int} {Q : V → Mem → Prop} : wpBin m .Mod (.int a) (.int b) Q = (0 < b ∧ Q (.int (a % b)) m) := rfl
theorem bin_cat {a b : Tx} {Q : V → Mem → Prop} : wpBin m .Add (.str a) (.str b) Q = (small a.length ∧ small b.length ∧ Q (.str (a ++ b)) m) := rfl
theorem bin_rep {a : Addr} {k : Int} {Q : V → Mem → Prop} : wpBin m .Mult (.obj a) (.int k) Q = (∃ x, m a = some (.list [x]) ∧ tiny k ∧ small k.toNat ∧ ∀ c, m c = none → Q (.obj c) (upd m c (.list (List.replicate k.toNat x)))) := rfl
theorem cmp_eqi {a b : Int} {Q : Bool → Prop} : wpCmp m .Eq (.int a) (.int b) Q = Q (decide (a = b)) := rfl
theorem cmp_eqs {a b : Tx} {Q : Bool → Prop} : wpCmp m .Eq (.str a) (.str b) Q = Q (decide (a = b)) := rfl
theorem cmp_nei {a b : Int} {Q : Bool → Prop} : wpCmp m .NotEq (.int a) (.int b) Q = Q (!decide (a = b)) := rfl
theorem cmp_nes {a b : Tx} {Q : Bool → Prop} : wpCmp m .NotEq (.str a) (.str b) Q = Q (!decide (a = b)) := rfl
theorem cmp_lt {a b : Int} {Q : Bool → Prop} : wpCmp m .Lt (.int a) (.int b) Q = Q (decide (a < b)) := rfl
theorem cmp_le {a b : Int} {Q : Bool → Prop} : wpCmp m .LtE (.int a) (.int b) Q = Q (decide (a ≤ b)) := rfl
theorem cmp_gt {a b : Int} {Q : Bool → Prop} : wpCmp m .Gt (.int a) (.int b) Q = Q (decide (b < a)) := rfl
theorem cmp_ge {a b : Int} {Q : Bool → Prop} : wpCmp m .GtE (.int a) (.int b) Q = Q (decide (b ≤ a)) := rfl
theorem cmp_isn {Q : Bool → Prop} : wpCmp m .Is .none .none Q = Q true := rfl
theorem cmp_ist {vs : List V} {Q : Bool → Prop} : wpCmp m .Is (.tup vs) .none Q = Q false := rfl
theorem cmp_notn {Q : Bool → Prop} : wpCmp m .IsNot .none .none Q = Q false := rfl
theorem cmp_nott {vs : List V} {Q : Bool → Prop} : wpCmp m .IsNot (.tup vs) .none Q = Q true := rfl
theorem cmp_eqo {a b : Addr} {Q : Bool → Prop} : wpCmp m .Eq (.obj a) (.obj b) Q = ∃ d e, rd 8 m (.obj a) = some d ∧ rd 8 m (.obj b) = some e ∧ Q (PyData.eqv d e) := rfl
theorem cmp_neo {a b : Addr} {Q : Bool → Prop} : wpCmp m .NotEq (.obj a) (.obj b) Q = ∃ d e, rd 8 m (.obj a) = some d ∧ rd 8 m (.obj b) = some e ∧ Q (!PyData.eqv d e) := rfl
theorem tr_none {Q : Bool → Prop} : wpTruth m .none Q = Q false := rfl
theorem tr_bool {b : Bool} {Q : Bool → Prop} : wpTruth m (.bool b) Q = Q b := rfl
theorem tr_int {i : Int} {Q : Bool → Prop} : wpTruth m (.int i) Q = Q (i != 0) := rfl
theorem tr_str {x : Tx} {Q : Bool → Prop} : wpTruth m (.str x) Q = (small x.length ∧ Q (!x.isEmpty)) := rfl
theorem tr_tup {vs : List V} {Q : Bool → Prop} : wpTruth m (.tup vs) Q = (small vs.length ∧ Q (!vs.isEmpty)) := rfl
theorem ix_str {x : Tx} {i : Int} {Q : V → Prop} : wpIdx m (.str x) (.int i) Q = (tiny i ∧ ∃ c, pyGet x i = some c ∧ Q (.str [c])) := rfl
theorem ix_tup {vs : List V} {i : Int} {Q : V → Prop} : wpIdx m (.tup vs) (.int i) Q = (tiny i ∧ ∃ v, pyGet vs i = some v ∧ Q v) := rfl
theorem ix_lst {a : Addr} {i : Int} {Q : V → Prop} : wpIdx m (.obj a) (.int i) Q = (tiny i ∧ ∃ vs v, m a = some (.list vs) ∧ pyGet vs i = some v ∧ Q v) := rfl
theorem sl_ii {x : Tx} {a b : Int} {Q : V → Mem → Prop} : wpSlc m (.str x) (.int a) (.int b) .none Q = (small x.length ∧ Q (.str (pySl x (some a) (some b))) m) := rfl
theorem sl_in {x : Tx} {a : Int} {Q : V → Mem → Prop} : wpSlc m (.str x) (.int a) .none .none Q = (small x.length ∧ Q (.str (pySl x (some a) none)) m) := rfl
theorem sl_ni {x : Tx} {b : Int} {Q : V → Mem → Prop} : wpSlc m (.str x) .none (.int b) .none Q = (small x.length ∧ Q (.str (pySl x none (some b))) m) := rfl
theorem sl_lni {l : Addr} {b : Int} {Q : V → Mem → Prop} : wpSlc m (.obj l) .none (.int b) .none Q = (∃ vs, (m l = some (.list vs) ∨ ∃ o, m l = some (.ro o vs)) ∧ small vs.length ∧ ∀ c, m c = none → Q (.obj c) (upd m c (.list (pySl vs none (some b))))) := rfl
theorem bi_lens {x : Tx} {Q : V → Mem → Prop} : wpBi m .len [.str x] Q = (small x.length ∧ Q (.int x.length) m) := rfl
theorem bi_lent {vs : List V} {Q : V → Mem → Prop} : wpBi m .len [.tup vs] Q = (small vs.length ∧ Q (.int vs.length) m) := rfl
theorem bi_leno {a : Addr} {Q : V → Mem → Prop} : wpBi m .len [.obj a] Q = (∃ vs, (m a = some (.list vs) ∨ ∃ o, m a = some (.ro o vs)) ∧ small vs.length ∧ Q (.int vs.length) m) := rfl
theorem bi_min {a b : Int} {Q : V → Mem → Prop} : wpBi m .min [.int a, .int b] Q = Q (.int (if b < a then b else a)) m := rfl
theorem bi_max {a b : Int} {Q : V → Mem → Prop} : wpBi m .max [.int a, .int b] Q = Q (.int (if a < b then b else a)) m := rfl
theorem bi_maxl {a : Addr} {Q : V → Mem → Prop} : wpBi m .max [.obj a] Q = (∃ ns : List Int, m a = some (.list (ns.map V.int)) ∧ 0 < ns.length ∧ ∀ M : Int, M ∈ ns → (∀ a, a ∈ ns → a ≤ M) → Q (.int M) m) := rfl
theorem bi_rng {a : Int} {Q : V → Mem → Prop} : wpBi m .range [.int a] Q = (tiny a ∧ Q (.rng 0 a 1) m) := rfl
theorem bi_rng2 {a b : Int} {Q : V → Mem → Prop} : wpBi m .range [.int a, .int b] Q = (tiny a ∧ tiny b ∧ Q (.rng a b 1) m) := rfl
theorem bi_lstt {vs : List V} {Q : V → Mem → Prop} : wpBi m .list [.tup vs] Q = (small vs.length ∧ ∀ c, m c = none → Q (.obj c) (upd m c (.list vs))) := rfl
theorem me_find {x t : Tx} {Q : V → Mem → Prop} : wpMe m (.str x) .find [.str t] Q = (small x.length ∧ small t.length ∧ ∀ r, FindIs x t 0 r → Q (.int r) m) := rfl
theorem me_find2 {x t : Tx} {i : Int} {Q : V → Mem → Prop} : wpMe m (.str x) .find [.str t, .int i] Q = (small x.length ∧ small t.length ∧ 0 ≤ i ∧ ∀ r, FindIs x t i.toNat r → Q (.int r) m) := rfl
theorem me_app {a : Addr} {v : V} {Q : V → Mem → Prop} : wpMe m (.obj a) .append [v] Q = (∃ vs, m a = some (.list vs) ∧ small vs.length ∧ Q .none (upd m a (.list (vs ++ [v])))) := rfl
theorem ok_find {x : Tx} : meOk m (.str x) .find = True := rfl
theorem ok_app {a : Addr} : meOk m (.obj a) .append = ∃ l, m a = some (.list l) := rfl
theorem aug_addi {a b : Int} {Q : V → Prop} : wpAug m .Add (.int a) (.int b) Q = Q (.int (a + b)) := rfl
theorem aug_adds {a b : Tx} {Q : V → Prop} : wpAug m .Add (.str a) (.str b) Q = (small a.length ∧ small b.length ∧ Q (.str (a ++ b))) := rfl
theorem aug_subi {a b : Int} {Q : V → Prop} : wpAug m .Sub (.int a) (.int b) Q = Q (.int (a - b)) := rfl
theorem tg_idx {o i : Ex} {v : V} {Q : St → Prop} : wpTg P (.idx o i) v Q σ = wpE P o (fun ov σ₁ => wpE P i (fun iv σ₂ => ∃ a k vs j, ov = .obj a ∧ iv = .int k ∧ tiny k ∧ σ₂.mem a = some (.list vs) ∧ pyIx vs.length k = some j ∧ Q { σ₂ with mem := upd σ₂.mem a (.list (vs.set j v)) }) σ₁) σ := rfl
theorem tg_slc {o lo hi : Ex} {v : V} {Q : St → Prop} : wpTg P (.slc o lo hi) v Q σ = wpE P o (fun ov σ₁ => wpE P lo (fun l σ₂ => wpE P hi (fun h σ₃ => ∃ a b ia ib xs ys, ov = .obj a ∧ v = .obj b ∧ slPart l = some ia ∧ slPart h = some ib ∧ a ≠ b ∧
      σ₃.mem a = some (.list xs) ∧ σ₃.mem b = some (.list ys) ∧ small xs.length ∧ small ys.length ∧
      Q { σ₃ with mem := upd σ₃.mem a (.list (xs.take (slLo xs.length ia) ++ ys ++ xs.drop (max (slLo xs.length ia) (slHi xs.length ib)))) }) σ₂) σ₁) σ := rfl
theorem tg_tup {is : List Nat} {vs : List V} {Q : St → Prop} : wpTg P (.tup is) (.tup vs) Q σ = (vs.length = is.length ∧ Q (σ.setAll is vs)) := rfl
theorem tg_var {i : Nat} {v : V} {Q : St → Prop} : wpTg P (.var i) v Q σ = Q (σ.set i v) := rfl
theorem it_str {x : Tx} {K : List V → (Mem → Prop) → Prop} : wpItems m (.str x) K = (small x.length ∧ K (x.map fun c => .str [c]) fun _ => True) := rfl
theorem it_rng {a b c : Int} {K : List V → (Mem → Prop) → Prop} : wpItems m (.rng a b c) K = (tiny a ∧ tiny b ∧ tiny c ∧ 0 < c ∧ K (rngL a b c) fun _ => True) := rfl
theorem it_lst {a : Addr} {K : List V → (Mem → Prop) → Prop} : wpItems m (.obj a) K = (∃ vs, m a = some (.list vs) ∧ small vs.length ∧ K vs fun m' => m' a = some (.list vs)) := rfl
theorem neg_int {i : Int} {Q : V → St → Prop} : (match V.int i with | .int i => Q (.int (-i)) σ | _ => False) = Q (.int (-i)) σ := rfl
theorem me_ins {a : Addr} {k : Int} {v : V} {Q : V → Mem → Prop} : wpMe m (.obj a) .insert [.int k, v] Q = (0 ≤ k ∧ tiny k ∧ ∃ vs, m a = some (.list vs) ∧ small vs.length ∧ Q .none (upd m a (.list (vs.take k.toNat ++ v :: vs.drop k.toNat)))) := rfl
theorem me_pop {a : Addr} {Q : V → Mem → Prop} : wpMe m (.obj a) .pop [] Q = ([] = ([] : List V) ∧ ∃ vs v, m a = some (.list (vs ++ [v])) ∧ small vs.length ∧ Q v (upd m a (.list vs))) := rfl
theorem me_join {a : Addr} {Q : V → Mem → Prop} : wpMe m (.str []) .join [.obj a] Q = (([] : Tx) = [] ∧ ∃ xs : List Tx, m a = some (.list (xs.map V.str)) ∧ xs.length ≤ 500000 ∧ xs.flatten.length ≤ 500000 ∧ Q (.str xs.flatten) m) := rfl
theorem me_ends {x y : Tx} {Q : V → Mem → Prop} : wpMe m (.str x) .endswith [.str y] Q = Q (.bool (decide (y.length ≤ x.length ∧ x.drop (x.length - y.length) = y))) m := rfl
theorem me_starts {x y : Tx} {Q : V → Mem → Prop} : wpMe m (.str x) .startswith [.str y] Q = Q (.bool (decide (x.take y.length = y))) m := rfl
theorem ok_ins {a : Addr} : meOk m (.obj a) .insert = ∃ l, m a = some (.list l) := rfl
theorem ok_pop {a : Addr} : meOk m (.obj a) .pop = ∃ l, m a = some (.list l) := rfl
theorem ok_join {x : Tx} : meOk m (.str x) .join = True := rfl
theorem ok_ends {x : Tx} : meOk m (.str x) .endswith = True := rfl
theorem ok_starts {x : Tx} : meOk m (.str x) .startswith = True := rfl
/-- one statement, what follows it hidden -/
theorem ss_next {s : Sm} {ss : List Sm} {Q : Fl → St → Prop} (h : ∀ Q' : Fl → St → Prop, (∀ σ', wpSs P ss Q σ' → Q' .next σ') → wpS P s Q' σ) : wpSs P (s :: ss) Q σ := h _ fun _ q => q
theorem ss_ret {s : Sm} {ss : List Sm} {Q : Fl → St → Prop} (h : ∀ Q' : Fl → St → Prop, (∀ σ', wpSs P ss Q σ' → Q' .next σ') → (∀ v σ', Q (.ret v) σ' → Q' (.ret v) σ') → wpS P s Q' σ) : wpSs P (s :: ss) Q σ := h _ (fun _ q => q) fun _ _ q => q
theorem ss_nil {Q : Fl → St → Prop} (h : Q .next σ) : wpSs P [] Q σ := h
/-- a test, what follows it hidden -/
theorem s_ife {c : Ex} {a b : List Sm} {Q : Fl → St → Prop} (h : ∀ K : Bool → St → Prop, (∀ σ', wpSs P a Q σ' → K true σ') → (∀ σ', wpSs P b Q σ' → K false σ') → wpT P c (wpE P c) K σ) : wpS P (.ife c a b) Q σ :=
  h _ (fun _ q => q) fun _ q => q
theorem if_yes {p : Prop} [Decidable p] {X Y : Prop} (hp : p) (x : X) : if decide p = true then X else Y := by rw [if_pos (decide_eq_true hp)]; exact x
theorem if_no {p : Prop} [Decidable p] {X Y : Prop} (hp : ¬ p) (y : Y) : if decide p = true then X else Y := by rw [if_neg (by simpa using hp)]; exact y
theorem if_not_yes {p : Prop} [Decidable p] {X Y : Prop} (hp : p) (y : Y) : if (!decide p) = true then X else Y := by rw [if_neg (by simpa using hp)]; exact y
theorem if_not_no {p : Prop} [Decidable p] {X Y : Prop} (hp : ¬ p) (x : X) : if (!decide p) = true then X else Y := by rw [if_pos (by simpa using hp)]; exact x
end
end Mine
set_option autoImplicit false
set_option maxRecDepth 10000
set_option linter.unusedVariables false
namespace Mine

/-- length of the longest common head -/
noncomputable def lcp : Tx → Tx → Nat
  | a :: as, b :: bs => if a = b then lcp as bs + 1 else 0
  | _, _ => 0
theorem lcp_le : ∀ (a b : Tx), lcp a b ≤ a.length ∧ lcp a b ≤ b.length
  | [], _ => by simp [lcp]
  | _ :: _, [] => by simp [lcp]
  | a :: as, b :: bs => by
    unfold lcp
    have := lcp_le as bs
    split <;> simp <;> omega
theorem lcp_iff : ∀ (k : Nat) (a b : Tx), k ≤ a.length → k ≤ b.length → (k ≤ lcp a b ↔ a.take k = b.take k)
  | 0, _, _, _, _ => by simp
  | k + 1, [], _, h, _ => by simp at h
  | k + 1, _ :: _, [], _, h => by simp at h
  | k + 1, a :: as, b :: bs, h1, h2 => by
    unfold lcp
    have ih := lcp_iff k as bs (by simpa using h1) (by simpa using h2)
    by_cases e : a = b
    · subst e; simp [ih]
    · simp [e]
noncomputable def lcs (a b : Tx) : Nat := lcp a.reverse b.reverse
theorem lcs_le (a b : Tx) : lcs a b ≤ a.length ∧ lcs a b ≤ b.length := by
  have := lcp_le a.reverse b.reverse
  simpa [lcs] using this

abbrev Part := Int × Tx
abbrev Row := List Part
noncomputable def cnt (k : Int) (r : Row) : Nat := (r.filter fun p => decide (p.1 = k)).length
noncomputable def cat (k : Int) (r : Row) : Tx := ((r.filter fun p => decide (p.1 = k)).map (·.2)).flatten
noncomputable def phi (r : Row) : Nat := (r.map fun p => p.2.length + 1).sum
noncomputable def addLast : Row → Tx → Row
  | [], x => [(0, x)]
  | [(k, u)], x => [(k, u ++ x)]
  | a :: b :: r, x => a :: addLast (b :: r) x
theorem addLast_cat (dn : Row) (k : Int) (u x : Tx) : addLast (dn ++ [(k, u)]) x = dn ++ [(k, u ++ x)] := by
  induction dn with
  | nil => rfl
  | cons a dn ih =>
    cases dn with
    | nil => rfl
    | cons b dn => exact congrArg (a :: ·) ih

theorem phi_nil : phi [] = 0 := rfl
theorem phi_cons (p : Part) (r : Row) : phi (p :: r) = p.2.length + 1 + phi r := by simp [phi]
theorem phi_append (a b : Row) : phi (a ++ b) = phi a + phi b := by simp [phi]
theorem len_le_phi (r : Row) : r.length ≤ phi r := by
  induction r with
  | nil => simp [phi]
  | cons p r ih => rw [phi_cons]; simp; omega
theorem txt_le_phi {r : Row} {p : Part} (h : p ∈ r) : p.2.length < phi r := by
  induction r with
  | nil => cases h
  | cons q r ih =>
    rw [phi_cons]
    rcases List.mem_cons.mp h with rfl | h
    · omega
    · have := ih h; omega
theorem cat_append (k : Int) (a b : Row) : cat k (a ++ b) = cat k a ++ cat k b := by simp [cat]
theorem cnt_append (k : Int) (a b : Row) : cnt k (a ++ b) = cnt k a + cnt k b := by simp [cnt]
theorem cat_one (k : Int) (p : Part) : cat k [p] = if p.1 = k then p.2 else [] := by
  unfold cat; by_cases h : p.1 = k <;> simp [h]
theorem cnt_one (k : Int) (p : Part) : cnt k [p] = if p.1 = k then 1 else 0 := by
  unfold cnt; by_cases h : p.1 = k <;> simp [h]
theorem cat_cons (k : Int) (p : Part) (r : Row) : cat k (p :: r) = (if p.1 = k then p.2 else []) ++ cat k r := by
  rw [← cat_one, ← cat_append]; rfl
theorem cnt_cons (k : Int) (p : Part) (r : Row) : cnt k (p :: r) = (if p.1 = k then 1 else 0) + cnt k r := by
  rw [← cnt_one, ← cnt_append]; rfl
/-- a run: deletions and insertions alone -/
noncomputable def Run (r : Row) : Prop := ∀ p ∈ r, p.1 = -1 ∨ p.1 = 1
theorem run_cnt {r : Row} (h : Run r) : cnt (-1) r + cnt 1 r = r.length := by
  induction r with
  | nil => rfl
  | cons p r ih =>
    have := ih fun q hq => h q (List.mem_cons_of_mem _ hq)
    rw [cnt_cons, cnt_cons, List.length_cons]
    rcases h p (List.mem_cons_self) with e | e <;> rw [e] <;> simp <;> omega
theorem cat_phi (r : Row) : (cat (-1) r).length + (cat 1 r).length + r.length ≤ phi r := by
  induction r with
  | nil => simp [cat, phi]
  | cons p r ih =>
    rw [cat_cons, cat_cons, phi_cons]
    simp only [List.length_append, List.length_cons]
    by_cases h1 : p.1 = -1
    · rw [if_pos h1, if_neg (by omega)]; simp; omega
    · rw [if_neg h1]
      by_cases h2 : p.1 = 1
      · rw [if_pos h2]; simp; omega
      · rw [if_neg h2]; simp; omega

/-- common head and end go to the kept parts beside -/
structure Trim where
  done : Row
  td : Tx
  ti : Tx
  t : Tx
noncomputable def trimA (q : Trim) : Trim := if lcp q.ti q.td = 0 then q else ⟨addLast q.done (q.ti.take (lcp q.ti q.td)), q.td.drop (lcp q.ti q.td), q.ti.drop (lcp q.ti q.td), q.t⟩
noncomputable def trimB (q : Trim) : Trim := if lcs q.ti q.td = 0 then q else ⟨q.done, q.td.take (q.td.length - lcs q.ti q.td), q.ti.take (q.ti.length - lcs q.ti q.td), q.ti.drop (q.ti.length - lcs q.ti q.td) ++ q.t⟩
noncomputable def trim (q : Trim) : Trim := trimB (trimA q)
noncomputable def ops (td ti : Tx) : Row := (if td = [] then [] else [(-1, td)]) ++ (if ti = [] then [] else [(1, ti)])
noncomputable def trimR (done run : Row) (t : Tx) : Trim :=
  if cnt (-1) run ≠ 0 ∧ cnt 1 run ≠ 0 then trim ⟨done, cat (-1) run, cat 1 run, t⟩ else ⟨done, cat (-1) run, cat 1 run, t⟩
noncomputable def endR (q : Trim) : Row := q.done ++ ops q.td q.ti ++ [(0, q.t)]
noncomputable def eqStep (done run : Row) (t : Tx) : Row :=
  if 1 < run.length then endR (trimR done run t)
  else if run = [] ∧ done ≠ [] then addLast done t else done ++ run ++ [(0, t)]
noncomputable def mergeGo : Row → Row → Row → Row
  | done, run, [] => done ++ run
  | done, run, (k, t) :: r => if k = 0 then mergeGo (eqStep done run t) [] r else mergeGo done (run ++ [(k, t)]) r
noncomputable def merge (r : Row) : Row := mergeGo [] [] (r ++ [(0, [])])
/-- the last part goes if it is empty -/
noncomputable def popE : Row → Row
  | [] => []
  | [p] => if p.2 = [] then [] else [p]
  | p :: q :: r => p :: popE (q :: r)
theorem popE_cat (dn : Row) (p : Part) : popE (dn ++ [p]) = if p.2 = [] then dn else dn ++ [p] := by
  induction dn with
  | nil => rfl
  | cons a dn ih =>
    cases dn with
    | nil => show a :: popE [p] = _; rw [popE]; split <;> rfl
    | cons b dn =>
      show a :: popE (b :: dn ++ [p]) = _
      rw [ih]; split <;> rfl
noncomputable def slideGo : Part → Row → Row × Bool
  | a, b :: c :: C =>
    if a.1 = 0 ∧ c.1 = 0 then
      if a.2.length ≤ b.2.length ∧ b.2.drop (b.2.length - a.2.length) = a.2 then ((b.1, a.2 ++ b.2.take (b.2.length - a.2.length)) :: (slideGo (c.1, a.2 ++ c.2) C).1, true)
      else if b.2.take c.2.length = c.2 then ((a.1, a.2 ++ c.2) :: (slideGo (b.1, b.2.drop c.2.length ++ c.2) C).1, true)
      else (a :: (slideGo b (c :: C)).1, (slideGo b (c :: C)).2)
    else (a :: (slideGo b (c :: C)).1, (slideGo b (c :: C)).2)
  | a, [b] => ([a, b], false)
  | a, [] => ([a], false)
noncomputable def slide : Row → Row × Bool
  | [] => ([], false)
  | a :: r => slideGo a r
noncomputable def cleanN : Nat → Row → Row
  | 0, r => r
  | n + 1, r => if (slide (popE (merge r))).2 then cleanN n (slide (popE (merge r))).1 else (slide (popE (merge r))).1

/-- what stands before a run ends with a kept part -/
noncomputable def Dn (done : Row) : Prop := done = [] ∨ ∃ dn u, done = dn ++ [((0 : Int), u)]
theorem addLast_dn {done : Row} (h : Dn done) (x : Tx) : ∃ dn u, addLast done x = dn ++ [((0 : Int), u)] := by
  rcases h with rfl | ⟨dn, u, rfl⟩
  · exact ⟨[], x, rfl⟩
  · exact ⟨dn, u ++ x, addLast_cat _ _ _ _⟩
theorem eqStep_dn {done run : Row} (h : Dn done) (t : Tx) : ∃ dn u, eqStep done run t = dn ++ [((0 : Int), u)] := by
  unfold eqStep
  split
  · exact ⟨_, _, rfl⟩
  · split
    · exact addLast_dn h t
    · exact ⟨_, _, rfl⟩
theorem phi_addLast {done : Row} (h : Dn done) (x : Tx) : phi (addLast done x) ≤ phi done + x.length + (if done = [] then 1 else 0) := by
  rcases h with rfl | ⟨dn, u, rfl⟩
  · simp [addLast, phi]
  · rw [addLast_cat, phi_append, phi_append]; simp [phi]; omega
theorem phi_ops (td ti : Tx) : phi (ops td ti) ≤ td.length + ti.length + 2 := by
  unfold ops
  rw [phi_append]
  split <;> split <;> simp [phi] <;> omega
/-- the weight of a trim's parts -/
noncomputable def tw (q : Trim) : Nat := phi q.done + q.td.length + q.ti.length + q.t.length
theorem trimA_w (q : Trim) (h : Dn q.done) : tw (trimA q) ≤ tw q ∧ Dn (trimA q).done := by
  unfold trimA
  split
  · exact ⟨Nat.le_refl _, h⟩
  · rename_i hp
    have l := lcp_le q.ti q.td
    have w := phi_addLast h (q.ti.take (lcp q.ti q.td))
    refine ⟨?_, .inr (addLast_dn h _)⟩
    unfold tw
    dsimp only
    rw [List.length_take] at w
    rw [List.length_drop, List.length_drop]
    split at w <;> omega
theorem trimB_w (q : Trim) : tw (trimB q) ≤ tw q ∧ (trimB q).done = q.done := by
  unfold trimB
  split
  · exact ⟨Nat.le_refl _, rfl⟩
  · have l := lcs_le q.ti q.td
    refine ⟨?_, rfl⟩
    unfold tw
    dsimp only
    rw [List.length_append, List.length_drop, List.length_take, List.length_take]
    omega
theorem trim_w (q : Trim) (h : Dn q.done) : tw (trim q) ≤ tw q ∧ Dn (trim q).done := by
  obtain ⟨a, b⟩ := trimA_w q h
  obtain ⟨c, d⟩ := trimB_w (trimA q)
  exact ⟨Nat.le_trans c a, by unfold trim; rw [d]; exact b⟩
theorem phi_endR (q : Trim) : phi (endR q) ≤ tw q + 3 := by
  unfold endR tw
  rw [phi_append, phi_append]
  have := phi_ops q.td q.ti
  simp only [phi_cons, phi_nil]; omega
theorem phi_eqStep {done run : Row} (h : Dn done) (t : Tx) : phi (eqStep done run t) ≤ phi done + phi run + (t.length + 1) := by
  unfold eqStep
  split
  · rename_i hr
    have c := cat_phi run
    have e := phi_endR (trimR done run t)
    have w : tw (trimR done run t) ≤ phi done + (cat (-1) run).length + (cat 1 run).length + t.length := by
      unfold trimR
      split
      · exact (trim_w _ h).1
      · exact Nat.le_refl _
    omega
  · split
    · rename_i hr
      have w := phi_addLast h t
      rw [if_neg hr.2] at w
      omega
    · rw [phi_append, phi_append]; simp [phi]
end Mine
set_option autoImplicit false
set_option maxRecDepth 10000
set_option linter.unusedVariables false
namespace Mine

/-- kinds as they may be -/
noncomputable def Kind (k : Int) : Prop := k = -1 ∨ k = 0 ∨ k = 1
noncomputable def Kinds (r : Row) : Prop := ∀ q ∈ r, Kind q.1
theorem Kinds.nil : Kinds [] := fun _ h => by cases h
theorem Kinds.cons {p : Part} {r : Row} (h : Kind p.1) (k : Kinds r) : Kinds (p :: r) := fun q hq => by
  rcases List.mem_cons.mp hq with rfl | hq
  · exact h
  · exact k q hq
theorem Kinds.tail {p : Part} {r : Row} (k : Kinds (p :: r)) : Kinds r := fun q hq => k q (List.mem_cons_of_mem _ hq)
theorem Kinds.head {p : Part} {r : Row} (k : Kinds (p :: r)) : Kind p.1 := k p List.mem_cons_self
theorem Kinds.append {a b : Row} (h : Kinds a) (k : Kinds b) : Kinds (a ++ b) := fun q hq => by
  rcases List.mem_append.mp hq with hq | hq
  · exact h q hq
  · exact k q hq
theorem Kinds.left {a b : Row} (h : Kinds (a ++ b)) : Kinds a := fun q hq => h q (List.mem_append_left _ hq)
theorem kinds_addLast {done : Row} (h : Kinds done) (x : Tx) : Kinds (addLast done x) := by
  induction done with
  | nil => exact .cons (.inr (.inl rfl)) .nil
  | cons a r ih =>
    cases r with
    | nil => obtain ⟨k, u⟩ := a; exact .cons (h.head) .nil
    | cons b r => exact .cons h.head (ih h.tail)
theorem kinds_ops (td ti : Tx) : Kinds (ops td ti) := by
  unfold ops
  refine .append ?_ ?_
  · split
    · exact .nil
    · exact .cons (.inl rfl) .nil
  · split
    · exact .nil
    · exact .cons (.inr (.inr rfl)) .nil
theorem kinds_trim {q : Trim} (h : Kinds q.done) : Kinds (trim q).done := by
  unfold trim
  rw [(trimB_w _).2]
  unfold trimA
  split
  · exact h
  · exact kinds_addLast h _
theorem kinds_eqStep {done run : Row} (h : Kinds done) (hr : Kinds run) (t : Tx) : Kinds (eqStep done run t) := by
  unfold eqStep
  split
  · unfold endR
    refine .append (.append ?_ (kinds_ops _ _)) (.cons (.inr (.inl rfl)) .nil)
    unfold trimR
    split
    · exact kinds_trim h
    · exact h
  · split
    · exact kinds_addLast h _
    · exact (h.append hr).append (.cons (.inr (.inl rfl)) .nil)
theorem kinds_mergeGo : ∀ (todo done run : Row), Kinds done → Kinds run → Kinds todo → Kinds (mergeGo done run todo)
  | [], done, run, h, hr, _ => h.append hr
  | (k, t) :: r, done, run, h, hr, ht => by
    unfold mergeGo
    split
    · exact kinds_mergeGo r _ _ (kinds_eqStep h hr t) .nil ht.tail
    · exact kinds_mergeGo r _ _ h (hr.append (.cons ht.head .nil)) ht.tail
theorem kinds_popE : ∀ (r : Row), Kinds r → Kinds (popE r)
  | [], _ => .nil
  | [p], h => by unfold popE; split <;> first | exact .nil | exact h
  | p :: q :: r, h => .cons h.head (kinds_popE (q :: r) h.tail)
theorem kinds_slideGo : ∀ (r : Row) (a : Part), Kind a.1 → Kinds r → Kinds (slideGo a r).1
  | [], a, h, _ => .cons h .nil
  | [b], a, h, hr => .cons h hr
  | b :: c :: C, a, h, hr => by
    have hb := hr.head
    have hc := hr.tail.head
    have hC := hr.tail.tail
    have i1 := kinds_slideGo (c :: C) b hb hr.tail
    rw [slideGo]
    split
    · split
      · exact .cons hb (kinds_slideGo C _ hc hC)
      · split
        · exact .cons h (kinds_slideGo C _ hb hC)
        · exact .cons h i1
    · exact .cons h i1
theorem kinds_slide {r : Row} (h : Kinds r) : Kinds (slide r).1 := by
  cases r with
  | nil => exact .nil
  | cons a r => exact kinds_slideGo r a h.head h.tail

theorem phi_slideGo : ∀ (r : Row) (a : Part), phi (slideGo a r).1 + (if (slideGo a r).2 then 1 else 0) ≤ phi (a :: r)
  | [], a => by simp [slideGo]
  | [b], a => by simp [slideGo]
  | b :: c :: C, a => by
    have i1 := phi_slideGo (c :: C) b
    rw [slideGo]
    split
    · split
      · rename_i h
        have i2 := phi_slideGo C (c.1, a.2 ++ c.2)
        have z : ∀ x : Bool, (if x = true then 1 else 0) ≤ 1 := fun x => by cases x <;> simp
        have := z (slideGo (c.1, a.2 ++ c.2) C).2
        simp only [phi_cons, List.length_append, List.length_take, if_true] at i2 ⊢
        have h1 := h.1
        rw [Nat.min_eq_left (by omega)]; omega
      · split
        · rename_i h
          have i2 := phi_slideGo C (b.1, b.2.drop c.2.length ++ c.2)
          have he : c.2.length ≤ b.2.length := by
            have := congrArg List.length h
            rw [List.length_take] at this; omega
          simp only [phi_cons, List.length_append, List.length_drop, if_true] at i2 ⊢
          omega
        · simp only [phi_cons] at i1 ⊢; omega
    · simp only [phi_cons] at i1 ⊢; omega
theorem phi_slide (r : Row) : phi (slide r).1 + (if (slide r).2 then 1 else 0) ≤ phi r := by
  cases r with
  | nil => simp [slide]
  | cons a r => exact phi_slideGo r a

theorem mergeGo_end (x : Tx) : ∀ (todo done run : Row), Dn done → ∃ done' run', Dn done' ∧ mergeGo done run (todo ++ [(0, x)]) = eqStep done' run' x ∧ phi done' + phi run' ≤ phi done + phi run + phi todo
  | [], done, run, hd => ⟨done, run, hd, by show mergeGo done run [(0, x)] = _; rw [mergeGo, if_pos rfl]; simp [mergeGo], by simp [phi_nil]⟩
  | (k, t) :: r, done, run, hd => by
    rw [List.cons_append]
    by_cases hk : k = 0
    · obtain ⟨d', r', a, b, c⟩ := mergeGo_end x r (eqStep done run t) [] (.inr (eqStep_dn hd t))
      refine ⟨d', r', a, by rw [mergeGo, if_pos hk]; exact b, ?_⟩
      have := phi_eqStep (run := run) hd t
      rw [phi_nil] at c
      rw [phi_cons]; dsimp only; omega
    · obtain ⟨d', r', a, b, c⟩ := mergeGo_end x r done (run ++ [(k, t)]) hd
      refine ⟨d', r', a, by rw [mergeGo, if_neg hk]; exact b, ?_⟩
      rw [phi_append, phi_cons, phi_nil] at c
      rw [phi_cons]; dsimp only at c ⊢; omega
theorem mergeGo_dn (x : Tx) : ∀ (todo done run : Row), Dn done → ∃ dn u, mergeGo done run (todo ++ [(0, x)]) = dn ++ [((0 : Int), u)]
  | [], done, run, h => by
    obtain ⟨dn, u, e⟩ := eqStep_dn (run := run) h x
    refine ⟨dn, u, ?_⟩
    show mergeGo done run [(0, x)] = _
    rw [mergeGo, if_pos rfl, e]; simp [mergeGo]
  | (k, t) :: r, done, run, h => by
    rw [List.cons_append]
    unfold mergeGo
    split
    · exact mergeGo_dn x r _ _ (.inr (eqStep_dn h t))
    · exact mergeGo_dn x r _ _ h
theorem trim_last {q : Trim} (hd : Dn q.done) (ht : q.t = []) : (trim q).t = [] ∨ phi (trim q).done + (trim q).td.length + (trim q).ti.length + (trim q).t.length + 1 ≤ phi q.done + q.td.length + q.ti.length := by
  have e : (trimA q).t = [] := by unfold trimA; split <;> exact ht
  have w := (trimA_w q hd).1
  unfold tw at w
  rw [e, ht] at w
  unfold trim
  generalize trimA q = p at *
  have l := lcs_le p.ti p.td
  unfold trimB
  by_cases hz : lcs p.ti p.td = 0
  · rw [if_pos hz]; exact .inl e
  · rw [if_neg hz]; right
    dsimp only
    rw [List.length_append, List.length_drop, List.length_take, List.length_take, e]
    simp only [List.length_nil] at w ⊢
    omega
theorem eqStep_last {done run : Row} (hd : Dn done) : (∃ dn, eqStep done run [] = dn ++ [((0 : Int), ([] : Tx))]) ∨ phi (eqStep done run []) ≤ phi done + phi run := by
  unfold eqStep
  by_cases hr : 1 < run.length
  · rw [if_pos hr]
    have c := cat_phi run
    unfold trimR
    by_cases hb : cnt (-1) run ≠ 0 ∧ cnt 1 run ≠ 0
    · rw [if_pos hb]
      rcases trim_last (q := ⟨done, cat (-1) run, cat 1 run, []⟩) hd rfl with h | h
      · left; exact ⟨_, by unfold endR; rw [h]⟩
      · right
        have e := phi_endR (trim ⟨done, cat (-1) run, cat 1 run, []⟩)
        unfold tw at e
        dsimp only at h
        omega
    · rw [if_neg hb]; left; exact ⟨_, rfl⟩
  · rw [if_neg hr]
    by_cases h : run = [] ∧ done ≠ []
    · rw [if_pos h]
      right
      have w := phi_addLast hd []
      rw [if_neg h.2] at w
      simp at w; omega
    · rw [if_neg h]; left; exact ⟨_, rfl⟩
/-- a merge weighs no more -/
theorem phi_merge (r : Row) : phi (popE (merge r)) ≤ phi r := by
  unfold merge
  obtain ⟨d', r', a, b, c⟩ := mergeGo_end [] r [] [] (.inl rfl)
  rw [b]
  have hp := phi_eqStep (run := r') a []
  rw [phi_nil] at c
  rcases eqStep_last (run := r') a with ⟨dn, h⟩ | h
  · rw [h, popE_cat, if_pos rfl]
    rw [h, phi_append, phi_cons, phi_nil] at hp
    simp only [List.length_nil] at hp
    omega
  · obtain ⟨dn, u, e⟩ := eqStep_dn (run := r') a []
    rw [e] at h ⊢
    rw [popE_cat]
    rw [phi_append, phi_cons, phi_nil] at h
    split
    · omega
    · rw [phi_append, phi_cons, phi_nil]; omega
end Mine
set_option autoImplicit false
set_option maxRecDepth 10000
set_option linter.unusedVariables false
namespace Mine

noncomputable def NE (r : Row) : Prop := ∀ p ∈ r, p.2 ≠ []
noncomputable def ne (r : Row) : Row := r.filter fun p => decide (p.2 ≠ [])
theorem NE.nil : NE [] := fun _ h => by cases h
theorem NE.cons {p : Part} {r : Row} (h : p.2 ≠ []) (k : NE r) : NE (p :: r) := fun q hq => by
  rcases List.mem_cons.mp hq with rfl | hq
  · exact h
  · exact k q hq
theorem NE.tail {p : Part} {r : Row} (k : NE (p :: r)) : NE r := fun q hq => k q (List.mem_cons_of_mem _ hq)
theorem NE.head {p : Part} {r : Row} (k : NE (p :: r)) : p.2 ≠ [] := k p List.mem_cons_self
theorem NE.append {a b : Row} (h : NE a) (k : NE b) : NE (a ++ b) := fun q hq => by
  rcases List.mem_append.mp hq with hq | hq
  · exact h q hq
  · exact k q hq
theorem ne_ne (r : Row) : NE (ne r) := fun p hp => of_decide_eq_true (List.mem_filter.mp hp).2
theorem ne_cons (p : Part) (r : Row) : ne (p :: r) = (if p.2 = [] then [] else [p]) ++ ne r := by
  unfold ne; rw [List.filter_cons]
  by_cases h : p.2 = [] <;> simp [h]
theorem ne_ops (o n : Tx) (r : Row) : ne ((-1, o) :: (1, n) :: r) = ops o n ++ ne r := by
  rw [ne_cons, ne_cons, ← List.append_assoc]; rfl
theorem ne_four (k o n : Tx) (r : Row) : ne ((0, k) :: (-1, o) :: (1, n) :: r) = ne [(0, k)] ++ (ops o n ++ ne r) := by
  rw [← ne_ops, ne_cons, ne_cons (0, k) []]
  simp [ne]
theorem Run.nil : Run [] := fun _ h => by cases h
theorem Run.snoc {r : Row} {p : Part} (h : Run r) (k : p.1 = -1 ∨ p.1 = 1) : Run (r ++ [p]) := fun q hq => by
  rcases List.mem_append.mp hq with hq | hq
  · exact h q hq
  · rw [List.mem_singleton] at hq; subst hq; exact k
theorem kind_run {k : Int} (h : Kind k) (h0 : k ≠ 0) : k = -1 ∨ k = 1 := by
  rcases h with h | h | h
  · exact .inl h
  · exact absurd h h0
  · exact .inr h

noncomputable def pre (o n : Tx) : Tx := n.take (lcp n o)
noncomputable def mo (o n : Tx) : Tx := o.drop (lcp n o)
noncomputable def mn (o n : Tx) : Tx := n.drop (lcp n o)
noncomputable def ms (o n : Tx) : Nat := lcs (mn o n) (mo o n)
noncomputable def ro (o n : Tx) : Tx := (mo o n).take ((mo o n).length - ms o n)
noncomputable def rn (o n : Tx) : Tx := (mn o n).take ((mn o n).length - ms o n)
noncomputable def su (o n : Tx) : Tx := (mn o n).drop ((mn o n).length - ms o n)
theorem lcp_nil_l (x : Tx) : lcp [] x = 0 := by simp [lcp]
theorem lcp_nil_r (x : Tx) : lcp x [] = 0 := by cases x <;> simp [lcp]
/-- nothing in common -/
structure NT (o n : Tx) : Prop where
  p : pre o n = []
  eo : ro o n = o
  en : rn o n = n
  s : su o n = []
theorem nt_of {o n : Tx} (h : lcp n o = 0) (h2 : lcs n o = 0) : NT o n := by
  have a : mo o n = o := by unfold mo; rw [h]; rfl
  have b : mn o n = n := by unfold mn; rw [h]; rfl
  have c : ms o n = 0 := by unfold ms; rw [a, b, h2]
  refine ⟨by unfold pre; rw [h]; rfl, by unfold ro; rw [a, c]; simp, by unfold rn; rw [b, c]; simp, by unfold su; rw [b, c]; simp⟩
theorem nt_empty {o n : Tx} (h : o = [] ∨ n = []) : NT o n := by
  rcases h with rfl | rfl
  · exact nt_of (lcp_nil_r _) (by unfold lcs; exact lcp_nil_r _)
  · exact nt_of (lcp_nil_l _) (by unfold lcs; exact lcp_nil_l _)
noncomputable def addPre (done : Row) (p : Tx) : Row := if p = [] then done else addLast done p
theorem trim_eq (done : Row) (o n t : Tx) : trim ⟨done, o, n, t⟩ = ⟨addPre done (pre o n), ro o n, rn o n, su o n ++ t⟩ := by
  have e : trimA ⟨done, o, n, t⟩ = ⟨addPre done (pre o n), mo o n, mn o n, t⟩ := by
    unfold trimA addPre
    dsimp only
    have l := lcp_le n o
    by_cases h : lcp n o = 0
    · rw [if_pos h, if_pos (by unfold pre; rw [h]; rfl)]
      unfold mo mn; rw [h]; rfl
    · have : pre o n ≠ [] := fun q => h (by have := congrArg List.length q; unfold pre at this; rw [List.length_take, List.length_nil] at this; omega)
      rw [if_neg h, if_neg this]; rfl
  unfold trim
  rw [e]
  unfold trimB
  dsimp only
  by_cases h : lcs (mn o n) (mo o n) = 0
  · rw [if_pos h]
    have c : ms o n = 0 := h
    unfold ro rn su
    rw [c]; simp
  · rw [if_neg h]; rfl
theorem cat_none {k : Int} {r : Row} (h : cnt k r = 0) : cat k r = [] := by
  induction r with
  | nil => rfl
  | cons p r ih =>
    rw [cnt_cons] at h
    rw [cat_cons, ih (by omega)]
    split at h
    · omega
    · rename_i q; rw [if_neg q]; rfl
theorem cat_some {k : Int} {r : Row} (h : cat k r ≠ []) : cnt k r ≠ 0 := fun q => h (cat_none q)
/-- a run with its end -/
theorem eqStep_run {done run : Row} {t : Tx} (hr : Run run) (hn : NE run) (h0 : run ≠ []) :
    eqStep done run t = addPre done (pre (cat (-1) run) (cat 1 run)) ++ ops (ro (cat (-1) run) (cat 1 run)) (rn (cat (-1) run) (cat 1 run)) ++ [(0, su (cat (-1) run) (cat 1 run) ++ t)] := by
  unfold eqStep
  by_cases hl : 1 < run.length
  · rw [if_pos hl]
    unfold trimR
    by_cases hb : cnt (-1) run ≠ 0 ∧ cnt 1 run ≠ 0
    · rw [if_pos hb, trim_eq]; rfl
    · rw [if_neg hb]
      have z : cat (-1) run = [] ∨ cat 1 run = [] := by
        by_cases q : cnt (-1) run = 0
        · exact .inl (cat_none q)
        · by_cases q2 : cnt 1 run = 0
          · exact .inr (cat_none q2)
          · exact absurd ⟨q, q2⟩ hb
      have n := nt_empty z
      rw [n.p, n.eo, n.en, n.s]; rfl
  · rw [if_neg hl, if_neg (fun q => h0 q.1)]
    match run, hl, hr, hn, h0 with
    | [], _, _, _, h0 => exact absurd rfl h0
    | _ :: _ :: _, hl, _, _, _ => exact absurd (by simp) hl
    | [p], _, hr, hn, _ =>
      have hp := hn p (List.mem_singleton.mpr rfl)
      rcases hr p (List.mem_singleton.mpr rfl) with e | e
      · have c1 : cat (-1) [p] = p.2 := by rw [cat_one, if_pos e]
        have c2 : cat 1 [p] = [] := by rw [cat_one, if_neg (by rw [e]; decide)]
        rw [c1, c2]
        have n := nt_empty (o := p.2) (n := []) (.inr rfl)
        rw [n.p, n.eo, n.en, n.s]
        unfold ops addPre
        rw [if_neg hp, ← e]; simp
      · have c1 : cat (-1) [p] = [] := by rw [cat_one, if_neg (by rw [e]; decide)]
        have c2 : cat 1 [p] = p.2 := by rw [cat_one, if_pos e]
        rw [c1, c2]
        have n := nt_empty (o := []) (n := p.2) (.inl rfl)
        rw [n.p, n.eo, n.en, n.s]
        unfold ops addPre
        rw [if_neg hp, ← e]; simp

abbrev Seg := Tx × Tx × Tx
noncomputable def segs : Tx → Row → Row → Tx × List Seg
  | k, run, [] => if run = [] then (k, []) else (k, [(cat (-1) run, cat 1 run, [])])
  | k, run, (j, t) :: r => if j = 0 then (if run = [] then segs (k ++ t) [] r else (k, (cat (-1) run, cat 1 run, (segs t [] r).1) :: (segs t [] r).2)) else segs k (run ++ [(j, t)]) r
noncomputable def plainGo : Tx → List Seg → Row × Bool
  | k, [] => ([(0, k)], false)
  | k, (o, n, k') :: l => ((0, k ++ pre o n) :: (-1, ro o n) :: (1, rn o n) :: (plainGo (su o n ++ k') l).1, decide (ro o n = rn o n) || (plainGo (su o n ++ k') l).2)
theorem segs_shift (s : Tx) : ∀ (r run : Row) (k : Tx), segs (s ++ k) run r = (s ++ (segs k run r).1, (segs k run r).2)
  | [], run, k => by unfold segs; split <;> rfl
  | (j, t) :: r, run, k => by
    unfold segs
    split
    · split
      · rw [List.append_assoc]; exact segs_shift s r _ _
      · rfl
    · exact segs_shift s r _ _
/-- what stands written, and the kept text that may still grow -/
noncomputable def Rel (done D : Row) (k : Tx) : Prop := (k = [] ∧ done = [] ∧ D = []) ∨ (k ≠ [] ∧ done = D ++ [((0 : Int), k)])
theorem rel_pre {done D : Row} {k : Tx} (h : Rel done D k) (p : Tx) : addPre done p = D ++ ne [(0, k ++ p)] := by
  unfold addPre
  rw [ne_cons]
  rcases h with ⟨rfl, rfl, rfl⟩ | ⟨h, rfl⟩
  · by_cases hp : p = []
    · subst hp; rfl
    · rw [if_neg hp, if_neg (by simpa using hp)]; rfl
  · by_cases hp : p = []
    · subst hp; rw [if_pos rfl, if_neg (by simpa using h), List.append_nil]; rfl
    · rw [if_neg hp, addLast_cat, if_neg (by simp [h])]; rfl
theorem rel_keep {done D : Row} {k t : Tx} (h : Rel done D k) (ht : t ≠ []) : Rel (eqStep done [] t) D (k ++ t) := by
  right
  refine ⟨by simp [ht], ?_⟩
  rcases h with ⟨rfl, rfl, rfl⟩ | ⟨h, rfl⟩
  · rfl
  · unfold eqStep
    rw [if_neg (by simp), if_pos ⟨rfl, by simp⟩, addLast_cat]
theorem merge_plain : ∀ (todo done D run : Row) (k : Tx), NE todo → Kinds todo → NE run → Run run → Rel done D k →
    popE (mergeGo done run (todo ++ [(0, [])])) = D ++ ne (plainGo (segs k run todo).1 (segs k run todo).2).1
  | [], done, D, run, k, _, _, hn, hr, hR => by
    rw [List.nil_append, mergeGo, if_pos rfl]
    rw [show mergeGo (eqStep done run []) [] [] = eqStep done run [] ++ [] from by rw [mergeGo], List.append_nil]
    unfold segs
    by_cases h0 : run = []
    · subst h0
      rw [if_pos rfl]
      show _ = D ++ ne [(0, k)]
      rw [ne_cons]
      rcases hR with ⟨rfl, rfl, rfl⟩ | ⟨h, rfl⟩
      · rfl
      · unfold eqStep
        rw [if_neg (by simp), if_pos ⟨rfl, by simp⟩, addLast_cat, List.append_nil, popE_cat, if_neg h, if_neg h]; rfl
    · rw [if_neg h0, eqStep_run hr hn h0, popE_cat, rel_pre hR]
      unfold plainGo plainGo
      dsimp only
      rw [ne_four]
      by_cases hs : su (cat (-1) run) (cat 1 run) = []
      · rw [if_pos (by simp [hs]), hs]; simp [ne]
      · rw [if_neg (by simp [hs])]; simp [ne, hs]
  | (j, t) :: r, done, D, run, k, hN, hK, hn, hr, hR => by
    have ht : t ≠ [] := hN.head
    rw [List.cons_append, mergeGo]
    unfold segs
    by_cases hj : j = 0
    · rw [if_pos hj, if_pos hj]
      by_cases h0 : run = []
      · subst h0
        rw [if_pos rfl]
        exact merge_plain r _ D [] _ hN.tail hK.tail .nil .nil (rel_keep hR ht)
      · rw [if_neg h0, eqStep_run hr hn h0]
        have := merge_plain r _ _ [] (su (cat (-1) run) (cat 1 run) ++ t) hN.tail hK.tail .nil .nil (Or.inr ⟨by simp [ht], rfl⟩ : Rel (addPre done (pre (cat (-1) run) (cat 1 run)) ++ ops (ro (cat (-1) run) (cat 1 run)) (rn (cat (-1) run) (cat 1 run)) ++ [(0, su (cat (-1) run) (cat 1 run) ++ t)]) _ _)
        rw [this, segs_shift, rel_pre hR]
        dsimp only
        conv => rhs; unfold plainGo
        dsimp only
        rw [ne_four]
        simp
    · rw [if_neg hj, if_neg hj]
      exact merge_plain r _ D _ k hN.tail hK.tail (hn.append (.cons ht .nil)) (hr.snoc (kind_run hK.head hj)) hR
/-- the row of the law's own plain merge -/
noncomputable def plainR (r : Row) : Row := ne (plainGo (segs [] [] r).1 (segs [] [] r).2).1
noncomputable def fell (r : Row) : Bool := (plainGo (segs [] [] r).1 (segs [] [] r).2).2
theorem merge_is_plain {r : Row} (h : NE r) (k : Kinds r) : popE (merge r) = plainR r :=
  merge_plain r [] [] [] [] h k .nil .nil (.inl ⟨rfl, rfl, rfl⟩)
end Mine
set_option autoImplicit false
set_option maxRecDepth 10000
set_option linter.unusedVariables false
namespace Mine

noncomputable def side (k : Int) : Row → Tx
  | [] => []
  | p :: r => (if p.1 = 0 ∨ p.1 = k then p.2 else []) ++ side k r
noncomputable def turned : Row → Nat
  | [] => 0
  | p :: r => (if p.1 = 0 then 0 else p.2.length) + turned r
theorem side_append (k : Int) : ∀ (a b : Row), side k (a ++ b) = side k a ++ side k b
  | [], b => rfl
  | p :: a, b => by rw [List.cons_append, side, side, side_append k a b, List.append_assoc]
theorem turned_append : ∀ (a b : Row), turned (a ++ b) = turned a + turned b
  | [], b => by simp [turned]
  | p :: a, b => by rw [List.cons_append, turned, turned, turned_append a b]; omega
theorem side_one (k : Int) (p : Part) : side k [p] = if p.1 = 0 ∨ p.1 = k then p.2 else [] := by
  rw [side, side, List.append_nil]

theorem pre_o (o n : Tx) : pre o n = o.take (lcp n o) := by
  have l := lcp_le n o
  exact (lcp_iff _ n o l.1 l.2).mp (Nat.le_refl _)
theorem drop_rev (x : Tx) (s : Nat) : x.drop (x.length - s) = (x.reverse.take s).reverse := by rw [List.take_reverse, List.reverse_reverse]
theorem take_rev (x : Tx) (s : Nat) : x.take (x.length - s) = (x.reverse.drop s).reverse := by rw [List.drop_reverse, List.reverse_reverse]
theorem su_o (o n : Tx) : su o n = (mo o n).drop ((mo o n).length - ms o n) := by
  unfold su
  rw [drop_rev, drop_rev]
  have l := lcs_le (mn o n) (mo o n)
  have := (lcp_iff (ms o n) (mn o n).reverse (mo o n).reverse (by rw [List.length_reverse]; exact l.1) (by rw [List.length_reverse]; exact l.2)).mp (Nat.le_refl _)
  rw [this]
theorem split_o (o n : Tx) : pre o n ++ ro o n ++ su o n = o := by
  rw [pre_o, su_o]
  unfold ro
  rw [List.append_assoc, List.take_append_drop]
  exact List.take_append_drop _ _
theorem split_n (o n : Tx) : pre o n ++ rn o n ++ su o n = n := by
  unfold pre rn su
  rw [List.append_assoc, List.take_append_drop]
  exact List.take_append_drop _ _
theorem lcp_drop : ∀ (a b : Tx), lcp (a.drop (lcp a b)) (b.drop (lcp a b)) = 0
  | [], _ => by simp [lcp]
  | _ :: _, [] => by simp [lcp]
  | a :: as, b :: bs => by
    by_cases h : a = b
    · subst h
      rw [show lcp (a :: as) (a :: bs) = lcp as bs + 1 by simp [lcp]]
      simpa using lcp_drop as bs
    · rw [show lcp (a :: as) (b :: bs) = 0 by simp [lcp, h]]
      simp [lcp, h]
theorem head_ne {a b : Tx} (h : lcp a b = 0) (ha : a ≠ []) (hb : b ≠ []) : b.head? ≠ a.head? := by
  cases a with
  | nil => exact absurd rfl ha
  | cons x a => cases b with
    | nil => exact absurd rfl hb
    | cons y b =>
      intro e
      simp at e
      subst e
      simp [lcp] at h
theorem head_take {x : Tx} {k : Nat} (h : x.take k ≠ []) : (x.take k).head? = x.head? := by
  cases x with
  | nil => simp at h
  | cons a x => cases k with
    | zero => simp at h
    | succ k => rfl
theorem ro_head {o n : Tx} (h : ro o n ≠ []) (h2 : rn o n ≠ []) : (ro o n).head? ≠ (rn o n).head? := by
  unfold ro at h ⊢
  unfold rn at h2 ⊢
  rw [head_take h, head_take h2]
  refine head_ne (lcp_drop n o) ?_ ?_
  · intro q; rw [show mn o n = [] from q] at h2; exact h2 (by simp)
  · intro q; rw [show mo o n = [] from q] at h; exact h (by simp)
theorem ro_last {o n : Tx} (h : ro o n ≠ []) (h2 : rn o n ≠ []) : (ro o n).getLast? ≠ (rn o n).getLast? := by
  have e1 : ro o n = ((mo o n).reverse.drop (ms o n)).reverse := take_rev _ _
  have e2 : rn o n = ((mn o n).reverse.drop (ms o n)).reverse := take_rev _ _
  rw [e1] at h ⊢
  rw [e2] at h2 ⊢
  rw [List.getLast?_reverse, List.getLast?_reverse]
  exact head_ne (lcp_drop (mn o n).reverse (mo o n).reverse) (fun q => h2 (by show (List.drop (ms o n) (mn o n).reverse).reverse = []; rw [show List.drop (ms o n) (mn o n).reverse = [] from q]; rfl)) (fun q => h (by show (List.drop (ms o n) (mo o n).reverse).reverse = []; rw [show List.drop (ms o n) (mo o n).reverse = [] from q]; rfl))

/-- sides stand -/
theorem side_run {k : Int} (hk : k = -1 ∨ k = 1) {r : Row} (h : Run r) : side k r = cat k r := by
  induction r with
  | nil => rfl
  | cons p r ih =>
    rw [side, cat_cons, ih fun q hq => h q (List.mem_cons_of_mem _ hq)]
    have : p.1 ≠ 0 := by rcases h p List.mem_cons_self with e | e <;> rw [e] <;> decide
    simp [this]
theorem side_ops_m (o n : Tx) : side (-1) (ops o n) = o := by
  unfold ops
  rw [side_append]
  by_cases h : o = [] <;> by_cases h2 : n = [] <;> simp [h, h2, side]
theorem side_ops_p (o n : Tx) : side 1 (ops o n) = n := by
  unfold ops
  rw [side_append]
  by_cases h : o = [] <;> by_cases h2 : n = [] <;> simp [h, h2, side]
theorem side_addLast {done : Row} (h : Dn done) (k : Int) (x : Tx) : side k (addLast done x) = side k done ++ x := by
  rcases h with rfl | ⟨dn, u, rfl⟩
  · simp [addLast, side]
  · rw [addLast_cat, side_append, side_append, side_one, side_one]; simp
theorem side_addPre {done : Row} (h : Dn done) (k : Int) (x : Tx) : side k (addPre done x) = side k done ++ x := by
  unfold addPre
  split
  · rename_i e; rw [e, List.append_nil]
  · exact side_addLast h k x
theorem side_endR {done : Row} (h : Dn done) {k : Int} (hk : k = -1 ∨ k = 1) (o n t : Tx) (b : Prop) [Decidable b] :
    side k (endR (if b then trim ⟨done, o, n, t⟩ else ⟨done, o, n, t⟩)) = side k done ++ (if k = -1 then o else n) ++ t := by
  have kept : ∀ x : Tx, side k [((0 : Int), x)] = x := fun x => by rw [side_one]; exact if_pos (.inl rfl)
  unfold endR
  rw [side_append, side_append, kept]
  have so := split_o o n
  have sn := split_n o n
  by_cases hb : b
  · rw [if_pos hb, trim_eq]
    dsimp only
    rw [side_addPre h]
    rcases hk with rfl | rfl
    · rw [side_ops_m, if_pos rfl]
      conv => rhs; rw [← so]
      simp only [List.append_assoc]
    · rw [side_ops_p, if_neg (by decide)]
      conv => rhs; rw [← sn]
      simp only [List.append_assoc]
  · rw [if_neg hb]
    dsimp only
    rcases hk with rfl | rfl
    · rw [side_ops_m, if_pos rfl]
    · rw [side_ops_p, if_neg (by decide)]
theorem side_eqStep {done run : Row} (h : Dn done) (hr : Run run) {k : Int} (hk : k = -1 ∨ k = 1) (t : Tx) : side k (eqStep done run t) = side k done ++ side k run ++ t := by
  unfold eqStep
  split
  · unfold trimR
    rw [side_endR h hk, side_run hk hr]
    rcases hk with rfl | rfl
    · rw [if_pos rfl]
    · rw [if_neg (by decide)]
  · split
    · rename_i q
      rw [side_addLast h, q.1]; simp [side]
    · rw [side_append, side_append, side_one]; simp
theorem side_mergeGo {k : Int} (hk : k = -1 ∨ k = 1) : ∀ (todo done run : Row), Dn done → Run run → Kinds todo → side k (mergeGo done run todo) = side k done ++ side k run ++ side k todo
  | [], done, run, h, hr, _ => by rw [mergeGo, side_append]; simp [side]
  | (j, t) :: r, done, run, h, hr, hK => by
    rw [mergeGo]
    split
    · rename_i e
      rw [side_mergeGo hk r _ _ (.inr (eqStep_dn h t)) .nil hK.tail, side_eqStep h hr hk]
      simp [side, e]
    · rename_i e
      rw [side_mergeGo hk r _ _ h (hr.snoc (kind_run hK.head e)) hK.tail, side_append, side_one, side]; simp
theorem side_popE (k : Int) : ∀ r : Row, side k (popE r) = side k r
  | [] => rfl
  | [p] => by
    unfold popE
    split
    · rename_i e; rw [side_one, e]; simp [side]
    · rfl
  | p :: q :: r => by
    show (if p.1 = 0 ∨ p.1 = k then p.2 else []) ++ side k (popE (q :: r)) = (if p.1 = 0 ∨ p.1 = k then p.2 else []) ++ side k (q :: r)
    rw [side_popE k (q :: r)]
theorem side_merge {k : Int} (hk : k = -1 ∨ k = 1) {r : Row} (hK : Kinds r) : side k (popE (merge r)) = side k r := by
  rw [side_popE]
  unfold merge
  rw [side_mergeGo hk _ _ _ (.inl rfl) .nil (hK.append (.cons (.inr (.inl rfl)) .nil)), side_append, side_one]; simp [side]

/-- neighbours -/
noncomputable def adj (R : Part → Part → Prop) : Row → Prop
  | a :: b :: r => R a b ∧ adj R (b :: r)
  | _ => True
theorem adj_tail {R : Part → Part → Prop} {a : Part} {r : Row} (h : adj R (a :: r)) : adj R r := by
  cases r with
  | nil => trivial
  | cons b r => exact h.2
theorem adj_append {R : Part → Part → Prop} : ∀ {A B : Row}, adj R A → adj R B → (∀ dn u, A = dn ++ [u] → ∀ b B', B = b :: B' → R u b) → adj R (A ++ B)
  | [], B, _, hB, _ => hB
  | [a], B, _, hB, hJ => by
    cases B with
    | nil => trivial
    | cons b B => exact ⟨hJ [] a rfl b B rfl, hB⟩
  | a :: b :: A, B, hA, hB, hJ => by
    refine ⟨hA.1, ?_⟩
    exact adj_append (A := b :: A) hA.2 hB fun dn u e => hJ (a :: dn) u (by rw [e]; rfl)
theorem adj_left {R : Part → Part → Prop} : ∀ {A B : Row}, adj R (A ++ B) → adj R A
  | [], _, _ => trivial
  | [a], _, _ => trivial
  | a :: b :: A, B, h => ⟨h.1, adj_left (A := b :: A) (B := B) h.2⟩
theorem adj_right {R : Part → Part → Prop} : ∀ {A B : Row}, adj R (A ++ B) → adj R B
  | [], _, h => h
  | a :: A, B, h => adj_right (A := A) (adj_tail h)
/-- a deletion ahead of its insertion, nothing in common -/
structure Good2 (x y : Tx) : Prop where
  h : x.head? ≠ y.head?
  l : x.getLast? ≠ y.getLast?
noncomputable def gp (a b : Part) : Prop := a.1 ≠ 0 → b.1 ≠ 0 → a.1 = -1 ∧ b.1 = 1 ∧ a.2 ≠ [] ∧ b.2 ≠ [] ∧ Good2 a.2 b.2
theorem adj_kept {A : Row} {u : Tx} (h : adj gp A) : adj gp (A ++ [((0 : Int), u)]) :=
  adj_append h trivial fun _ _ _ b B' e => by cases e; exact fun _ q => absurd rfl q
theorem adj_dn {A B : Row} (hD : Dn A) (h : adj gp A) (hB : adj gp B) : adj gp (A ++ B) := by
  refine adj_append h hB fun dn u e b B' _ q => ?_
  rcases hD with rfl | ⟨dn', v, rfl⟩
  · cases dn <;> cases e
  · obtain ⟨_, e⟩ := List.append_inj' e rfl
    cases e
    exact absurd rfl q
theorem adj_addPre {done : Row} (hD : Dn done) (h : adj gp done) (x : Tx) : adj gp (addPre done x) ∧ Dn (addPre done x) := by
  unfold addPre
  split
  · exact ⟨h, hD⟩
  · refine ⟨?_, .inr (addLast_dn hD x)⟩
    rcases hD with rfl | ⟨dn, u, rfl⟩
    · trivial
    · rw [addLast_cat]; exact adj_kept (adj_left h)
theorem adj_ops {o n : Tx} (h : o ≠ [] → n ≠ [] → Good2 o n) : adj gp (ops o n) := by
  unfold ops
  by_cases h1 : o = []
  · rw [if_pos h1]
    split <;> trivial
  · by_cases h2 : n = []
    · rw [if_pos h2, if_neg h1]; trivial
    · rw [if_neg h1, if_neg h2]
      exact ⟨fun _ _ => ⟨rfl, rfl, h1, h2, h h1 h2⟩, trivial⟩
theorem good_trim (o n : Tx) : ro o n ≠ [] → rn o n ≠ [] → Good2 (ro o n) (rn o n) := fun h h2 => ⟨ro_head h h2, ro_last h h2⟩
theorem adj_eqStep {done run : Row} (hD : Dn done) (h : adj gp done) (t : Tx) : adj gp (eqStep done run t) := by
  unfold eqStep
  split
  · unfold trimR
    by_cases hb : cnt (-1) run ≠ 0 ∧ cnt 1 run ≠ 0
    · rw [if_pos hb, trim_eq]
      obtain ⟨a, b⟩ := adj_addPre hD h (pre (cat (-1) run) (cat 1 run))
      exact adj_kept (adj_dn b a (adj_ops (good_trim _ _)))
    · rw [if_neg hb]
      refine adj_kept (adj_dn hD h (adj_ops fun h1 h2 => absurd ⟨cat_some h1, cat_some h2⟩ hb))
  · rename_i hl
    split
    · rcases hD with rfl | ⟨dn, u, rfl⟩
      · trivial
      · rw [addLast_cat]; exact adj_kept (adj_left h)
    · refine adj_kept (adj_dn hD h ?_)
      match run, hl with
      | [], _ => trivial
      | [_], _ => trivial
      | _ :: _ :: _, hl => exact absurd (by simp) hl
theorem adj_mergeGo (x : Tx) : ∀ (todo done run : Row), Dn done → adj gp done → adj gp (mergeGo done run (todo ++ [(0, x)]))
  | [], done, run, hD, h => by
    rw [List.nil_append, mergeGo, if_pos rfl, mergeGo, List.append_nil]
    exact adj_eqStep hD h _
  | (j, t) :: r, done, run, hD, h => by
    rw [List.cons_append, mergeGo]
    split
    · exact adj_mergeGo x r _ _ (.inr (eqStep_dn hD t)) (adj_eqStep hD h t)
    · exact adj_mergeGo x r _ _ hD h
theorem adj_merge (r : Row) : adj gp (popE (merge r)) := by
  unfold merge
  have h := adj_mergeGo [] r [] [] (.inl rfl) trivial
  obtain ⟨dn, u, e⟩ := mergeGo_dn [] r [] [] (.inl rfl)
  rw [e] at h ⊢
  rw [popE_cat]
  split
  · exact adj_left h
  · exact h
end Mine
set_option autoImplicit false
set_option maxRecDepth 10000
set_option linter.unusedVariables false
namespace Mine

noncomputable def ends (b a : Tx) : Prop := a.length ≤ b.length ∧ b.drop (b.length - a.length) = a
noncomputable def starts (b c : Tx) : Prop := b.take c.length = c
noncomputable def sc (a b c : Part) : Prop := a.1 = 0 ∧ c.1 = 0 ∧ (ends b.2 a.2 ∨ starts b.2 c.2)
theorem ends_iff {b a : Tx} : ends b a ↔ ∃ w, b = w ++ a := by
  constructor
  · rintro ⟨h, e⟩
    exact ⟨b.take (b.length - a.length), by conv => lhs; rw [← List.take_append_drop (b.length - a.length) b]
                                            rw [e]⟩
  · rintro ⟨w, rfl⟩
    refine ⟨by simp, ?_⟩
    rw [List.length_append, Nat.add_sub_cancel]
    exact List.drop_left' rfl
theorem starts_iff {b c : Tx} : starts b c ↔ ∃ w, b = c ++ w := by
  constructor
  · intro e
    exact ⟨b.drop c.length, by conv => lhs; rw [← List.take_append_drop c.length b]
                               rw [e]⟩
  · rintro ⟨w, rfl⟩
    unfold starts
    exact List.take_left' rfl
theorem sg_l {a b c : Part} {C : Row} (h0 : a.1 = 0) (h1 : c.1 = 0) (h : ends b.2 a.2) :
    slideGo a (b :: c :: C) = ((b.1, a.2 ++ b.2.take (b.2.length - a.2.length)) :: (slideGo (c.1, a.2 ++ c.2) C).1, true) := by
  rw [slideGo, if_pos ⟨h0, h1⟩]; exact if_pos h
theorem sg_r {a b c : Part} {C : Row} (h0 : a.1 = 0) (h1 : c.1 = 0) (h : ¬ ends b.2 a.2) (h2 : starts b.2 c.2) :
    slideGo a (b :: c :: C) = ((a.1, a.2 ++ c.2) :: (slideGo (b.1, b.2.drop c.2.length ++ c.2) C).1, true) := by
  rw [slideGo, if_pos ⟨h0, h1⟩]; exact (if_neg h).trans (if_pos h2)
theorem sg_n {a b c : Part} {C : Row} (h : ¬ sc a b c) :
    slideGo a (b :: c :: C) = (a :: (slideGo b (c :: C)).1, (slideGo b (c :: C)).2) := by
  rw [slideGo]
  by_cases g : a.1 = 0 ∧ c.1 = 0
  · rw [if_pos g]; exact (if_neg (fun q => h ⟨g.1, g.2, .inl q⟩)).trans (if_neg (fun q => h ⟨g.1, g.2, .inr q⟩))
  · rw [if_neg g]
/-- no slide is left -/
noncomputable def noSl : Row → Prop
  | a :: b :: c :: C => ¬ sc a b c ∧ noSl (b :: c :: C)
  | _ => True
theorem noSl_tail {a : Part} {r : Row} (h : noSl (a :: r)) : noSl r := by
  match r, h with
  | [], _ => trivial
  | [b], _ => trivial
  | b :: c :: C, h => exact h.2
theorem noSl_far {a b : Part} {r : Row} (h : a.1 ≠ 0 ∨ ∀ c C, r = c :: C → c.1 ≠ 0) (k : noSl (b :: r)) : noSl (a :: b :: r) := by
  cases r with
  | nil => trivial
  | cons c C =>
    refine ⟨fun q => ?_, k⟩
    rcases h with h | h
    · exact h q.1
    · exact h c C rfl q.2.1
theorem slideGo_no : ∀ (r : Row) (a : Part), noSl (a :: r) → slideGo a r = (a :: r, false)
  | [], a, _ => by simp [slideGo]
  | [b], a, _ => by simp [slideGo]
  | b :: c :: C, a, h => by rw [sg_n h.1, slideGo_no (c :: C) b h.2]
theorem slideGo_yes : ∀ (r : Row) (a : Part), ¬ noSl (a :: r) → (slideGo a r).2 = true
  | [], a, h => absurd trivial h
  | [b], a, h => absurd trivial h
  | b :: c :: C, a, h => by
    by_cases g : sc a b c
    · obtain ⟨h0, h1, h2⟩ := g
      by_cases hl : ends b.2 a.2
      · rw [sg_l h0 h1 hl]
      · rcases h2 with h2 | h2
        · exact absurd h2 hl
        · rw [sg_r h0 h1 hl h2]
    · rw [sg_n g]
      exact slideGo_yes (c :: C) b fun q => h ⟨g, q⟩
theorem slide_no {r : Row} (h : noSl r) : slide r = (r, false) := by
  cases r with
  | nil => rfl
  | cons a r => exact slideGo_no r a h
theorem slide_yes {r : Row} (h : ¬ noSl r) : (slide r).2 = true := by
  cases r with
  | nil => exact absurd trivial h
  | cons a r => exact slideGo_yes r a h
theorem slide_iff {r : Row} : (slide r).2 = false ↔ noSl r := by
  constructor
  · intro h
    by_cases g : noSl r
    · exact g
    · rw [slide_yes g] at h; cases h
  · intro h; rw [slide_no h]

/-- a slide's way: by cases -/
theorem slideGo_ind {M : Part → Row → Row × Bool → Prop} (h0 : ∀ a, M a [] ([a], false)) (h1 : ∀ a b, M a [b] ([a, b], false))
    (hl : ∀ a b c C x, a.1 = 0 → c.1 = 0 → ends b.2 a.2 → M (c.1, a.2 ++ c.2) C x → M a (b :: c :: C) ((b.1, a.2 ++ b.2.take (b.2.length - a.2.length)) :: x.1, true))
    (hr : ∀ a b c C x, a.1 = 0 → c.1 = 0 → starts b.2 c.2 → M (b.1, b.2.drop c.2.length ++ c.2) C x → M a (b :: c :: C) ((a.1, a.2 ++ c.2) :: x.1, true))
    (hn : ∀ a b c C x, M b (c :: C) x → M a (b :: c :: C) (a :: x.1, x.2)) : ∀ (r : Row) (a : Part), M a r (slideGo a r)
  | [], a => by rw [show slideGo a [] = ([a], false) by simp [slideGo]]; exact h0 a
  | [b], a => by rw [show slideGo a [b] = ([a, b], false) by simp [slideGo]]; exact h1 a b
  | b :: c :: C, a => by
    by_cases g : sc a b c
    · obtain ⟨g0, g1, g2⟩ := g
      by_cases q : ends b.2 a.2
      · rw [sg_l g0 g1 q]
        exact hl a b c C _ g0 g1 q (slideGo_ind h0 h1 hl hr hn C _)
      · rcases g2 with g2 | g2
        · exact absurd g2 q
        · rw [sg_r g0 g1 q g2]
          exact hr a b c C _ g0 g1 g2 (slideGo_ind h0 h1 hl hr hn C _)
    · rw [sg_n g]
      exact hn a b c C _ (slideGo_ind h0 h1 hl hr hn (c :: C) b)
theorem slide_ind {M : Row → Row × Bool → Prop} (h : M [] ([], false)) (k : ∀ r a, M (a :: r) (slideGo a r)) (r : Row) : M r (slide r) := by
  cases r with
  | nil => exact h
  | cons a r => exact k r a
theorem side_slide (k : Int) (r : Row) : side k (slide r).1 = side k r := by
  refine slide_ind (M := fun r x => side k x.1 = side k r) rfl (slideGo_ind (M := fun a r x => side k x.1 = side k (a :: r)) (fun _ => rfl) (fun _ _ => rfl) ?_ ?_ ?_) r
  · rintro ⟨ka, x⟩ ⟨j, y⟩ ⟨kc, z⟩ C X h0 h1 h ih
    dsimp only at h0 h1 h ih ⊢
    subst h0; subst h1
    obtain ⟨w, rfl⟩ := ends_iff.mp h
    rw [side, ih]
    simp only [side]
    rw [List.length_append, Nat.add_sub_cancel, List.take_left' rfl]
    by_cases q : j = 0 ∨ j = k
    · simp [q]
    · simp [q]
  · rintro ⟨ka, x⟩ ⟨j, y⟩ ⟨kc, z⟩ C X h0 h1 h ih
    dsimp only at h0 h1 h ih ⊢
    subst h0; subst h1
    obtain ⟨w, rfl⟩ := starts_iff.mp h
    rw [side, ih]
    simp only [side]
    rw [List.drop_left' rfl]
    by_cases q : j = 0 ∨ j = k
    · simp [q]
    · simp [q]
  · intro a b c C X ih
    show (if a.1 = 0 ∨ a.1 = k then a.2 else []) ++ side k X.1 = (if a.1 = 0 ∨ a.1 = k then a.2 else []) ++ side k (b :: c :: C)
    rw [ih]
theorem turned_slide (r : Row) : turned (slide r).1 = turned r := by
  refine slide_ind (M := fun r x => turned x.1 = turned r) rfl (slideGo_ind (M := fun a r x => turned x.1 = turned (a :: r)) (fun _ => rfl) (fun _ _ => rfl) ?_ ?_ ?_) r
  · rintro ⟨ka, x⟩ ⟨j, y⟩ ⟨kc, z⟩ C X h0 h1 h ih
    dsimp only at h0 h1 h ih ⊢
    subst h0; subst h1
    obtain ⟨w, rfl⟩ := ends_iff.mp h
    rw [turned, ih]
    simp only [turned]
    rw [List.length_append (as := w), Nat.add_sub_cancel, List.take_left' rfl]
    by_cases q : j = 0 <;> simp [q]; omega
  · rintro ⟨ka, x⟩ ⟨j, y⟩ ⟨kc, z⟩ C X h0 h1 h ih
    dsimp only at h0 h1 h ih ⊢
    subst h0; subst h1
    obtain ⟨w, rfl⟩ := starts_iff.mp h
    rw [turned, ih]
    simp only [turned]
    rw [List.drop_left' rfl]
    by_cases q : j = 0 <;> simp [q]; omega
  · intro a b c C X ih
    show (if a.1 = 0 then 0 else a.2.length) + turned X.1 = (if a.1 = 0 then 0 else a.2.length) + turned (b :: c :: C)
    rw [ih]
theorem ne_slide {r : Row} (hN : NE r) : NE (slide r).1 := by
  refine slide_ind (M := fun r x => NE r → NE x.1) (fun h => h) (slideGo_ind (M := fun a r x => NE (a :: r) → NE x.1) (fun _ h => h) (fun _ _ h => h) ?_ ?_ ?_) r hN
  · intro a b c C x h0 h1 h ih hN
    have hb : b.2 ≠ [] := hN.tail.head
    have ha : a.2 ≠ [] := hN.head
    exact .cons (by simp [ha]) (ih (.cons (by simp [ha]) hN.tail.tail.tail))
  · intro a b c C x h0 h1 h ih hN
    have hc : c.2 ≠ [] := hN.tail.tail.head
    exact .cons (by simp [hc]) (ih (.cons (by simp [hc]) hN.tail.tail.tail))
  · intro a b c C x ih hN
    exact .cons hN.head (ih hN.tail)
theorem len_slide (r : Row) : (slide r).1.length + (if (slide r).2 then 1 else 0) ≤ r.length := by
  have z : ∀ x : Bool, (if x = true then 1 else 0) ≤ 1 := fun x => by cases x <;> simp
  refine slide_ind (M := fun r x => x.1.length + (if x.2 then 1 else 0) ≤ r.length) (by simp) (slideGo_ind (M := fun a r x => x.1.length + (if x.2 then 1 else 0) ≤ (a :: r).length) (fun _ => by simp) (fun _ _ => by simp) ?_ ?_ ?_) r
  · intro a b c C x h0 h1 h ih
    have := z x.2
    simp only [List.length_cons, if_true] at ih ⊢; omega
  · intro a b c C x h0 h1 h ih
    have := z x.2
    simp only [List.length_cons, if_true] at ih ⊢; omega
  · intro a b c C x ih
    simp only [List.length_cons] at ih ⊢; omega
end Mine
set_option autoImplicit false
set_option maxRecDepth 10000
set_option linter.unusedVariables false
namespace Mine

theorem side_ne (k : Int) : ∀ r : Row, side k (ne r) = side k r
  | [] => rfl
  | p :: r => by
    rw [ne_cons, side_append, side_ne k r, side]
    by_cases h : p.2 = []
    · rw [if_pos h, h]; simp [side]
    · rw [if_neg h, side_one]
theorem turned_ne : ∀ r : Row, turned (ne r) = turned r
  | [] => rfl
  | p :: r => by
    rw [ne_cons, turned_append, turned_ne r, turned]
    by_cases h : p.2 = []
    · rw [if_pos h, h]; simp [turned]
    · rw [if_neg h, turned]; simp [turned]
noncomputable def wt : List Seg → Nat
  | [] => 0
  | (o, n, _) :: l => o.length + n.length + wt l
noncomputable def kt : Tx → List Seg → Tx
  | k, [] => k
  | k, (_, _, k') :: l => k ++ kt k' l
noncomputable def flat : Tx → List Seg → Row
  | k, [] => [(0, k)]
  | k, (o, n, k') :: l => (0, k) :: (-1, o) :: (1, n) :: flat k' l
noncomputable def AllNT (l : List Seg) : Prop := ∀ s ∈ l, NT s.1 s.2.1
noncomputable def Full (l : List Seg) : Prop := ∀ s ∈ l, ¬ (s.1 = [] ∧ s.2.1 = [])
noncomputable def inn : List Seg → Prop
  | s :: t :: l => s.2.2 ≠ [] ∧ inn (t :: l)
  | _ => True
theorem turned_run {r : Row} (h : Run r) : turned r = (cat (-1) r).length + (cat 1 r).length := by
  induction r with
  | nil => rfl
  | cons p r ih =>
    rw [turned, cat_cons, cat_cons, ih fun q hq => h q (List.mem_cons_of_mem _ hq), List.length_append, List.length_append]
    rcases h p List.mem_cons_self with e | e <;> rw [e] <;> simp <;> omega
theorem side0_run {r : Row} (h : Run r) : side 0 r = [] := by
  induction r with
  | nil => rfl
  | cons p r ih =>
    rw [side, ih fun q hq => h q (List.mem_cons_of_mem _ hq)]
    rcases h p List.mem_cons_self with e | e <;> rw [e] <;> simp
theorem segs_wt : ∀ (r run : Row) (k : Tx), Run run → Kinds r → wt (segs k run r).2 = turned run + turned r ∧ kt (segs k run r).1 (segs k run r).2 = k ++ side 0 r
  | [], run, k, hr, _ => by
    unfold segs
    by_cases h : run = []
    · subst h; simp [wt, turned, kt, side]
    · rw [if_neg h, turned_run hr]; simp [wt, turned, kt, side]
  | (j, t) :: r, run, k, hr, hK => by
    unfold segs
    by_cases hj : j = 0
    · rw [if_pos hj]
      by_cases h : run = []
      · subst h
        rw [if_pos rfl]
        obtain ⟨a, b⟩ := segs_wt r [] (k ++ t) .nil hK.tail
        rw [a, b]; simp [turned, side, hj]
      · rw [if_neg h]
        obtain ⟨a, b⟩ := segs_wt r [] t .nil hK.tail
        rw [turned_run hr]
        dsimp only
        rw [wt, kt, a, b]; simp [turned, side, hj]
    · rw [if_neg hj]
      obtain ⟨a, b⟩ := segs_wt r (run ++ [(j, t)]) k (hr.snoc (kind_run hK.head hj)) hK.tail
      rw [a, b, turned_append]
      simp [turned, side, hj]; omega
theorem cat_full {run : Row} (hn : NE run) (hr : Run run) (h0 : run ≠ []) : ¬ (cat (-1) run = [] ∧ cat 1 run = []) := by
  cases run with
  | nil => exact absurd rfl h0
  | cons p r =>
    rintro ⟨a, b⟩
    have hp := hn.head
    rw [cat_cons] at a b
    rcases hr p List.mem_cons_self with e | e
    · rw [if_pos e] at a
      exact hp (List.append_eq_nil_iff.mp a).1
    · rw [if_pos e] at b
      exact hp (List.append_eq_nil_iff.mp b).1
theorem segs_first : ∀ (r run : Row) (k : Tx), k ≠ [] → (segs k run r).1 ≠ []
  | [], run, k, h => by unfold segs; split <;> exact h
  | (j, t) :: r, run, k, h => by
    unfold segs
    split
    · split
      · exact segs_first r _ _ (by simp [h])
      · exact h
    · exact segs_first r _ _ h
theorem segs_full : ∀ (r run : Row) (k : Tx), NE run → NE r → Run run → Kinds r → Full (segs k run r).2 ∧ inn (segs k run r).2
  | [], run, k, hn, _, hr, _ => by
    unfold segs
    by_cases h : run = []
    · rw [if_pos h]; exact ⟨fun _ h => (by cases h), trivial⟩
    · rw [if_neg h]
      refine ⟨fun s hs => ?_, trivial⟩
      rw [List.mem_singleton] at hs
      subst hs
      exact cat_full hn hr h
  | (j, t) :: r, run, k, hn, hN, hr, hK => by
    unfold segs
    by_cases hj : j = 0
    · rw [if_pos hj]
      by_cases h : run = []
      · rw [if_pos h]; exact segs_full r [] _ .nil hN.tail .nil hK.tail
      · rw [if_neg h]
        obtain ⟨a, b⟩ := segs_full r [] t .nil hN.tail .nil hK.tail
        have f := segs_first r [] t hN.head
        dsimp only
        refine ⟨fun s hs => ?_, ?_⟩
        · rcases List.mem_cons.mp hs with rfl | hs
          · exact cat_full hn hr h
          · exact a s hs
        · cases z : (segs t [] r).2 with
          | nil => trivial
          | cons y l => exact ⟨f, z ▸ b⟩
    · rw [if_neg hj]
      exact segs_full r _ k (hn.append (.cons hN.head .nil)) hN.tail (hr.snoc (kind_run hK.head hj)) hK.tail
theorem nt_len (o n : Tx) : (ro o n).length + (rn o n).length ≤ o.length + n.length ∧ ((ro o n).length + (rn o n).length = o.length + n.length → NT o n) := by
  have a := congrArg List.length (split_o o n)
  have b := congrArg List.length (split_n o n)
  simp only [List.length_append] at a b
  refine ⟨by omega, fun h => ?_⟩
  have p : pre o n = [] := List.length_eq_zero_iff.mp (by omega)
  have s : su o n = [] := List.length_eq_zero_iff.mp (by omega)
  have so := split_o o n
  have sn := split_n o n
  rw [p, s] at so sn
  exact ⟨p, by simpa using so, by simpa using sn, s⟩
theorem plainGo_turned : ∀ (l : List Seg) (k : Tx), turned (plainGo k l).1 ≤ wt l ∧ (turned (plainGo k l).1 = wt l → AllNT l)
  | [], k => ⟨by simp [plainGo, turned], fun _ _ h => by cases h⟩
  | (o, n, k') :: l, k => by
    obtain ⟨a, b⟩ := plainGo_turned l (su o n ++ k')
    obtain ⟨c, d⟩ := nt_len o n
    have e : turned (plainGo k ((o, n, k') :: l)).1 = (ro o n).length + ((rn o n).length + turned (plainGo (su o n ++ k') l).1) := by
      rw [plainGo]; simp [turned]
    rw [e, wt]
    refine ⟨by omega, fun h s hs => ?_⟩
    rcases List.mem_cons.mp hs with rfl | hs
    · exact d (by omega)
    · exact b (by omega) s hs
theorem plainGo_nt : ∀ (l : List Seg) (k : Tx), AllNT l → (plainGo k l).1 = flat k l
  | [], k, _ => rfl
  | (o, n, k') :: l, k, h => by
    have g : NT o n := h (o, n, k') List.mem_cons_self
    rw [plainGo, flat]
    dsimp only
    rw [g.p, g.eo, g.en, g.s, List.append_nil, List.nil_append, plainGo_nt l k' fun s hs => h s (List.mem_cons_of_mem _ hs)]
theorem lcp_self : ∀ x : Tx, lcp x x = x.length
  | [] => rfl
  | a :: x => by unfold lcp; rw [if_pos rfl, lcp_self x]; rfl
theorem plainGo_fell : ∀ (l : List Seg) (k : Tx), AllNT l → Full l → (plainGo k l).2 = false
  | [], k, _, _ => rfl
  | (o, n, k') :: l, k, h, f => by
    have g : NT o n := h (o, n, k') List.mem_cons_self
    have f1 := f (o, n, k') List.mem_cons_self
    rw [plainGo]
    dsimp only
    rw [plainGo_fell l _ (fun s hs => h s (List.mem_cons_of_mem _ hs)) (fun s hs => f s (List.mem_cons_of_mem _ hs)), Bool.or_false]
    refine decide_eq_false fun q => ?_
    rw [g.eo, g.en] at q
    subst q
    have p := g.p
    unfold pre at p
    rw [lcp_self, List.take_length] at p
    exact f1 ⟨p, p⟩
theorem side0_flat : ∀ (l : List Seg) (k : Tx), side 0 (flat k l) = kt k l
  | [], k => by simp [flat, side, kt]
  | (o, n, k') :: l, k => by rw [flat, kt, ← side0_flat l k']; simp [side]
theorem len_ops (o n : Tx) : (ops o n).length = (if o = [] then 0 else 1) + (if n = [] then 0 else 1) := by
  unfold ops
  split <;> split <;> simp
theorem len_run {run : Row} (hr : Run run) : (ops (cat (-1) run) (cat 1 run)).length ≤ run.length := by
  have c := run_cnt hr
  rw [len_ops]
  have a : (if cat (-1) run = [] then 0 else 1) ≤ cnt (-1) run := by
    split
    · omega
    · rename_i q; have := cat_some q; omega
  have b : (if cat 1 run = [] then 0 else 1) ≤ cnt 1 run := by
    split
    · omega
    · rename_i q; have := cat_some q; omega
  omega
theorem ne_one_len (k : Tx) : (ne [((0 : Int), k)]).length = if k = [] then 0 else 1 := by
  rw [ne_cons]; by_cases h : k = [] <;> simp [h, ne]
theorem segs_len : ∀ (r run : Row) (k : Tx), Run run → Kinds r → (ne (flat (segs k run r).1 (segs k run r).2)).length ≤ (if k = [] then 0 else 1) + run.length + r.length
  | [], run, k, hr, _ => by
    unfold segs
    by_cases h : run = []
    · rw [if_pos h]; dsimp only; rw [flat, ne_one_len]; omega
    · rw [if_neg h]
      dsimp only
      rw [flat, flat, ne_four, List.length_append, List.length_append, ne_one_len, ne_one_len]
      have := len_run hr
      simp only [if_true, List.length_nil]; omega
  | (j, t) :: r, run, k, hr, hK => by
    unfold segs
    by_cases hj : j = 0
    · rw [if_pos hj]
      by_cases h : run = []
      · subst h
        rw [if_pos rfl]
        have := segs_len r [] (k ++ t) .nil hK.tail
        simp only [List.length_nil, List.length_cons] at this ⊢
        have z : (if k ++ t = [] then 0 else 1) ≤ (if k = [] then 0 else 1) + 1 := by split <;> split <;> omega
        omega
      · rw [if_neg h]
        have := segs_len r [] t .nil hK.tail
        dsimp only
        rw [flat, ne_four, List.length_append, List.length_append, ne_one_len]
        have g := len_run hr
        have z : (if t = [] then 0 else 1) ≤ 1 := by split <;> omega
        simp only [List.length_nil, List.length_cons] at this ⊢
        omega
    · rw [if_neg hj]
      have := segs_len r (run ++ [(j, t)]) k (hr.snoc (kind_run hK.head hj)) hK.tail
      simp only [List.length_append, List.length_cons, List.length_nil] at this ⊢
      omega
/-- a plain merge turns no more; where it turns as much, nothing moved -/
theorem plain_turned {r : Row} (hN : NE r) (hK : Kinds r) : turned (plainR r) ≤ turned r ∧ (turned (plainR r) = turned r → fell r = false ∧ side 0 (plainR r) = side 0 r ∧ (plainR r).length ≤ r.length) := by
  obtain ⟨a, b⟩ := segs_wt r [] [] .nil hK
  obtain ⟨c, d⟩ := plainGo_turned (segs [] [] r).2 (segs [] [] r).1
  obtain ⟨e, f⟩ := segs_full r [] [] .nil hN .nil hK
  rw [a] at c d
  unfold plainR fell
  rw [turned_ne]
  simp only [turned, Nat.zero_add] at c d
  refine ⟨c, fun h => ?_⟩
  have g := d h
  refine ⟨plainGo_fell _ _ g e, ?_, ?_⟩
  · rw [side_ne, plainGo_nt _ _ g, side0_flat, b]; rfl
  · rw [plainGo_nt _ _ g]
    have := segs_len r [] [] .nil hK
    simpa using this
/-- kinds that differ -/
noncomputable def kd (a b : Part) : Prop := a.1 ≠ b.1
theorem plainGo_alike : ∀ (l : List Seg) (k : Tx), inn l → (plainGo k l).2 = false → adj kd (ne (plainGo k l).1) ∧ (k ≠ [] ∨ l = [] → ∀ b B, ne (plainGo k l).1 = b :: B → b.1 = 0)
  | [], k, _, _ => by
    rw [plainGo, ne_cons]
    by_cases h : k = []
    · rw [if_pos h]; exact ⟨trivial, fun _ b B e => by cases e⟩
    · rw [if_neg h]; exact ⟨trivial, fun _ b B e => by cases e; rfl⟩
  | (o, n, k') :: l, k, hi, hf => by
    rw [plainGo] at hf ⊢
    dsimp only at hf ⊢
    rw [Bool.or_eq_false_iff] at hf
    have hi' : inn l := by
      cases l with
      | nil => trivial
      | cons s l => exact hi.2
    obtain ⟨a, b⟩ := plainGo_alike l (su o n ++ k') hi' hf.2
    have b' := b (by
      cases l with
      | nil => exact .inr rfl
      | cons s l => left; have := hi.1; simp only [] at this; simp [this])
    have hd : ro o n ≠ rn o n := of_decide_eq_false hf.1
    rw [ne_four]
    generalize ne (plainGo (su o n ++ k') l).1 = X at *
    have kX : ∀ p : Part, p.1 ≠ 0 → adj kd (p :: X) := fun p hp => by
      cases X with
      | nil => trivial
      | cons x X => exact ⟨fun q => hp (q.trans (b' x X rfl)), a⟩
    have k1 : (1 : Int) ≠ 0 := by decide
    have km : (-1 : Int) ≠ 0 := by decide
    have k2 : (-1 : Int) ≠ 1 := by decide
    have oX : adj kd (ops (ro o n) (rn o n) ++ X) ∧ ∀ p : Part, p.1 = 0 → adj kd (p :: (ops (ro o n) (rn o n) ++ X)) := by
      unfold ops
      by_cases h1 : ro o n = []
      · by_cases h2 : rn o n = []
        · exact absurd (h1.trans h2.symm) hd
        · rw [if_pos h1, if_neg h2]
          exact ⟨kX (1, rn o n) k1, fun p hp => ⟨fun q => k1 (q.symm.trans hp), kX (1, rn o n) k1⟩⟩
      · by_cases h2 : rn o n = []
        · rw [if_pos h2, if_neg h1]
          exact ⟨kX (-1, ro o n) km, fun p hp => ⟨fun q => km (q.symm.trans hp), kX (-1, ro o n) km⟩⟩
        · rw [if_neg h1, if_neg h2]
          exact ⟨⟨fun q => k2 q, kX (1, rn o n) k1⟩, fun p hp => ⟨fun q => km (q.symm.trans hp), fun q => k2 q, kX (1, rn o n) k1⟩⟩
    rw [ne_cons]
    by_cases h : k ++ pre o n = []
    · rw [if_pos h]
      refine ⟨oX.1, fun q => ?_⟩
      rcases q with q | q
      · exact absurd (List.append_eq_nil_iff.mp h).1 q
      · cases q
    · rw [if_neg h]
      exact ⟨oX.2 _ rfl, fun _ b B e => by cases e; rfl⟩
theorem plain_alike {r : Row} (hN : NE r) (hK : Kinds r) (h : fell r = false) : adj kd (plainR r) :=
  (plainGo_alike _ _ (segs_full r [] [] .nil hN .nil hK).2 h).1
end Mine
set_option autoImplicit false
set_option maxRecDepth 10000
set_option linter.unusedVariables false
namespace Mine

theorem lcp_heads {a b : Tx} (h : b.head? ≠ a.head?) : lcp a b = 0 := by
  cases a with
  | nil => exact lcp_nil_l _
  | cons x a => cases b with
    | nil => exact lcp_nil_r _
    | cons y b =>
      unfold lcp
      rw [if_neg fun q => h (by subst q; rfl)]
theorem good_nt {o n : Tx} (h : Good2 o n) : NT o n := by
  refine nt_of (lcp_heads h.h) ?_
  unfold lcs
  refine lcp_heads ?_
  rw [List.head?_reverse, List.head?_reverse]; exact h.l
theorem run_gp {run : Row} (hr : Run run) (h : adj gp run) (hn : NE run) : NT (cat (-1) run) (cat 1 run) ∧ ops (cat (-1) run) (cat 1 run) = run ∧ run.length ≤ 2 := by
  match run, hr, h, hn with
  | [], _, _, _ => exact ⟨nt_empty (.inl rfl), rfl, by simp⟩
  | [p], hr, _, hn =>
    have hp := hn.head
    rcases hr p List.mem_cons_self with e | e
    · have c1 : cat (-1) [p] = p.2 := by rw [cat_one, if_pos e]
      have c2 : cat 1 [p] = [] := by rw [cat_one, if_neg (by rw [e]; decide)]
      rw [c1, c2]
      refine ⟨nt_empty (.inr rfl), ?_, by simp⟩
      unfold ops
      rw [if_neg hp, ← e]; simp
    · have c1 : cat (-1) [p] = [] := by rw [cat_one, if_neg (by rw [e]; decide)]
      have c2 : cat 1 [p] = p.2 := by rw [cat_one, if_pos e]
      rw [c1, c2]
      refine ⟨nt_empty (.inl rfl), ?_, by simp⟩
      unfold ops
      rw [if_neg hp, ← e]; simp
  | [p, q], hr, h, hn =>
    have n0 : ∀ x ∈ [p, q], x.1 ≠ 0 := fun x hx => by rcases hr x hx with e | e <;> rw [e] <;> decide
    obtain ⟨e1, e2, h1, h2, g⟩ := h.1 (n0 p (by simp)) (n0 q (by simp))
    have c1 : cat (-1) [p, q] = p.2 := by rw [cat_cons, cat_one, if_pos e1, if_neg (by rw [e2]; decide), List.append_nil]
    have c2 : cat 1 [p, q] = q.2 := by rw [cat_cons, cat_one, if_neg (by rw [e1]; decide), if_pos e2]; rfl
    rw [c1, c2]
    refine ⟨good_nt g, ?_, by simp⟩
    unfold ops
    rw [if_neg h1, if_neg h2, ← e1, ← e2]; rfl
  | p :: q :: s :: l, hr, h, _ =>
    have n0 : ∀ x ∈ [p, q, s], x.1 ≠ 0 := fun x hx => by
      have : x ∈ p :: q :: s :: l := by simp only [List.mem_cons] at hx ⊢; rcases hx with h | h | h | h <;> simp_all
      rcases hr x this with e | e <;> rw [e] <;> decide
    have a := (h.1 (n0 p (by simp)) (n0 q (by simp))).2.1
    have b := (h.2.1 (n0 q (by simp)) (n0 s (by simp))).1
    rw [a] at b; cases b
theorem segs_gp : ∀ (r run : Row) (k : Tx), NE run → NE r → Run run → Kinds r → adj gp (run ++ r) → AllNT (segs k run r).2
  | [], run, k, hn, _, hr, _, h => by
    unfold segs
    split
    · exact fun _ h => by cases h
    · intro s hs
      rw [List.mem_singleton] at hs
      subst hs
      exact (run_gp hr (adj_left h) hn).1
  | (j, t) :: r, run, k, hn, hN, hr, hK, h => by
    unfold segs
    by_cases hj : j = 0
    · rw [if_pos hj]
      have hR : adj gp r := adj_tail (adj_right h)
      split
      · exact segs_gp r [] _ .nil hN.tail .nil hK.tail hR
      · intro s hs
        rcases List.mem_cons.mp hs with rfl | hs
        · exact (run_gp hr (adj_left h) hn).1
        · exact segs_gp r [] t .nil hN.tail .nil hK.tail hR s hs
    · rw [if_neg hj]
      exact segs_gp r _ k (hn.append (.cons hN.head .nil)) hN.tail (hr.snoc (kind_run hK.head hj)) hK.tail (by rw [List.append_assoc]; exact h)
theorem ne_one {k : Tx} (h : k ≠ []) : ne [((0 : Int), k)] = [(0, k)] := by rw [ne_cons, if_neg h]; rfl
theorem ne_none : ne [((0 : Int), ([] : Tx))] = [] := rfl
theorem segs_same : ∀ (r run : Row) (k : Tx), NE run → NE r → Run run → Kinds r → adj gp (run ++ r) → adj kd (ne [(0, k)] ++ (run ++ r)) → ne (flat (segs k run r).1 (segs k run r).2) = ne [(0, k)] ++ (run ++ r)
  | [], run, k, hn, _, hr, _, h, _ => by
    unfold segs
    by_cases q : run = []
    · subst q; rw [if_pos rfl]; simp [flat]
    · rw [if_neg q]
      dsimp only
      rw [flat, flat, ne_four, (run_gp hr (adj_left h) hn).2.1, ne_none]
  | (j, t) :: r, run, k, hn, hN, hr, hK, h, hk => by
    unfold segs
    by_cases hj : j = 0
    · subst hj
      rw [if_pos rfl]
      have hR : adj gp r := adj_tail (adj_right h)
      have hR2 : adj kd (ne [(0, t)] ++ ([] ++ r)) := by
        rw [ne_one hN.head]
        exact adj_right (adj_right hk)
      have ih := segs_same r [] t .nil hN.tail .nil hK.tail hR hR2
      rw [ne_one hN.head] at ih
      by_cases q : run = []
      · subst q
        rw [if_pos rfl]
        by_cases hk0 : k = []
        · subst hk0
          rw [ne_none, List.nil_append, List.nil_append]
          exact ih
        · rw [ne_one hk0] at hk
          exact absurd rfl hk.1
      · rw [if_neg q]
        dsimp only
        rw [flat, ne_four, (run_gp hr (adj_left h) hn).2.1, ih]; rfl
    · rw [if_neg hj]
      have e : run ++ [(j, t)] ++ r = run ++ (j, t) :: r := by simp
      have := segs_same r (run ++ [(j, t)]) k (hn.append (.cons hN.head .nil)) hN.tail (hr.snoc (kind_run hK.head hj)) hK.tail (by rw [e]; exact h) (by rw [e]; exact hk)
      rw [this, e]
theorem segs_grow (r : Row) (t : Tx) : ∃ w, (segs t [] r).1 = t ++ w := by
  have := segs_shift t r [] []
  rw [List.append_nil] at this
  exact ⟨_, congrArg (·.1) this⟩
theorem flat_cons (l : List Seg) {k : Tx} (h : k ≠ []) : ∃ X, ne (flat k l) = (0, k) :: X := by
  cases l with
  | nil => exact ⟨[], ne_one h⟩
  | cons s l =>
    obtain ⟨o, n, k'⟩ := s
    rw [flat, ne_four, ne_one h]
    exact ⟨_, rfl⟩
theorem sc_less {k0 x t w : Tx} {p : Part} (h : sc (0, k0 ++ x) p (0, t ++ w)) : sc (0, x) p (0, t) := by
  refine ⟨rfl, rfl, ?_⟩
  rcases h.2.2 with h | h
  · left
    obtain ⟨v, e⟩ := ends_iff.mp h
    exact ends_iff.mpr ⟨v ++ k0, by rw [e]; simp⟩
  · right
    obtain ⟨v, e⟩ := starts_iff.mp h
    exact starts_iff.mpr ⟨w ++ v, by rw [e]; simp⟩
theorem noSl_right : ∀ {A B : Row}, noSl (A ++ B) → noSl B
  | [], _, h => h
  | a :: A, B, h => noSl_right (A := A) (noSl_tail h)
/-- joining kept neighbours makes no slide -/
theorem segs_noSl : ∀ (r run : Row) (k0 x : Tx), NE run → NE r → Run run → Kinds r → adj gp (run ++ r) → (x = [] → k0 = []) → noSl (ne [(0, x)] ++ (run ++ r)) → noSl (ne (flat (segs (k0 ++ x) run r).1 (segs (k0 ++ x) run r).2))
  | [], run, k0, x, hn, _, hr, _, h, hx, hs => by
    unfold segs
    by_cases q : run = []
    · subst q; rw [if_pos rfl]
      show noSl (ne [(0, k0 ++ x)])
      rw [ne_cons]; split <;> trivial
    · rw [if_neg q]
      dsimp only
      obtain ⟨_, e, l⟩ := run_gp hr (adj_left h) hn
      rw [flat, flat, ne_four, e, ne_none, List.append_nil]
      have n0 : ∀ p ∈ run, p.1 ≠ 0 := fun p hp => by rcases hr p hp with e | e <;> rw [e] <;> decide
      rw [ne_cons]
      match run, l, n0 with
      | [], _, _ => split <;> trivial
      | [p], _, _ => split <;> trivial
      | [p, s], _, n0 =>
        split
        · trivial
        · exact ⟨fun z => n0 s (by simp) z.2.1, trivial⟩
      | _ :: _ :: _ :: _, l, _ => simp at l
  | (j, t) :: r, run, k0, x, hn, hN, hr, hK, h, hx, hs => by
    unfold segs
    by_cases hj : j = 0
    · subst hj
      have ht : t ≠ [] := hN.head
      rw [if_pos rfl]
      have hR : adj gp r := adj_tail (adj_right h)
      have hS : noSl (ne [(0, t)] ++ ([] ++ r)) := by rw [ne_one ht]; exact noSl_right (noSl_right hs)
      by_cases q : run = []
      · subst q
        rw [if_pos rfl]
        exact segs_noSl r [] (k0 ++ x) t .nil hN.tail .nil hK.tail hR (fun z => absurd z ht) hS
      · rw [if_neg q]
        dsimp only
        obtain ⟨_, e, l⟩ := run_gp hr (adj_left h) hn
        have ih := segs_noSl r [] [] t .nil hN.tail .nil hK.tail hR (fun _ => rfl) hS
        rw [List.nil_append] at ih
        rw [flat, ne_four, e]
        obtain ⟨w, ew⟩ := segs_grow r t
        obtain ⟨X, eX⟩ := flat_cons (segs t [] r).2 (segs_first r [] t ht)
        rw [eX] at ih ⊢
        rw [ew] at ih ⊢
        have n0 : ∀ p ∈ run, p.1 ≠ 0 := fun p hp => by rcases hr p hp with e | e <;> rw [e] <;> decide
        match run, q, l, n0, hs with
        | [], q, _, _, _ => exact absurd rfl q
        | [p], _, _, n0, hs =>
          have hp := n0 p (by simp)
          have r1 : noSl (p :: (0, t ++ w) :: X) := noSl_far (.inl hp) ih
          by_cases hk : k0 ++ x = []
          · rw [hk]; exact r1
          · rw [ne_one hk]
            have hxn : x ≠ [] := fun z => hk (by rw [z, hx z]; rfl)
            rw [ne_one hxn] at hs
            exact ⟨fun z => hs.1 (sc_less z), r1⟩
        | [p, s], _, _, n0, hs =>
          have hp := n0 p (by simp)
          have hq := n0 s (by simp)
          have r1 : noSl (p :: s :: (0, t ++ w) :: X) := noSl_far (.inl hp) (noSl_far (.inl hq) ih)
          by_cases hk : k0 ++ x = []
          · rw [hk]; exact r1
          · rw [ne_one hk]
            exact noSl_far (.inr fun c C e => by cases e; exact hq) r1
        | _ :: _ :: _ :: _, _, l, _, _ => simp at l
    · rw [if_neg hj]
      have e : run ++ [(j, t)] ++ r = run ++ (j, t) :: r := by simp
      exact segs_noSl r (run ++ [(j, t)]) k0 x (hn.append (.cons hN.head .nil)) hN.tail (hr.snoc (kind_run hK.head hj)) hK.tail (by rw [e]; exact h) hx (by rw [e]; exact hs)

/-- a grouped row under a plain merge -/
theorem plain_grouped {C : Row} (hN : NE C) (hK : Kinds C) (h : adj gp C) : fell C = false ∧ (adj kd C → plainR C = C) ∧ (noSl C → noSl (plainR C)) := by
  have a := segs_gp C [] [] .nil hN .nil hK h
  have b := (segs_full C [] [] .nil hN .nil hK).1
  unfold fell plainR
  rw [plainGo_nt _ _ a]
  exact ⟨plainGo_fell _ _ a b, fun k => segs_same C [] [] .nil hN .nil hK h k, fun k => segs_noSl C [] [] [] .nil hN .nil hK h (fun _ => rfl) k⟩

/-- any row cleaned -/
theorem clean_any : ∀ (n : Nat) (r : Row), Kinds r → phi r < n → Kinds (cleanN n r) ∧ adj gp (cleanN n r) ∧ noSl (cleanN n r) ∧ phi (cleanN n r) ≤ phi r ∧ ∀ k : Int, k = -1 ∨ k = 1 → side k (cleanN n r) = side k r
  | 0, r, _, h => absurd h (Nat.not_lt_zero _)
  | n + 1, r, hK, h => by
    have hM := phi_merge r
    have hk : Kinds (popE (merge r)) := kinds_popE _ (kinds_mergeGo _ _ _ .nil .nil (hK.append (.cons (.inr (.inl rfl)) .nil)))
    have hs := phi_slide (popE (merge r))
    rw [cleanN]
    by_cases g : noSl (popE (merge r))
    · rw [slide_no g, if_neg (by simp)]
      exact ⟨hk, adj_merge r, g, hM, fun k hk => side_merge hk hK⟩
    · have y := slide_yes g
      rw [if_pos y]
      rw [if_pos y] at hs
      obtain ⟨a, b, c, d, e⟩ := clean_any n (slide (popE (merge r))).1 (kinds_slide hk) (by omega)
      exact ⟨a, b, c, by omega, fun k q => by rw [e k q, side_slide, side_merge q hK]⟩
/-- a row without empty texts cleaned -/
theorem clean_ne : ∀ (n : Nat) (r : Row), NE r → Kinds r → phi r < n → NE (cleanN n r) ∧ turned (cleanN n r) ≤ turned (plainR r) ∧ (noSl (plainR r) → cleanN n r = plainR r) ∧
    (turned (cleanN n r) = turned (plainR r) → side 0 (cleanN n r) = side 0 (plainR r) ∧ (fell r = false → adj kd (cleanN n r)) ∧ (cleanN n r).length ≤ (plainR r).length ∧ (¬ noSl (plainR r) → (cleanN n r).length < (plainR r).length))
  | 0, r, _, _, h => absurd h (Nat.not_lt_zero _)
  | n + 1, r, hN, hK, h => by
    have hM := phi_merge r
    have hs := phi_slide (popE (merge r))
    have hk : Kinds (popE (merge r)) := kinds_popE _ (kinds_mergeGo _ _ _ .nil .nil (hK.append (.cons (.inr (.inl rfl)) .nil)))
    have e := merge_is_plain hN hK
    rw [e] at hM hs hk
    have hR : NE (plainR r) := ne_ne _
    rw [cleanN, e]
    by_cases g : noSl (plainR r)
    · rw [slide_no g, if_neg (by simp)]
      exact ⟨hR, Nat.le_refl _, fun _ => rfl, fun _ => ⟨rfl, plain_alike hN hK, Nat.le_refl _, fun q => absurd g q⟩⟩
    · have y := slide_yes g
      rw [if_pos y]
      rw [if_pos y] at hs
      have hN' := ne_slide hR
      have hK' := kinds_slide hk
      obtain ⟨a, b, c, d⟩ := clean_ne n (slide (plainR r)).1 hN' hK' (by omega)
      obtain ⟨t1, t2⟩ := plain_turned hN' hK'
      have ts := turned_slide (plainR r)
      have ls := len_slide (plainR r)
      rw [if_pos y] at ls
      refine ⟨a, by omega, fun q => absurd q g, fun q => ?_⟩
      obtain ⟨f1, f2, f3⟩ := t2 (by omega)
      obtain ⟨g1, g2, g3, g4⟩ := d (by omega)
      exact ⟨by rw [g1, f2, side_slide], fun _ => g2 f1, by omega, fun _ => by omega⟩
/-- what is clean and has no alike neighbours stands -/
theorem clean_again {C : Row} {n : Nat} (hN : NE C) (hK : Kinds C) (h : adj gp C) (hs : noSl C) (hk : adj kd C) (hn : phi C < n) : cleanN n C = C := by
  cases n with
  | zero => exact absurd hn (Nat.not_lt_zero _)
  | succ n =>
    rw [cleanN, merge_is_plain hN hK, (plain_grouped hN hK h).2.1 hk, slide_no hs]; rfl
end Mine
set_option autoImplicit false
set_option maxRecDepth 10000
set_option linter.unusedVariables false
set_option linter.unusedSimpArgs false
namespace Mine
open PySem PyProof.Rows PySem.W

noncomputable def m_diff_commonPrefixCells : List PySem.Str := []
noncomputable def m_diff_commonSuffixCells : List PySem.Str := []
theorem clip_nn {n : Nat} {i : Nat} : clip n (i : Int) = min i n := by
  unfold clip clipAt; split <;> omega
theorem clip_neg {n : Nat} {i : Nat} (h : 0 < i) (h2 : i ≤ n) : clip n (-(i : Int)) = n - i := by
  unfold clip clipAt; split <;> omega

theorem pySl_nn {α : Type} (xs : List α) {a b : Nat} (h1 : a ≤ b) (h2 : b ≤ xs.length) : pySl xs (some (a : Int)) (some (b : Int)) = (xs.drop a).take (b - a) := by
  unfold pySl slLo slHi
  simp only [Option.elim, clip_nn]
  rw [Nat.min_eq_left h2, Nat.min_eq_left (Nat.le_trans h1 h2)]
theorem pySl_to {α : Type} (xs : List α) {b : Nat} (h2 : b ≤ xs.length) : pySl xs none (some (b : Int)) = xs.take b := by
  unfold pySl slLo slHi
  simp only [Option.elim, clip_nn]
  rw [Nat.min_eq_left h2]; simp
theorem pySl_from {α : Type} (xs : List α) {a : Nat} (h2 : a ≤ xs.length) : pySl xs (some (a : Int)) none = xs.drop a := by
  unfold pySl slLo slHi
  simp only [Option.elim, clip_nn]
  rw [Nat.min_eq_left h2]; exact List.take_of_length_le (by simp)

/-- with equal heads: more head is equal, or the piece behind it is -/
theorem piece_iff {a b : Tx} {k l : Nat} (h : k ≤ l) (hk : a.take k = b.take k) : ((a.drop k).take (l - k) = (b.drop k).take (l - k)) ↔ a.take l = b.take l := by
  have e : ∀ x : Tx, x.take l = x.take k ++ (x.drop k).take (l - k) := fun x => by
    rw [← List.take_add]; congr 1; omega
  rw [e a, e b, hk]
  exact ⟨fun q => by rw [q], fun q => List.append_cancel_left q⟩

noncomputable def m_diff_commonPrefixPs : List PySem.Str := ["self", "text1", "text2"]
noncomputable def m_diff_commonPrefixRest : List PySem.Str := ["pointermin", "pointermax", "pointermid", "pointerstart"]
noncomputable def m_diff_commonPrefixNames : List (PySem.Str × NameKind) := [("min", .globalImplicit), ("len", .globalImplicit)]
noncomputable def m_diff_commonPrefixBody : List Sm := [
    .ife (.bor [.not (.var 1), .not (.var 2), .cmp (.idx (.var 1) (.lit (.int 0))) [.NotEq] [.idx (.var 2) (.lit (.int 0))]]) [
      .ret (.lit (.int 0))] [],
    .assign [.var 3] (.lit (.int 0)),
    .assign [.var 4] (.bi .min [.bi .len [.var 1], .bi .len [.var 2]]),
    .assign [.var 5] (.var 4),
    .assign [.var 6] (.lit (.int 0)),
    .whl (.cmp (.var 3) [.Lt] [.var 5]) [
      .ife (.cmp (.slc (.var 1) (.var 6) (.var 5) (.lit .none)) [.Eq] [.slc (.var 2) (.var 6) (.var 5) (.lit .none)]) [
        .assign [.var 3] (.var 5),
        .assign [.var 6] (.var 3)] [
        .assign [.var 4] (.var 5)],
      .assign [.var 5] (.bin .Add (.bin .FloorDiv (.bin .Sub (.var 4) (.var 3)) (.lit (.int 2))) (.var 3))],
    .ret (.var 5)]

/-- the state of the search by halves -/
structure Half (N L pmin pmax pmid : Nat) : Prop where
  a : pmin ≤ L
  b : pmin ≤ pmid
  c : pmid ≤ pmax
  d : pmax ≤ N
  e : L ≤ pmax
  f : pmid = pmax ∨ (L < pmax ∧ pmid = (pmax - pmin) / 2 + pmin)

theorem pyGet_nn {α : Type} (xs : List α) (i : Nat) (h : i < xs.length) : pyGet xs (i : Int) = xs[i]? := by
  unfold pyGet
  have : seqIndex? (i : Int) xs.length = some i := by
    unfold seqIndex?
    have e : (if (i : Int) < 0 then (i : Int) + xs.length else (i : Int)) = i := if_neg (by omega)
    simp only [e]
    rw [if_pos (by simp; omega)]; simp
  rw [this]; rfl
theorem pyGet_last {α : Type} (xs : List α) (h : 0 < xs.length) : pyGet xs (-1) = xs[xs.length - 1]? := by
  unfold pyGet
  have : seqIndex? (-1) xs.length = some (xs.length - 1) := by
    unfold seqIndex?
    have e : (if (-1 : Int) < 0 then (-1 : Int) + xs.length else (-1 : Int)) = ((xs.length - 1 : Nat) : Int) := by rw [if_pos (by omega)]; omega
    simp only [e]
    rw [if_pos (by simp; omega)]; simp
  rw [this]; rfl
theorem half_out {N L pmin pmax pmid : Nat} (h : Half N L pmin pmax pmid) (e : pmid ≤ pmin) : pmid = L := by
  obtain ⟨a, b, c, d, e', f⟩ := h
  omega
theorem half_up {N L pmin pmax pmid : Nat} (h : Half N L pmin pmax pmid) (e : pmin < pmid) (g : pmid ≤ L) : Half N L pmid pmax ((pmax - pmid) / 2 + pmid) ∧ 2 * (pmax - pmid) + (if (pmax - pmid) / 2 + pmid = pmax then 1 else 0) < 2 * (pmax - pmin) + (if pmid = pmax then 1 else 0) := by
  obtain ⟨a, b, c, d, e', f⟩ := h
  refine ⟨⟨by omega, by omega, by omega, by omega, by omega, by omega⟩, ?_⟩
  split <;> split <;> omega
theorem half_down {N L pmin pmax pmid : Nat} (h : Half N L pmin pmax pmid) (e : pmin < pmid) (g : ¬ pmid ≤ L) : Half N L pmin pmid ((pmid - pmin) / 2 + pmin) ∧ 2 * (pmid - pmin) + (if (pmid - pmin) / 2 + pmin = pmid then 1 else 0) < 2 * (pmax - pmin) + (if pmid = pmax then 1 else 0) := by
  obtain ⟨a, b, c, d, e', f⟩ := h
  refine ⟨⟨by omega, by omega, by omega, by omega, by omega, by omega⟩, ?_⟩
  split <;> split <;> omega

theorem min_nat (a b : Nat) : (if (b : Int) < (a : Int) then (b : Int) else (a : Int)) = ((min a b : Nat) : Int) := by split <;> omega
theorem half_mid {a b : Nat} (h : b ≤ a) : ((a : Int) - (b : Int)) / 2 + (b : Int) = (((a - b) / 2 + b : Nat) : Int) := by omega

theorem w_commonPrefix (P : PC) (self : V) (a b : Tx) (m : Mem) (ha : small a.length) (hb : small b.length) (Q : V → Mem → Prop) (q : Q (.int (lcp a b)) m) :
    wpSs P m_diff_commonPrefixBody (fun fl σ' => Q (retV fl) σ'.mem) ⟨[self, .str a, .str b].map some ++ List.replicate 4 none, m⟩ := by
  unfold m_diff_commonPrefixBody
  simp only [r_lit, r_var, r_bin, r_neg, r_not, r_list, r_tup, r_cmp, r_band, r_bor, r_idx, r_slc, r_attr, r_bi, r_call, r_me, r_imeth, r_comp, r_es0, r_es1, r_ch1, r_bo1, r_bo2, r_tnot, r_tband, r_tbor, r_tcmp, r_tvar, r_tcall, r_tme, r_tidx, r_tbi, r_ts0, r_ts1, r_tgs0, r_tgs1, r_sexpr, r_sassign, r_saug, r_sdel, r_sife, r_swhl, r_sfr, r_sret, r_ss0, r_ss1, tg_var, tg_tup, tg_idx, tg_slc, bin_add, bin_sub, bin_mul, bin_div, bin_mod, bin_cat, cmp_eqi, cmp_eqs, cmp_nei, cmp_nes, cmp_lt, cmp_le, cmp_gt, cmp_ge, cmp_isn, cmp_ist, cmp_notn, cmp_nott, tr_none, tr_bool, tr_int, tr_str, tr_tup, ix_str, ix_tup, sl_ii, sl_in, sl_ni, bi_lens, bi_lent, bi_min, bi_max, bi_rng, bi_rng2, me_find, me_find2, ok_find, me_app, ok_app, me_ins, me_pop, me_join, me_ends, me_starts, ok_ins, ok_pop, ok_join, ok_ends, ok_starts, it_str, it_rng, neg_int, aug_addi, aug_adds, aug_subi, St.set, St.setAll, List.map_cons, List.map_nil, List.replicate, List.cons_append, List.nil_append, List.getElem?_cons_succ, List.getElem?_cons_zero, List.set_cons_succ, List.set_cons_zero, List.length_cons, List.length_nil, dreduceIte, retV, Option.some.injEq, exists_eq_left', exists_eq_left, true_and, and_true, if_true, if_false, Bool.false_eq_true, decide_eq_true_eq, Bool.not_true, Bool.not_false, Bool.not_eq_true', decide_eq_false_iff_not, reduceIte, reduceCtorEq, ha, hb]
  cases a with
  | nil => simpa [lcp] using q
  | cons x as =>
  cases b with
  | nil => simpa [lcp] using q
  | cons y bs =>
  rw [if_pos (by rfl), if_pos (by rfl)]
  refine ⟨by unfold tiny; omega, x, pyGet_nn (x :: as) 0 (by simp), by unfold tiny; omega, y, pyGet_nn (y :: bs) 0 (by simp), ?_⟩
  by_cases hxy : x = y
  · rw [if_pos (by simp [hxy])]
    rw [min_nat]
    have L0 := lcp_le (x :: as) (y :: bs)
    refine ⟨fun n σ' => ∃ pmin pmax pmid : Nat, σ' = ⟨[some self, some (.str (x :: as)), some (.str (y :: bs)), some (.int pmin), some (.int pmax), some (.int pmid), some (.int pmin)], m⟩ ∧
      Half (min (x :: as).length (y :: bs).length) (lcp (x :: as) (y :: bs)) pmin pmax pmid ∧ n = 2 * (pmax - pmin) + (if pmid = pmax then 1 else 0), ⟨_, 0, min (x :: as).length (y :: bs).length, min (x :: as).length (y :: bs).length, rfl, ⟨by omega, by omega, by omega, by omega, by omega, .inl rfl⟩, rfl⟩, ?_⟩
    rintro n σ' ⟨pmin, pmax, pmid, rfl, H, rfl⟩
    simp only [r_lit, r_var, r_bin, r_neg, r_not, r_list, r_tup, r_cmp, r_band, r_bor, r_idx, r_slc, r_attr, r_bi, r_call, r_me, r_imeth, r_comp, r_es0, r_es1, r_ch1, r_bo1, r_bo2, r_tnot, r_tband, r_tbor, r_tcmp, r_tvar, r_tcall, r_tme, r_tidx, r_tbi, r_ts0, r_ts1, r_tgs0, r_tgs1, r_sexpr, r_sassign, r_saug, r_sdel, r_sife, r_swhl, r_sfr, r_sret, r_ss0, r_ss1, tg_var, tg_tup, tg_idx, tg_slc, bin_add, bin_sub, bin_mul, bin_div, bin_mod, bin_cat, cmp_eqi, cmp_eqs, cmp_nei, cmp_nes, cmp_lt, cmp_le, cmp_gt, cmp_ge, cmp_isn, cmp_ist, cmp_notn, cmp_nott, tr_none, tr_bool, tr_int, tr_str, tr_tup, ix_str, ix_tup, sl_ii, sl_in, sl_ni, bi_lens, bi_lent, bi_min, bi_max, bi_rng, bi_rng2, me_find, me_find2, ok_find, me_app, ok_app, me_ins, me_pop, me_join, me_ends, me_starts, ok_ins, ok_pop, ok_join, ok_ends, ok_starts, it_str, it_rng, neg_int, aug_addi, aug_adds, aug_subi, St.set, St.setAll, List.map_cons, List.map_nil, List.replicate, List.cons_append, List.nil_append, List.getElem?_cons_succ, List.getElem?_cons_zero, List.set_cons_succ, List.set_cons_zero, List.length_cons, List.length_nil, dreduceIte, retV, Option.some.injEq, exists_eq_left', exists_eq_left, true_and, and_true, if_true, if_false, Bool.false_eq_true, decide_eq_true_eq, Bool.not_true, Bool.not_false, Bool.not_eq_true', decide_eq_false_iff_not, reduceIte, reduceCtorEq]
    have h1 : pmid ≤ (x :: as).length := by have := H.c; have := H.d; omega
    have h2 : pmid ≤ (y :: bs).length := by have := H.c; have := H.d; omega
    by_cases hlt : pmin < pmid
    · rw [if_pos (by omega)]
      refine ⟨ha, hb, ?_⟩
      rw [pySl_nn _ H.b h1, pySl_nn _ H.b h2]
      have e0 := (lcp_iff pmin (x :: as) (y :: bs) (by omega) (by omega)).mp H.a
      have key := (piece_iff H.b e0).trans (lcp_iff pmid (x :: as) (y :: bs) h1 h2).symm
      by_cases hk : pmid ≤ lcp (x :: as) (y :: bs)
      · rw [if_pos (key.mpr hk)]
        obtain ⟨H', M⟩ := half_up H hlt hk
        rw [half_mid H.c]
        exact ⟨by omega, by unfold tiny; omega, _, M, _, _, _, rfl, H', rfl⟩
      · rw [if_neg (fun z => hk (key.mp z))]
        obtain ⟨H', M⟩ := half_down H hlt hk
        rw [half_mid H.b]
        exact ⟨by omega, by unfold tiny; omega, _, M, _, _, _, rfl, H', rfl⟩
    · rw [if_neg (by omega)]
      have := half_out H (by omega)
      rw [this]; exact q
  · rw [if_neg (by simp [hxy])]
    have : lcp (x :: as) (y :: bs) = 0 := by simp [lcp, hxy]
    rw [this] at q; exact q
theorem pySl_end (xs : Tx) {k l : Nat} (h0 : 0 < k) (h1 : l ≤ k) (h2 : k ≤ xs.length) : pySl xs (some (-(k : Int))) (some ((xs.length : Int) - (l : Int))) = ((xs.reverse.drop l).take (k - l)).reverse := by
  unfold pySl slLo slHi
  simp only [Option.elim]
  rw [clip_neg h0 h2, show ((xs.length : Int) - (l : Int)) = ((xs.length - l : Nat) : Int) by omega, clip_nn, Nat.min_eq_left (by omega)]
  rw [List.drop_reverse, List.take_reverse, List.reverse_reverse, List.length_take, Nat.min_eq_left (by omega), List.drop_take]
  congr 1
  · omega
  · congr 1; omega

noncomputable def m_diff_commonSuffixPs : List PySem.Str := ["self", "text1", "text2"]
noncomputable def m_diff_commonSuffixRest : List PySem.Str := ["pointermin", "pointermax", "pointermid", "pointerend"]
noncomputable def m_diff_commonSuffixNames : List (PySem.Str × NameKind) := [("min", .globalImplicit), ("len", .globalImplicit)]
noncomputable def m_diff_commonSuffixBody : List Sm := [
    .ife (.bor [.not (.var 1), .not (.var 2), .cmp (.idx (.var 1) (.neg (.lit (.int 1)))) [.NotEq] [.idx (.var 2) (.neg (.lit (.int 1)))]]) [
      .ret (.lit (.int 0))] [],
    .assign [.var 3] (.lit (.int 0)),
    .assign [.var 4] (.bi .min [.bi .len [.var 1], .bi .len [.var 2]]),
    .assign [.var 5] (.var 4),
    .assign [.var 6] (.lit (.int 0)),
    .whl (.cmp (.var 3) [.Lt] [.var 5]) [
      .ife (.cmp (.slc (.var 1) (.neg (.var 5)) (.bin .Sub (.bi .len [.var 1]) (.var 6)) (.lit .none)) [.Eq] [.slc (.var 2) (.neg (.var 5)) (.bin .Sub (.bi .len [.var 2]) (.var 6)) (.lit .none)]) [
        .assign [.var 3] (.var 5),
        .assign [.var 6] (.var 3)] [
        .assign [.var 4] (.var 5)],
      .assign [.var 5] (.bin .Add (.bin .FloorDiv (.bin .Sub (.var 4) (.var 3)) (.lit (.int 2))) (.var 3))],
    .ret (.var 5)]

theorem last_rev (xs : Tx) (x : Char) (as : Tx) (h : xs.reverse = x :: as) : xs[xs.length - 1]? = some x := by
  have e : xs = as.reverse ++ [x] := by rw [← List.reverse_reverse xs, h]; simp
  subst e; simp

theorem w_commonSuffix (P : PC) (self : V) (a b : Tx) (m : Mem) (ha : small a.length) (hb : small b.length) (Q : V → Mem → Prop) (q : Q (.int (lcs a b)) m) :
    wpSs P m_diff_commonSuffixBody (fun fl σ' => Q (retV fl) σ'.mem) ⟨[self, .str a, .str b].map some ++ List.replicate 4 none, m⟩ := by
  unfold m_diff_commonSuffixBody
  simp only [r_lit, r_var, r_bin, r_neg, r_not, r_list, r_tup, r_cmp, r_band, r_bor, r_idx, r_slc, r_attr, r_bi, r_call, r_me, r_imeth, r_comp, r_es0, r_es1, r_ch1, r_bo1, r_bo2, r_tnot, r_tband, r_tbor, r_tcmp, r_tvar, r_tcall, r_tme, r_tidx, r_tbi, r_ts0, r_ts1, r_tgs0, r_tgs1, r_sexpr, r_sassign, r_saug, r_sdel, r_sife, r_swhl, r_sfr, r_sret, r_ss0, r_ss1, tg_var, tg_tup, tg_idx, tg_slc, bin_add, bin_sub, bin_mul, bin_div, bin_mod, bin_cat, cmp_eqi, cmp_eqs, cmp_nei, cmp_nes, cmp_lt, cmp_le, cmp_gt, cmp_ge, cmp_isn, cmp_ist, cmp_notn, cmp_nott, tr_none, tr_bool, tr_int, tr_str, tr_tup, ix_str, ix_tup, sl_ii, sl_in, sl_ni, bi_lens, bi_lent, bi_min, bi_max, bi_rng, bi_rng2, me_find, me_find2, ok_find, me_app, ok_app, me_ins, me_pop, me_join, me_ends, me_starts, ok_ins, ok_pop, ok_join, ok_ends, ok_starts, it_str, it_rng, neg_int, aug_addi, aug_adds, aug_subi, St.set, St.setAll, List.map_cons, List.map_nil, List.replicate, List.cons_append, List.nil_append, List.getElem?_cons_succ, List.getElem?_cons_zero, List.set_cons_succ, List.set_cons_zero, List.length_cons, List.length_nil, dreduceIte, retV, Option.some.injEq, exists_eq_left', exists_eq_left, true_and, and_true, if_true, if_false, Bool.false_eq_true, decide_eq_true_eq, Bool.not_true, Bool.not_false, Bool.not_eq_true', decide_eq_false_iff_not, reduceIte, reduceCtorEq, ha, hb]
  cases a' : a.reverse with
  | nil =>
    have : a = [] := by simpa using a'
    subst this
    simpa [lcs, lcp] using q
  | cons x as =>
  cases b' : b.reverse with
  | nil =>
    have : b = [] := by simpa using b'
    subst this
    have : lcs a [] = 0 := by unfold lcs; rw [a']; rfl
    rw [this] at q
    simp only [List.isEmpty_nil, Bool.not_true, Bool.not_false, if_neg, reduceCtorEq, if_false]
    split <;> exact q
  | cons y bs =>
  have la : a.length = as.length + 1 := by rw [← List.length_reverse, a']; rfl
  have lb : b.length = bs.length + 1 := by rw [← List.length_reverse, b']; rfl
  have na : a.isEmpty = false := by cases a with | nil => simp at la | cons => rfl
  have nb : b.isEmpty = false := by cases b with | nil => simp at lb | cons => rfl
  rw [na, nb, if_pos (by rfl), if_pos (by rfl)]
  refine ⟨by unfold tiny; omega, x, (pyGet_last a (by omega)).trans (last_rev a x as a'), by unfold tiny; omega, y, (pyGet_last b (by omega)).trans (last_rev b y bs b'), ?_⟩
  by_cases hxy : x = y
  · rw [if_pos (by simp [hxy])]
    rw [min_nat]
    have L0 := lcp_le a.reverse b.reverse
    rw [List.length_reverse, List.length_reverse] at L0
    refine ⟨fun n σ' => ∃ pmin pmax pmid : Nat, σ' = ⟨[some self, some (.str a), some (.str b), some (.int pmin), some (.int pmax), some (.int pmid), some (.int pmin)], m⟩ ∧
      Half (min a.length b.length) (lcp a.reverse b.reverse) pmin pmax pmid ∧ n = 2 * (pmax - pmin) + (if pmid = pmax then 1 else 0), ⟨_, 0, min a.length b.length, min a.length b.length, rfl, ⟨by omega, by omega, by omega, by omega, by omega, .inl rfl⟩, rfl⟩, ?_⟩
    rintro n σ' ⟨pmin, pmax, pmid, rfl, H, rfl⟩
    simp only [r_lit, r_var, r_bin, r_neg, r_not, r_list, r_tup, r_cmp, r_band, r_bor, r_idx, r_slc, r_attr, r_bi, r_call, r_me, r_imeth, r_comp, r_es0, r_es1, r_ch1, r_bo1, r_bo2, r_tnot, r_tband, r_tbor, r_tcmp, r_tvar, r_tcall, r_tme, r_tidx, r_tbi, r_ts0, r_ts1, r_tgs0, r_tgs1, r_sexpr, r_sassign, r_saug, r_sdel, r_sife, r_swhl, r_sfr, r_sret, r_ss0, r_ss1, tg_var, tg_tup, tg_idx, tg_slc, bin_add, bin_sub, bin_mul, bin_div, bin_mod, bin_cat, cmp_eqi, cmp_eqs, cmp_nei, cmp_nes, cmp_lt, cmp_le, cmp_gt, cmp_ge, cmp_isn, cmp_ist, cmp_notn, cmp_nott, tr_none, tr_bool, tr_int, tr_str, tr_tup, ix_str, ix_tup, sl_ii, sl_in, sl_ni, bi_lens, bi_lent, bi_min, bi_max, bi_rng, bi_rng2, me_find, me_find2, ok_find, me_app, ok_app, me_ins, me_pop, me_join, me_ends, me_starts, ok_ins, ok_pop, ok_join, ok_ends, ok_starts, it_str, it_rng, neg_int, aug_addi, aug_adds, aug_subi, St.set, St.setAll, List.map_cons, List.map_nil, List.replicate, List.cons_append, List.nil_append, List.getElem?_cons_succ, List.getElem?_cons_zero, List.set_cons_succ, List.set_cons_zero, List.length_cons, List.length_nil, dreduceIte, retV, Option.some.injEq, exists_eq_left', exists_eq_left, true_and, and_true, if_true, if_false, Bool.false_eq_true, decide_eq_true_eq, Bool.not_true, Bool.not_false, Bool.not_eq_true', decide_eq_false_iff_not, reduceIte, reduceCtorEq]
    have h1 : pmid ≤ a.length := by have := H.c; have := H.d; omega
    have h2 : pmid ≤ b.length := by have := H.c; have := H.d; omega
    by_cases hlt : pmin < pmid
    · rw [if_pos (by omega)]
      refine ⟨ha, ha, hb, hb, ?_⟩
      rw [pySl_end _ (by omega) H.b h1, pySl_end _ (by omega) H.b h2]
      have e0 := (lcp_iff pmin a.reverse b.reverse (by simp; omega) (by simp; omega)).mp H.a
      have key := (piece_iff H.b e0).trans (lcp_iff pmid a.reverse b.reverse (by simpa using h1) (by simpa using h2)).symm
      by_cases hk : pmid ≤ lcp a.reverse b.reverse
      · rw [if_pos (congrArg List.reverse (key.mpr hk))]
        obtain ⟨H', M⟩ := half_up H hlt hk
        rw [half_mid H.c]
        exact ⟨by omega, by unfold tiny; omega, _, M, _, _, _, rfl, H', rfl⟩
      · rw [if_neg (fun z => hk (key.mp (List.reverse_inj.mp z)))]
        obtain ⟨H', M⟩ := half_down H hlt hk
        rw [half_mid H.b]
        exact ⟨by omega, by unfold tiny; omega, _, M, _, _, _, rfl, H', rfl⟩
    · rw [if_neg (by omega)]
      have := half_out H (by omega)
      rw [this]; exact q
  · rw [if_neg (by simp [hxy])]
    have : lcs a b = 0 := by unfold lcs; rw [a', b']; simp [lcp, hxy]
    rw [this] at q; exact q
end Mine
set_option autoImplicit false
set_option maxRecDepth 10000
set_option linter.unusedVariables false
set_option linter.unusedSimpArgs false
namespace Mine
open PySem PyProof.Rows PySem.W

noncomputable def m_diff_cleanupMergePs : List PySem.Str := ["self", "diffs"]
noncomputable def m_diff_cleanupMergeRest : List PySem.Str := ["pointer", "count_delete", "count_insert", "text_delete", "text_insert", "commonlength", "x", "new_ops", "changes"]
noncomputable def m_diff_cleanupMergeNames : List (PySem.Str × NameKind) := [("len", .globalImplicit)]
noncomputable def m_diff_cleanupMergeCells : List PySem.Str := []
noncomputable def m_diff_cleanupMergeB1 : List Sm := [
    .aug 4 .Add (.lit (.int 1)),
    .aug 6 .Add (.idx (.idx (.var 1) (.var 2)) (.lit (.int 1))),
    .aug 2 .Add (.lit (.int 1))]
noncomputable def m_diff_cleanupMergeB2 : List Sm := [
    .aug 3 .Add (.lit (.int 1)),
    .aug 5 .Add (.idx (.idx (.var 1) (.var 2)) (.lit (.int 1))),
    .aug 2 .Add (.lit (.int 1))]
noncomputable def m_diff_cleanupMergeB3 : List Sm := [
    .expr (.me (.var 1) .insert [.lit (.int 0), .tup [.attr (.var 0) "DIFF_EQUAL", .slc (.var 6) (.lit .none) (.var 7) (.lit .none)]]),
    .aug 2 .Add (.lit (.int 1))]
noncomputable def m_diff_cleanupMergeB4 : List Sm := [
    .assign [.var 8] (.bin .Sub (.bin .Sub (.bin .Sub (.var 2) (.var 3)) (.var 4)) (.lit (.int 1))),
    .ife (.band [.cmp (.var 8) [.GtE] [.lit (.int 0)], .cmp (.idx (.idx (.var 1) (.var 8)) (.lit (.int 0))) [.Eq] [.attr (.var 0) "DIFF_EQUAL"]]) [
      .assign [.idx (.var 1) (.var 8)] (.tup [.idx (.idx (.var 1) (.var 8)) (.lit (.int 0)), .bin .Add (.idx (.idx (.var 1) (.var 8)) (.lit (.int 1))) (.slc (.var 6) (.lit .none) (.var 7) (.lit .none))])] m_diff_cleanupMergeB3,
    .assign [.var 6] (.slc (.var 6) (.var 7) (.lit .none) (.lit .none)),
    .assign [.var 5] (.slc (.var 5) (.var 7) (.lit .none) (.lit .none))]
noncomputable def m_diff_cleanupMergeB5 : List Sm := [
    .assign [.idx (.var 1) (.var 2)] (.tup [.idx (.idx (.var 1) (.var 2)) (.lit (.int 0)), .bin .Add (.slc (.var 6) (.neg (.var 7)) (.lit .none) (.lit .none)) (.idx (.idx (.var 1) (.var 2)) (.lit (.int 1)))]),
    .assign [.var 6] (.slc (.var 6) (.lit .none) (.neg (.var 7)) (.lit .none)),
    .assign [.var 5] (.slc (.var 5) (.lit .none) (.neg (.var 7)) (.lit .none))]
noncomputable def m_diff_cleanupMergeB6 : List Sm := [
    .assign [.var 7] (.imeth (.var 0) "diff_commonPrefix" [.var 6, .var 5]),
    .ife (.cmp (.var 7) [.NotEq] [.lit (.int 0)]) m_diff_cleanupMergeB4 [],
    .assign [.var 7] (.imeth (.var 0) "diff_commonSuffix" [.var 6, .var 5]),
    .ife (.cmp (.var 7) [.NotEq] [.lit (.int 0)]) m_diff_cleanupMergeB5 []]
noncomputable def m_diff_cleanupMergeB7 : List Sm := [
    .ife (.band [.cmp (.var 3) [.NotEq] [.lit (.int 0)], .cmp (.var 4) [.NotEq] [.lit (.int 0)]]) m_diff_cleanupMergeB6 [],
    .assign [.var 9] (.list []),
    .ife (.cmp (.bi .len [.var 5]) [.NotEq] [.lit (.int 0)]) [
      .expr (.me (.var 9) .append [.tup [.attr (.var 0) "DIFF_DELETE", .var 5]])] [],
    .ife (.cmp (.bi .len [.var 6]) [.NotEq] [.lit (.int 0)]) [
      .expr (.me (.var 9) .append [.tup [.attr (.var 0) "DIFF_INSERT", .var 6]])] [],
    .aug 2 .Sub (.bin .Add (.var 3) (.var 4)),
    .assign [.slc (.var 1) (.var 2) (.bin .Add (.bin .Add (.var 2) (.var 3)) (.var 4))] (.var 9),
    .aug 2 .Add (.bin .Add (.bi .len [.var 9]) (.lit (.int 1)))]
noncomputable def m_diff_cleanupMergeB8 : List Sm := [
    .assign [.idx (.var 1) (.bin .Sub (.var 2) (.lit (.int 1)))] (.tup [.idx (.idx (.var 1) (.bin .Sub (.var 2) (.lit (.int 1)))) (.lit (.int 0)), .bin .Add (.idx (.idx (.var 1) (.bin .Sub (.var 2) (.lit (.int 1)))) (.lit (.int 1))) (.idx (.idx (.var 1) (.var 2)) (.lit (.int 1)))]),
    .del (.var 1) (.var 2)]
noncomputable def m_diff_cleanupMergeB9 : List Sm := [
    .ife (.cmp (.bin .Add (.var 3) (.var 4)) [.Gt] [.lit (.int 1)]) m_diff_cleanupMergeB7 [
      .ife (.band [.cmp (.var 2) [.NotEq] [.lit (.int 0)], .cmp (.idx (.idx (.var 1) (.bin .Sub (.var 2) (.lit (.int 1)))) (.lit (.int 0))) [.Eq] [.attr (.var 0) "DIFF_EQUAL"]]) m_diff_cleanupMergeB8 [
        .aug 2 .Add (.lit (.int 1))]],
    .assign [.var 4] (.lit (.int 0)),
    .assign [.var 3] (.lit (.int 0)),
    .assign [.var 5] (.lit (.str [])),
    .assign [.var 6] (.lit (.str []))]
noncomputable def m_diff_cleanupMergeB10 : List Sm := [
    .ife (.cmp (.idx (.idx (.var 1) (.var 2)) (.lit (.int 0))) [.Eq] [.attr (.var 0) "DIFF_INSERT"]) m_diff_cleanupMergeB1 [
      .ife (.cmp (.idx (.idx (.var 1) (.var 2)) (.lit (.int 0))) [.Eq] [.attr (.var 0) "DIFF_DELETE"]) m_diff_cleanupMergeB2 [
        .ife (.cmp (.idx (.idx (.var 1) (.var 2)) (.lit (.int 0))) [.Eq] [.attr (.var 0) "DIFF_EQUAL"]) m_diff_cleanupMergeB9 []]]]
noncomputable def m_diff_cleanupMergeB11 : List Sm := [
    .assign [.idx (.var 1) (.var 2)] (.tup [.idx (.idx (.var 1) (.var 2)) (.lit (.int 0)), .bin .Add (.idx (.idx (.var 1) (.bin .Sub (.var 2) (.lit (.int 1)))) (.lit (.int 1))) (.slc (.idx (.idx (.var 1) (.var 2)) (.lit (.int 1))) (.lit .none) (.neg (.bi .len [.idx (.idx (.var 1) (.bin .Sub (.var 2) (.lit (.int 1)))) (.lit (.int 1))])) (.lit .none))]),
    .assign [.idx (.var 1) (.bin .Add (.var 2) (.lit (.int 1)))] (.tup [.idx (.idx (.var 1) (.bin .Add (.var 2) (.lit (.int 1)))) (.lit (.int 0)), .bin .Add (.idx (.idx (.var 1) (.bin .Sub (.var 2) (.lit (.int 1)))) (.lit (.int 1))) (.idx (.idx (.var 1) (.bin .Add (.var 2) (.lit (.int 1)))) (.lit (.int 1)))])]
noncomputable def m_diff_cleanupMergeB12 : List Sm := [
    .ife (.cmp (.idx (.idx (.var 1) (.bin .Sub (.var 2) (.lit (.int 1)))) (.lit (.int 1))) [.NotEq] [.lit (.str [])]) m_diff_cleanupMergeB11 [],
    .del (.var 1) (.bin .Sub (.var 2) (.lit (.int 1))),
    .assign [.var 10] (.lit (.bool true))]
noncomputable def m_diff_cleanupMergeB13 : List Sm := [
    .assign [.idx (.var 1) (.bin .Sub (.var 2) (.lit (.int 1)))] (.tup [.idx (.idx (.var 1) (.bin .Sub (.var 2) (.lit (.int 1)))) (.lit (.int 0)), .bin .Add (.idx (.idx (.var 1) (.bin .Sub (.var 2) (.lit (.int 1)))) (.lit (.int 1))) (.idx (.idx (.var 1) (.bin .Add (.var 2) (.lit (.int 1)))) (.lit (.int 1)))]),
    .assign [.idx (.var 1) (.var 2)] (.tup [.idx (.idx (.var 1) (.var 2)) (.lit (.int 0)), .bin .Add (.slc (.idx (.idx (.var 1) (.var 2)) (.lit (.int 1))) (.bi .len [.idx (.idx (.var 1) (.bin .Add (.var 2) (.lit (.int 1)))) (.lit (.int 1))]) (.lit .none) (.lit .none)) (.idx (.idx (.var 1) (.bin .Add (.var 2) (.lit (.int 1)))) (.lit (.int 1)))]),
    .del (.var 1) (.bin .Add (.var 2) (.lit (.int 1))),
    .assign [.var 10] (.lit (.bool true))]
noncomputable def m_diff_cleanupMergeB14 : List Sm := [
    .ife (.band [.cmp (.idx (.idx (.var 1) (.bin .Sub (.var 2) (.lit (.int 1)))) (.lit (.int 0))) [.Eq] [.attr (.var 0) "DIFF_EQUAL"], .cmp (.idx (.idx (.var 1) (.bin .Add (.var 2) (.lit (.int 1)))) (.lit (.int 0))) [.Eq] [.attr (.var 0) "DIFF_EQUAL"]]) [
      .ife (.me (.idx (.idx (.var 1) (.var 2)) (.lit (.int 1))) .endswith [.idx (.idx (.var 1) (.bin .Sub (.var 2) (.lit (.int 1)))) (.lit (.int 1))]) m_diff_cleanupMergeB12 [
        .ife (.me (.idx (.idx (.var 1) (.var 2)) (.lit (.int 1))) .startswith [.idx (.idx (.var 1) (.bin .Add (.var 2) (.lit (.int 1)))) (.lit (.int 1))]) m_diff_cleanupMergeB13 []]] [],
    .aug 2 .Add (.lit (.int 1))]
noncomputable def m_diff_cleanupMergeBody : List Sm := [
    .expr (.me (.var 1) .append [.tup [.attr (.var 0) "DIFF_EQUAL", .lit (.str [])]]),
    .assign [.var 2] (.lit (.int 0)),
    .assign [.var 3] (.lit (.int 0)),
    .assign [.var 4] (.lit (.int 0)),
    .assign [.var 5] (.lit (.str [])),
    .assign [.var 6] (.lit (.str [])),
    .whl (.cmp (.var 2) [.Lt] [.bi .len [.var 1]]) m_diff_cleanupMergeB10,
    .ife (.cmp (.idx (.idx (.var 1) (.neg (.lit (.int 1)))) (.lit (.int 1))) [.Eq] [.lit (.str [])]) [
      .expr (.me (.var 1) .pop [])] [],
    .assign [.var 10] (.lit (.bool false)),
    .assign [.var 2] (.lit (.int 1)),
    .whl (.cmp (.var 2) [.Lt] [.bin .Sub (.bi .len [.var 1]) (.lit (.int 1))]) m_diff_cleanupMergeB14,
    .ife (.var 10) [
      .expr (.imeth (.var 0) "diff_cleanupMerge" [.var 1])] []]

noncomputable def pv (p : Part) : V := .tup [.int p.1, .str p.2]
noncomputable def rv (r : Row) : List V := r.map pv
theorem rv_append (a b : Row) : rv (a ++ b) = rv a ++ rv b := List.map_append
theorem rv_len (a : Row) : (rv a).length = a.length := List.length_map ..

theorem pyGet_map {α β : Type} (f : α → β) (xs : List α) (i : Int) : pyGet (xs.map f) i = (pyGet xs i).map f := by
  unfold pyGet
  rw [List.length_map]
  cases seqIndex? i xs.length with
  | none => rfl
  | some j => simp
theorem pyGet_at {α : Type} (A : List α) (x : α) (B : List α) {k : Int} (h : k = (A.length : Nat)) : pyGet (A ++ x :: B) k = some x := by
  subst h
  rw [pyGet_nn _ _ (by simp)]
  simp
theorem pyIx_at {α : Type} (A : List α) (x : α) (B : List α) {k : Int} (h : k = (A.length : Nat)) : pyIx (A ++ x :: B).length k = some A.length := by
  subst h
  unfold pyIx seqIndex?
  have e : (if (A.length : Int) < 0 then (A.length : Int) + (A ++ x :: B).length else (A.length : Int)) = A.length := if_neg (by omega)
  simp only [e]
  rw [if_pos (by simp; omega)]; simp
theorem set_at {α : Type} (A : List α) (x y : α) (B : List α) : (A ++ x :: B).set A.length y = A ++ y :: B := by simp
theorem erase_at {α : Type} (A : List α) (x : α) (B : List α) : (A ++ x :: B).eraseIdx A.length = A ++ B := by
  induction A with
  | nil => rfl
  | cons a A ih => simpa using ih

/-- all but one object stands -/
noncomputable def Ext (d : Addr) (m m' : Mem) : Prop := ∀ a o, a ≠ d → m a = some o → m' a = some o
theorem Ext.refl (d : Addr) (m : Mem) : Ext d m m := fun _ _ _ e => e
theorem Ext.trans {d : Addr} {m m' m'' : Mem} (x : Ext d m m') (y : Ext d m' m'') : Ext d m m'' := fun a o h e => y a o h (x a o h e)
theorem Ext.upd (d : Addr) (m : Mem) (o : O) : Ext d m (upd m d o) := fun a x h e => by rw [upd_ne _ _ h]; exact e
theorem Ext.new {d a : Addr} {m : Mem} (h : m a = none) (o : O) : Ext d m (Mine.upd m a o) := fun b x _ e => by
  rw [upd_ne _ _ (fun q => by subst q; rw [h] at e; cases e)]; exact e

theorem Ext.newIn {d a : Addr} {m m' : Mem} (x : Ext d m m') (h : m a = none) (o : O) : Ext d m (Mine.upd m' a o) := fun b y hb e => by
  rw [upd_ne _ _ (fun q => by subst q; rw [h] at e; cases e)]; exact x b y hb e

section
variable {P : PC} {m : Mem} {K : V → Prop}
theorem tiny_lit (n : Nat) (h : n < 1000) : tiny (n : Int) := by unfold tiny; omega
theorem ix_row {d : Addr} {L : Row} {k : Int} {q : Part} (hm : m d = some (.list (rv L))) (hk : tiny k) (hg : pyGet L k = some q) (h : K (pv q)) : wpIdx m (.obj d) (.int k) K :=
  ⟨hk, _, pv q, hm, by unfold rv; rw [pyGet_map, hg]; rfl, h⟩
theorem ix_fst {q : Part} (h : K (.int q.1)) : wpIdx m (pv q) (.int 0) K := ⟨tiny_lit 0 (by omega), _, rfl, h⟩
theorem ix_snd {q : Part} (h : K (.str q.2)) : wpIdx m (pv q) (.int 1) K := ⟨tiny_lit 1 (by omega), _, rfl, h⟩

/-- names that no tool holds of its own -/
noncomputable def noFld (n : String) : Bool := ["DIFF_DELETE", "DIFF_INSERT", "DIFF_EQUAL", "diff_commonPrefix", "diff_commonSuffix", "diff_cleanupMerge"].contains n
/-- the tool: its dict holds fields alone -/
noncomputable def Tool (P : PC) (m : Mem) (t : Addr) : Prop := ∃ dd fs, m t = some (.inst P.cls dd) ∧ m dd = some (.dict fs) ∧ ∀ n, noFld n = true → lookF n fs = none
theorem Tool.ext {t d : Addr} {m' : Mem} (h : Tool P m t) (hd : ∃ l, m d = some (.list l)) (x : Ext d m m') : Tool P m' t := by
  obtain ⟨dd, fs, h1, h2, h3⟩ := h
  obtain ⟨l, hl⟩ := hd
  refine ⟨dd, fs, x _ _ (fun q => ?_) h1, x _ _ (fun q => ?_) h2, h3⟩
  · rw [q, hl] at h1; cases h1
  · rw [q, hl] at h2; cases h2
theorem at_cc {t : Addr} {n : String} {v : V} (h : Tool P m t) (hf : noFld n = true) (hc : P.cc n = some v) (q : K v) : wpAttr P m (.obj t) n K := by
  obtain ⟨dd, fs, h1, h2, h3⟩ := h
  refine ⟨dd, fs, h1, h2, ?_⟩
  rw [h3 n hf]
  exact ⟨v, hc, q⟩
theorem im_ok {t : Addr} {n : String} (h : Tool P m t) (hf : noFld n = true) : ∃ a d fs, V.obj t = .obj a ∧ m a = some (.inst P.cls d) ∧ m d = some (.dict fs) ∧ lookF n fs = none := by
  obtain ⟨dd, fs, h1, h2, h3⟩ := h
  exact ⟨t, dd, fs, rfl, h1, h2, h3 n hf⟩
end

/-- what a text's methods mean -/
structure Cm (P : PC) : Prop where
  cD : noFld "DIFF_DELETE" = true ∧ P.cc "DIFF_DELETE" = some (.int (-1))
  cI : noFld "DIFF_INSERT" = true ∧ P.cc "DIFF_INSERT" = some (.int 1)
  cE : noFld "DIFF_EQUAL" = true ∧ P.cc "DIFF_EQUAL" = some (.int 0)
  fp : noFld "diff_commonPrefix" = true
  fs : noFld "diff_commonSuffix" = true
  fm : noFld "diff_cleanupMerge" = true
  cp : ∀ {s : V} {x y : Tx} {Q : V → Mem → Prop} {m : Mem}, small x.length → small y.length → Q (.int (lcp x y)) m → P.meth "diff_commonPrefix" [s, .str x, .str y] Q m
  cs : ∀ {s : V} {x y : Tx} {Q : V → Mem → Prop} {m : Mem}, small x.length → small y.length → Q (.int (lcs x y)) m → P.meth "diff_commonSuffix" [s, .str x, .str y] Q m

/-- the state within -/
noncomputable abbrev cmS (t d : Addr) (p cd ci : Int) (td ti : Tx) (x7 x8 x9 x10 : Option V) (m : Mem) : St :=
  ⟨[some (.obj t), some (.obj d), some (.int p), some (.int cd), some (.int ci), some (.str td), some (.str ti), x7, x8, x9, x10], m⟩

section
variable {P : PC} {Q : Fl → St → Prop} {t d : Addr} {td ti : Tx} {x7 x8 x9 x10 : Option V} {m : Mem}

theorem cm_b1 {L : Row} {p cd ci : Int} {q : Part} (hm : m d = some (.list (rv L))) (hp : tiny p) (hg : pyGet L p = some q) (h1 : small ti.length) (h2 : small q.2.length)
    (h : Q .next (cmS t d (p + 1) cd (ci + 1) td (ti ++ q.2) x7 x8 x9 x10 m)) : wpSs P m_diff_cleanupMergeB1 Q (cmS t d p cd ci td ti x7 x8 x9 x10 m) := by
  unfold m_diff_cleanupMergeB1
  dsimp only [r_lit, r_var, r_bin, r_neg, r_not, r_list, r_tup, r_cmp, r_band, r_bor, r_idx, r_slc, r_attr, r_bi, r_call, r_me, r_imeth, r_comp, r_es0, r_es1, r_ch1, r_bo1, r_bo2, r_tnot, r_tband, r_tbor, r_tcmp, r_tvar, r_tcall, r_tme, r_tidx, r_tbi, r_ts0, r_ts1, r_tgs0, r_tgs1, r_sexpr, r_sassign, r_saug, r_sdel, r_sife, r_swhl, r_sfr, r_sret, r_ss0, r_ss1, tg_var, tg_tup, tg_idx, tg_slc, bin_add, bin_sub, bin_mul, bin_div, bin_mod, bin_cat, cmp_eqi, cmp_eqs, cmp_nei, cmp_nes, cmp_lt, cmp_le, cmp_gt, cmp_ge, cmp_isn, cmp_ist, cmp_notn, cmp_nott, tr_none, tr_bool, tr_int, tr_str, tr_tup, ix_str, ix_tup, sl_ii, sl_in, sl_ni, bi_lens, bi_lent, bi_min, bi_max, bi_rng, bi_rng2, me_find, me_find2, ok_find, me_app, ok_app, me_ins, me_pop, me_join, me_ends, me_starts, ok_ins, ok_pop, ok_join, ok_ends, ok_starts, it_str, it_rng, neg_int, aug_addi, aug_adds, aug_subi, St.set, St.setAll, List.map_cons, List.map_nil, List.replicate, List.cons_append, List.nil_append, List.getElem?_cons_succ, List.getElem?_cons_zero, List.set_cons_succ, List.set_cons_zero, List.length_cons, List.length_nil, dreduceIte, retV]
  refine ix_row hm hp hg (ix_snd ?_)
  dsimp only [r_lit, r_var, r_bin, r_neg, r_not, r_list, r_tup, r_cmp, r_band, r_bor, r_idx, r_slc, r_attr, r_bi, r_call, r_me, r_imeth, r_comp, r_es0, r_es1, r_ch1, r_bo1, r_bo2, r_tnot, r_tband, r_tbor, r_tcmp, r_tvar, r_tcall, r_tme, r_tidx, r_tbi, r_ts0, r_ts1, r_tgs0, r_tgs1, r_sexpr, r_sassign, r_saug, r_sdel, r_sife, r_swhl, r_sfr, r_sret, r_ss0, r_ss1, tg_var, tg_tup, tg_idx, tg_slc, bin_add, bin_sub, bin_mul, bin_div, bin_mod, bin_cat, cmp_eqi, cmp_eqs, cmp_nei, cmp_nes, cmp_lt, cmp_le, cmp_gt, cmp_ge, cmp_isn, cmp_ist, cmp_notn, cmp_nott, tr_none, tr_bool, tr_int, tr_str, tr_tup, ix_str, ix_tup, sl_ii, sl_in, sl_ni, bi_lens, bi_lent, bi_min, bi_max, bi_rng, bi_rng2, me_find, me_find2, ok_find, me_app, ok_app, me_ins, me_pop, me_join, me_ends, me_starts, ok_ins, ok_pop, ok_join, ok_ends, ok_starts, it_str, it_rng, neg_int, aug_addi, aug_adds, aug_subi, St.set, St.setAll, List.map_cons, List.map_nil, List.replicate, List.cons_append, List.nil_append, List.getElem?_cons_succ, List.getElem?_cons_zero, List.set_cons_succ, List.set_cons_zero, List.length_cons, List.length_nil, dreduceIte, retV]
  exact ⟨h1, h2, h⟩
theorem cm_b2 {L : Row} {p cd ci : Int} {q : Part} (hm : m d = some (.list (rv L))) (hp : tiny p) (hg : pyGet L p = some q) (h1 : small td.length) (h2 : small q.2.length)
    (h : Q .next (cmS t d (p + 1) (cd + 1) ci (td ++ q.2) ti x7 x8 x9 x10 m)) : wpSs P m_diff_cleanupMergeB2 Q (cmS t d p cd ci td ti x7 x8 x9 x10 m) := by
  unfold m_diff_cleanupMergeB2
  dsimp only [r_lit, r_var, r_bin, r_neg, r_not, r_list, r_tup, r_cmp, r_band, r_bor, r_idx, r_slc, r_attr, r_bi, r_call, r_me, r_imeth, r_comp, r_es0, r_es1, r_ch1, r_bo1, r_bo2, r_tnot, r_tband, r_tbor, r_tcmp, r_tvar, r_tcall, r_tme, r_tidx, r_tbi, r_ts0, r_ts1, r_tgs0, r_tgs1, r_sexpr, r_sassign, r_saug, r_sdel, r_sife, r_swhl, r_sfr, r_sret, r_ss0, r_ss1, tg_var, tg_tup, tg_idx, tg_slc, bin_add, bin_sub, bin_mul, bin_div, bin_mod, bin_cat, cmp_eqi, cmp_eqs, cmp_nei, cmp_nes, cmp_lt, cmp_le, cmp_gt, cmp_ge, cmp_isn, cmp_ist, cmp_notn, cmp_nott, tr_none, tr_bool, tr_int, tr_str, tr_tup, ix_str, ix_tup, sl_ii, sl_in, sl_ni, bi_lens, bi_lent, bi_min, bi_max, bi_rng, bi_rng2, me_find, me_find2, ok_find, me_app, ok_app, me_ins, me_pop, me_join, me_ends, me_starts, ok_ins, ok_pop, ok_join, ok_ends, ok_starts, it_str, it_rng, neg_int, aug_addi, aug_adds, aug_subi, St.set, St.setAll, List.map_cons, List.map_nil, List.replicate, List.cons_append, List.nil_append, List.getElem?_cons_succ, List.getElem?_cons_zero, List.set_cons_succ, List.set_cons_zero, List.length_cons, List.length_nil, dreduceIte, retV]
  refine ix_row hm hp hg (ix_snd ?_)
  dsimp only [r_lit, r_var, r_bin, r_neg, r_not, r_list, r_tup, r_cmp, r_band, r_bor, r_idx, r_slc, r_attr, r_bi, r_call, r_me, r_imeth, r_comp, r_es0, r_es1, r_ch1, r_bo1, r_bo2, r_tnot, r_tband, r_tbor, r_tcmp, r_tvar, r_tcall, r_tme, r_tidx, r_tbi, r_ts0, r_ts1, r_tgs0, r_tgs1, r_sexpr, r_sassign, r_saug, r_sdel, r_sife, r_swhl, r_sfr, r_sret, r_ss0, r_ss1, tg_var, tg_tup, tg_idx, tg_slc, bin_add, bin_sub, bin_mul, bin_div, bin_mod, bin_cat, cmp_eqi, cmp_eqs, cmp_nei, cmp_nes, cmp_lt, cmp_le, cmp_gt, cmp_ge, cmp_isn, cmp_ist, cmp_notn, cmp_nott, tr_none, tr_bool, tr_int, tr_str, tr_tup, ix_str, ix_tup, sl_ii, sl_in, sl_ni, bi_lens, bi_lent, bi_min, bi_max, bi_rng, bi_rng2, me_find, me_find2, ok_find, me_app, ok_app, me_ins, me_pop, me_join, me_ends, me_starts, ok_ins, ok_pop, ok_join, ok_ends, ok_starts, it_str, it_rng, neg_int, aug_addi, aug_adds, aug_subi, St.set, St.setAll, List.map_cons, List.map_nil, List.replicate, List.cons_append, List.nil_append, List.getElem?_cons_succ, List.getElem?_cons_zero, List.set_cons_succ, List.set_cons_zero, List.length_cons, List.length_nil, dreduceIte, retV]
  exact ⟨h1, h2, h⟩

theorem rv_set (A B : Row) (q q' : Part) : (rv (A ++ q :: B)).set A.length (pv q') = rv (A ++ q' :: B) := by
  unfold rv
  rw [List.map_append, List.map_append, List.map_cons, List.map_cons]
  have := set_at (A.map pv) (pv q) (pv q') (B.map pv)
  rwa [List.length_map] at this
theorem rv_erase (A B : Row) (q : Part) : (rv (A ++ q :: B)).eraseIdx A.length = rv (A ++ B) := by
  unfold rv
  rw [List.map_append, List.map_append, List.map_cons]
  have := erase_at (A.map pv) (pv q) (B.map pv)
  rwa [List.length_map] at this
theorem rv_ix (A B : Row) (q : Part) {k : Int} (h : k = (A.length : Nat)) : pyIx (rv (A ++ q :: B)).length k = some A.length := by
  rw [rv_len]; exact pyIx_at _ _ _ h
theorem pySl_nfrom {x : Tx} {k : Nat} (h0 : 0 < k) (h : k ≤ x.length) : pySl x (some (-(k : Int))) none = x.drop (x.length - k) := by
  unfold pySl slLo slHi
  simp only [Option.elim]
  rw [clip_neg h0 h, List.take_of_length_le (by simp)]
theorem pySl_nto {x : Tx} {k : Nat} (h0 : 0 < k) (h : k ≤ x.length) : pySl x none (some (-(k : Int))) = x.take (x.length - k) := by
  unfold pySl slLo slHi
  simp only [Option.elim]
  rw [clip_neg h0 h]; simp
theorem addLast_len {done : Row} (h : Dn done) (x : Tx) : (addLast done x).length = done.length + (if done = [] then 1 else 0) := by
  rcases h with rfl | ⟨dn, u, rfl⟩
  · rfl
  · rw [addLast_cat]; simp
theorem small_of {n k : Nat} (h : n ≤ k) (hk : small k) : small n := by unfold small at *; omega

/-- the head goes before the run -/
theorem cm_b4 (c : Cm P) {done rest : Row} {p cd ci : Int} {k : Nat} (hT : Tool P m t) (hm : m d = some (.list (rv (done ++ rest)))) (hdn : Dn done) (hp : p - cd - ci = (done.length : Int)) (hL : small (done ++ rest).length) (hk : k ≤ ti.length) (hk2 : k ≤ td.length) (h1 : small ti.length) (h2 : small td.length)
    (hu : ∀ q ∈ done, small q.2.length)
    (h : ∀ m' x8 (p' : Int), p' = p + (addLast done (ti.take k)).length - done.length → m' d = some (.list (rv (addLast done (ti.take k) ++ rest))) → Ext d m m' → Q .next (cmS t d p' cd ci (td.drop k) (ti.drop k) (some (.int k)) x8 x9 x10 m')) :
    wpSs P m_diff_cleanupMergeB4 Q (cmS t d p cd ci td ti (some (.int k)) x8 x9 x10 m) := by
  have tail : ∀ m' (p' : Int) x8', Q .next (cmS t d p' cd ci (td.drop k) (ti.drop k) (some (.int k)) x8' x9 x10 m') →
      wpSs P [.assign [.var 6] (.slc (.var 6) (.var 7) (.lit .none) (.lit .none)), .assign [.var 5] (.slc (.var 5) (.var 7) (.lit .none) (.lit .none))] Q (cmS t d p' cd ci td ti (some (.int k)) x8' x9 x10 m') := fun m' p' x8' q => by
    dsimp only [r_lit, r_var, r_bin, r_neg, r_not, r_list, r_tup, r_cmp, r_band, r_bor, r_idx, r_slc, r_attr, r_bi, r_call, r_me, r_imeth, r_comp, r_es0, r_es1, r_ch1, r_bo1, r_bo2, r_tnot, r_tband, r_tbor, r_tcmp, r_tvar, r_tcall, r_tme, r_tidx, r_tbi, r_ts0, r_ts1, r_tgs0, r_tgs1, r_sexpr, r_sassign, r_saug, r_sdel, r_sife, r_swhl, r_sfr, r_sret, r_ss0, r_ss1, tg_var, tg_tup, tg_idx, tg_slc, bin_add, bin_sub, bin_mul, bin_div, bin_mod, bin_cat, cmp_eqi, cmp_eqs, cmp_nei, cmp_nes, cmp_lt, cmp_le, cmp_gt, cmp_ge, cmp_isn, cmp_ist, cmp_notn, cmp_nott, tr_none, tr_bool, tr_int, tr_str, tr_tup, ix_str, ix_tup, sl_ii, sl_in, sl_ni, bi_lens, bi_lent, bi_min, bi_max, bi_rng, bi_rng2, me_find, me_find2, ok_find, me_app, ok_app, me_ins, me_pop, me_join, me_ends, me_starts, ok_ins, ok_pop, ok_join, ok_ends, ok_starts, it_str, it_rng, neg_int, aug_addi, aug_adds, aug_subi, St.set, St.setAll, List.map_cons, List.map_nil, List.replicate, List.cons_append, List.nil_append, List.getElem?_cons_succ, List.getElem?_cons_zero, List.set_cons_succ, List.set_cons_zero, List.length_cons, List.length_nil, dreduceIte, retV]
    refine ⟨h1, h2, ?_⟩
    rw [pySl_from ti hk, pySl_from td hk2]
    exact q
  have e0 : p - cd - ci - 1 = (done.length : Int) - 1 := by omega
  have hTd : ∃ l, m d = some (.list l) := ⟨_, hm⟩
  unfold m_diff_cleanupMergeB4
  refine ss_next fun Q1 n1 => ?_
  dsimp only [r_lit, r_var, r_bin, r_neg, r_not, r_list, r_tup, r_cmp, r_band, r_bor, r_idx, r_slc, r_attr, r_bi, r_call, r_me, r_imeth, r_comp, r_es0, r_es1, r_ch1, r_bo1, r_bo2, r_tnot, r_tband, r_tbor, r_tcmp, r_tvar, r_tcall, r_tme, r_tidx, r_tbi, r_ts0, r_ts1, r_tgs0, r_tgs1, r_sexpr, r_sassign, r_saug, r_sdel, r_sife, r_swhl, r_sfr, r_sret, r_ss0, r_ss1, tg_var, tg_tup, tg_idx, tg_slc, bin_add, bin_sub, bin_mul, bin_div, bin_mod, bin_cat, cmp_eqi, cmp_eqs, cmp_nei, cmp_nes, cmp_lt, cmp_le, cmp_gt, cmp_ge, cmp_isn, cmp_ist, cmp_notn, cmp_nott, tr_none, tr_bool, tr_int, tr_str, tr_tup, ix_str, ix_tup, sl_ii, sl_in, sl_ni, bi_lens, bi_lent, bi_min, bi_max, bi_rng, bi_rng2, me_find, me_find2, ok_find, me_app, ok_app, me_ins, me_pop, me_join, me_ends, me_starts, ok_ins, ok_pop, ok_join, ok_ends, ok_starts, it_str, it_rng, neg_int, aug_addi, aug_adds, aug_subi, St.set, St.setAll, List.map_cons, List.map_nil, List.replicate, List.cons_append, List.nil_append, List.getElem?_cons_succ, List.getElem?_cons_zero, List.set_cons_succ, List.set_cons_zero, List.length_cons, List.length_nil, dreduceIte, retV]
  refine n1 _ (ss_next fun Q2 n2 => s_ife fun K kt kf => ?_)
  dsimp only [r_lit, r_var, r_bin, r_neg, r_not, r_list, r_tup, r_cmp, r_band, r_bor, r_idx, r_slc, r_attr, r_bi, r_call, r_me, r_imeth, r_comp, r_es0, r_es1, r_ch1, r_bo1, r_bo2, r_tnot, r_tband, r_tbor, r_tcmp, r_tvar, r_tcall, r_tme, r_tidx, r_tbi, r_ts0, r_ts1, r_tgs0, r_tgs1, r_sexpr, r_sassign, r_saug, r_sdel, r_sife, r_swhl, r_sfr, r_sret, r_ss0, r_ss1, tg_var, tg_tup, tg_idx, tg_slc, bin_add, bin_sub, bin_mul, bin_div, bin_mod, bin_cat, cmp_eqi, cmp_eqs, cmp_nei, cmp_nes, cmp_lt, cmp_le, cmp_gt, cmp_ge, cmp_isn, cmp_ist, cmp_notn, cmp_nott, tr_none, tr_bool, tr_int, tr_str, tr_tup, ix_str, ix_tup, sl_ii, sl_in, sl_ni, bi_lens, bi_lent, bi_min, bi_max, bi_rng, bi_rng2, me_find, me_find2, ok_find, me_app, ok_app, me_ins, me_pop, me_join, me_ends, me_starts, ok_ins, ok_pop, ok_join, ok_ends, ok_starts, it_str, it_rng, neg_int, aug_addi, aug_adds, aug_subi, St.set, St.setAll, List.map_cons, List.map_nil, List.replicate, List.cons_append, List.nil_append, List.getElem?_cons_succ, List.getElem?_cons_zero, List.set_cons_succ, List.set_cons_zero, List.length_cons, List.length_nil, dreduceIte, retV]
  rw [e0]
  rcases hdn with rfl | ⟨dn, u, rfl⟩
  · refine if_no (by simp) (kf _ ?_)
    unfold m_diff_cleanupMergeB3
    refine ss_next fun Q3 n3 => ?_
    dsimp only [r_lit, r_var, r_bin, r_neg, r_not, r_list, r_tup, r_cmp, r_band, r_bor, r_idx, r_slc, r_attr, r_bi, r_call, r_me, r_imeth, r_comp, r_es0, r_es1, r_ch1, r_bo1, r_bo2, r_tnot, r_tband, r_tbor, r_tcmp, r_tvar, r_tcall, r_tme, r_tidx, r_tbi, r_ts0, r_ts1, r_tgs0, r_tgs1, r_sexpr, r_sassign, r_saug, r_sdel, r_sife, r_swhl, r_sfr, r_sret, r_ss0, r_ss1, tg_var, tg_tup, tg_idx, tg_slc, bin_add, bin_sub, bin_mul, bin_div, bin_mod, bin_cat, cmp_eqi, cmp_eqs, cmp_nei, cmp_nes, cmp_lt, cmp_le, cmp_gt, cmp_ge, cmp_isn, cmp_ist, cmp_notn, cmp_nott, tr_none, tr_bool, tr_int, tr_str, tr_tup, ix_str, ix_tup, sl_ii, sl_in, sl_ni, bi_lens, bi_lent, bi_min, bi_max, bi_rng, bi_rng2, me_find, me_find2, ok_find, me_app, ok_app, me_ins, me_pop, me_join, me_ends, me_starts, ok_ins, ok_pop, ok_join, ok_ends, ok_starts, it_str, it_rng, neg_int, aug_addi, aug_adds, aug_subi, St.set, St.setAll, List.map_cons, List.map_nil, List.replicate, List.cons_append, List.nil_append, List.getElem?_cons_succ, List.getElem?_cons_zero, List.set_cons_succ, List.set_cons_zero, List.length_cons, List.length_nil, dreduceIte, retV]
    refine ⟨hTd, at_cc hT c.cE.1 c.cE.2 ⟨h1, by omega, tiny_lit 0 (by omega), _, hm, by rw [rv_len]; exact hL, n3 _ ?_⟩⟩
    dsimp only [r_lit, r_var, r_bin, r_neg, r_not, r_list, r_tup, r_cmp, r_band, r_bor, r_idx, r_slc, r_attr, r_bi, r_call, r_me, r_imeth, r_comp, r_es0, r_es1, r_ch1, r_bo1, r_bo2, r_tnot, r_tband, r_tbor, r_tcmp, r_tvar, r_tcall, r_tme, r_tidx, r_tbi, r_ts0, r_ts1, r_tgs0, r_tgs1, r_sexpr, r_sassign, r_saug, r_sdel, r_sife, r_swhl, r_sfr, r_sret, r_ss0, r_ss1, tg_var, tg_tup, tg_idx, tg_slc, bin_add, bin_sub, bin_mul, bin_div, bin_mod, bin_cat, cmp_eqi, cmp_eqs, cmp_nei, cmp_nes, cmp_lt, cmp_le, cmp_gt, cmp_ge, cmp_isn, cmp_ist, cmp_notn, cmp_nott, tr_none, tr_bool, tr_int, tr_str, tr_tup, ix_str, ix_tup, sl_ii, sl_in, sl_ni, bi_lens, bi_lent, bi_min, bi_max, bi_rng, bi_rng2, me_find, me_find2, ok_find, me_app, ok_app, me_ins, me_pop, me_join, me_ends, me_starts, ok_ins, ok_pop, ok_join, ok_ends, ok_starts, it_str, it_rng, neg_int, aug_addi, aug_adds, aug_subi, St.set, St.setAll, List.map_cons, List.map_nil, List.replicate, List.cons_append, List.nil_append, List.getElem?_cons_succ, List.getElem?_cons_zero, List.set_cons_succ, List.set_cons_zero, List.length_cons, List.length_nil, dreduceIte, retV]
    rw [pySl_to ti hk]
    exact n2 _ (tail _ _ _ (h _ _ _ (by simp [addLast]) (upd_self _ _ _) (.upd _ _ _)))
  · have hg : pyGet (dn ++ (0, u) :: rest) ((dn ++ [((0 : Int), u)]).length - 1 : Int) = some ((0 : Int), u) := pyGet_at _ _ _ (by simp)
    have hm' : m d = some (.list (rv (dn ++ (0, u) :: rest))) := by rw [hm]; simp
    have ht : tiny ((dn ++ [((0 : Int), u)]).length - 1 : Int) := by
      unfold small at hL; unfold tiny; simp at hL ⊢; omega
    refine if_yes (by simp) (ix_row hm' ht hg (ix_fst (at_cc hT c.cE.1 c.cE.2 ?_)))
    dsimp only [r_lit, r_var, r_bin, r_neg, r_not, r_list, r_tup, r_cmp, r_band, r_bor, r_idx, r_slc, r_attr, r_bi, r_call, r_me, r_imeth, r_comp, r_es0, r_es1, r_ch1, r_bo1, r_bo2, r_tnot, r_tband, r_tbor, r_tcmp, r_tvar, r_tcall, r_tme, r_tidx, r_tbi, r_ts0, r_ts1, r_tgs0, r_tgs1, r_sexpr, r_sassign, r_saug, r_sdel, r_sife, r_swhl, r_sfr, r_sret, r_ss0, r_ss1, tg_var, tg_tup, tg_idx, tg_slc, bin_add, bin_sub, bin_mul, bin_div, bin_mod, bin_cat, cmp_eqi, cmp_eqs, cmp_nei, cmp_nes, cmp_lt, cmp_le, cmp_gt, cmp_ge, cmp_isn, cmp_ist, cmp_notn, cmp_nott, tr_none, tr_bool, tr_int, tr_str, tr_tup, ix_str, ix_tup, sl_ii, sl_in, sl_ni, bi_lens, bi_lent, bi_min, bi_max, bi_rng, bi_rng2, me_find, me_find2, ok_find, me_app, ok_app, me_ins, me_pop, me_join, me_ends, me_starts, ok_ins, ok_pop, ok_join, ok_ends, ok_starts, it_str, it_rng, neg_int, aug_addi, aug_adds, aug_subi, St.set, St.setAll, List.map_cons, List.map_nil, List.replicate, List.cons_append, List.nil_append, List.getElem?_cons_succ, List.getElem?_cons_zero, List.set_cons_succ, List.set_cons_zero, List.length_cons, List.length_nil, dreduceIte, retV]
    refine if_yes rfl (kt _ (ss_next fun Q3 n3 => ?_))
    dsimp only [r_lit, r_var, r_bin, r_neg, r_not, r_list, r_tup, r_cmp, r_band, r_bor, r_idx, r_slc, r_attr, r_bi, r_call, r_me, r_imeth, r_comp, r_es0, r_es1, r_ch1, r_bo1, r_bo2, r_tnot, r_tband, r_tbor, r_tcmp, r_tvar, r_tcall, r_tme, r_tidx, r_tbi, r_ts0, r_ts1, r_tgs0, r_tgs1, r_sexpr, r_sassign, r_saug, r_sdel, r_sife, r_swhl, r_sfr, r_sret, r_ss0, r_ss1, tg_var, tg_tup, tg_idx, tg_slc, bin_add, bin_sub, bin_mul, bin_div, bin_mod, bin_cat, cmp_eqi, cmp_eqs, cmp_nei, cmp_nes, cmp_lt, cmp_le, cmp_gt, cmp_ge, cmp_isn, cmp_ist, cmp_notn, cmp_nott, tr_none, tr_bool, tr_int, tr_str, tr_tup, ix_str, ix_tup, sl_ii, sl_in, sl_ni, bi_lens, bi_lent, bi_min, bi_max, bi_rng, bi_rng2, me_find, me_find2, ok_find, me_app, ok_app, me_ins, me_pop, me_join, me_ends, me_starts, ok_ins, ok_pop, ok_join, ok_ends, ok_starts, it_str, it_rng, neg_int, aug_addi, aug_adds, aug_subi, St.set, St.setAll, List.map_cons, List.map_nil, List.replicate, List.cons_append, List.nil_append, List.getElem?_cons_succ, List.getElem?_cons_zero, List.set_cons_succ, List.set_cons_zero, List.length_cons, List.length_nil, dreduceIte, retV]
    refine ix_row hm' ht hg (ix_fst (ix_row hm' ht hg (ix_snd ?_)))
    dsimp only [r_lit, r_var, r_bin, r_neg, r_not, r_list, r_tup, r_cmp, r_band, r_bor, r_idx, r_slc, r_attr, r_bi, r_call, r_me, r_imeth, r_comp, r_es0, r_es1, r_ch1, r_bo1, r_bo2, r_tnot, r_tband, r_tbor, r_tcmp, r_tvar, r_tcall, r_tme, r_tidx, r_tbi, r_ts0, r_ts1, r_tgs0, r_tgs1, r_sexpr, r_sassign, r_saug, r_sdel, r_sife, r_swhl, r_sfr, r_sret, r_ss0, r_ss1, tg_var, tg_tup, tg_idx, tg_slc, bin_add, bin_sub, bin_mul, bin_div, bin_mod, bin_cat, cmp_eqi, cmp_eqs, cmp_nei, cmp_nes, cmp_lt, cmp_le, cmp_gt, cmp_ge, cmp_isn, cmp_ist, cmp_notn, cmp_nott, tr_none, tr_bool, tr_int, tr_str, tr_tup, ix_str, ix_tup, sl_ii, sl_in, sl_ni, bi_lens, bi_lent, bi_min, bi_max, bi_rng, bi_rng2, me_find, me_find2, ok_find, me_app, ok_app, me_ins, me_pop, me_join, me_ends, me_starts, ok_ins, ok_pop, ok_join, ok_ends, ok_starts, it_str, it_rng, neg_int, aug_addi, aug_adds, aug_subi, St.set, St.setAll, List.map_cons, List.map_nil, List.replicate, List.cons_append, List.nil_append, List.getElem?_cons_succ, List.getElem?_cons_zero, List.set_cons_succ, List.set_cons_zero, List.length_cons, List.length_nil, dreduceIte, retV]
    rw [pySl_to ti hk]
    refine ⟨h1, hu _ (List.mem_append_right _ (List.mem_singleton.mpr rfl)), small_of (by simp; omega) h1, d, _, _, dn.length, rfl, rfl, ht, hm', rv_ix _ _ _ (by simp), n3 _ (ss_nil (n2 _ (tail _ _ _ (h _ _ _ ?_ ?_ (.upd _ _ _)))))⟩
    · rw [addLast_cat]; simp
    · rw [upd_self, addLast_cat]
      show some (O.list ((rv (dn ++ (0, u) :: rest)).set dn.length (pv (0, u ++ ti.take k)))) = _
      rw [rv_set]; simp

/-- the end goes behind the run -/
theorem cm_b5 {A rest : Row} {p cd ci : Int} {k : Nat} {tx : Tx} (hm : m d = some (.list (rv (A ++ (0, tx) :: rest)))) (hp : p = (A.length : Int)) (hs : tiny p) (h0 : 0 < k) (hk : k ≤ ti.length) (hk2 : k ≤ td.length) (h1 : small ti.length) (h2 : small td.length) (h3 : small tx.length)
    (h : ∀ m', m' d = some (.list (rv (A ++ (0, ti.drop (ti.length - k) ++ tx) :: rest))) → Ext d m m' → Q .next (cmS t d p cd ci (td.take (td.length - k)) (ti.take (ti.length - k)) (some (.int k)) x8 x9 x10 m')) :
    wpSs P m_diff_cleanupMergeB5 Q (cmS t d p cd ci td ti (some (.int k)) x8 x9 x10 m) := by
  unfold m_diff_cleanupMergeB5
  refine ss_next fun Q1 n1 => ?_
  have hg : pyGet (A ++ ((0 : Int), tx) :: rest) p = some ((0 : Int), tx) := pyGet_at _ _ _ hp
  dsimp only [r_lit, r_var, r_bin, r_neg, r_not, r_list, r_tup, r_cmp, r_band, r_bor, r_idx, r_slc, r_attr, r_bi, r_call, r_me, r_imeth, r_comp, r_es0, r_es1, r_ch1, r_bo1, r_bo2, r_tnot, r_tband, r_tbor, r_tcmp, r_tvar, r_tcall, r_tme, r_tidx, r_tbi, r_ts0, r_ts1, r_tgs0, r_tgs1, r_sexpr, r_sassign, r_saug, r_sdel, r_sife, r_swhl, r_sfr, r_sret, r_ss0, r_ss1, tg_var, tg_tup, tg_idx, tg_slc, bin_add, bin_sub, bin_mul, bin_div, bin_mod, bin_cat, cmp_eqi, cmp_eqs, cmp_nei, cmp_nes, cmp_lt, cmp_le, cmp_gt, cmp_ge, cmp_isn, cmp_ist, cmp_notn, cmp_nott, tr_none, tr_bool, tr_int, tr_str, tr_tup, ix_str, ix_tup, sl_ii, sl_in, sl_ni, bi_lens, bi_lent, bi_min, bi_max, bi_rng, bi_rng2, me_find, me_find2, ok_find, me_app, ok_app, me_ins, me_pop, me_join, me_ends, me_starts, ok_ins, ok_pop, ok_join, ok_ends, ok_starts, it_str, it_rng, neg_int, aug_addi, aug_adds, aug_subi, St.set, St.setAll, List.map_cons, List.map_nil, List.replicate, List.cons_append, List.nil_append, List.getElem?_cons_succ, List.getElem?_cons_zero, List.set_cons_succ, List.set_cons_zero, List.length_cons, List.length_nil, dreduceIte, retV]
  refine ix_row hm hs hg (ix_fst ⟨h1, ix_row hm hs hg (ix_snd ?_)⟩)
  dsimp only [r_lit, r_var, r_bin, r_neg, r_not, r_list, r_tup, r_cmp, r_band, r_bor, r_idx, r_slc, r_attr, r_bi, r_call, r_me, r_imeth, r_comp, r_es0, r_es1, r_ch1, r_bo1, r_bo2, r_tnot, r_tband, r_tbor, r_tcmp, r_tvar, r_tcall, r_tme, r_tidx, r_tbi, r_ts0, r_ts1, r_tgs0, r_tgs1, r_sexpr, r_sassign, r_saug, r_sdel, r_sife, r_swhl, r_sfr, r_sret, r_ss0, r_ss1, tg_var, tg_tup, tg_idx, tg_slc, bin_add, bin_sub, bin_mul, bin_div, bin_mod, bin_cat, cmp_eqi, cmp_eqs, cmp_nei, cmp_nes, cmp_lt, cmp_le, cmp_gt, cmp_ge, cmp_isn, cmp_ist, cmp_notn, cmp_nott, tr_none, tr_bool, tr_int, tr_str, tr_tup, ix_str, ix_tup, sl_ii, sl_in, sl_ni, bi_lens, bi_lent, bi_min, bi_max, bi_rng, bi_rng2, me_find, me_find2, ok_find, me_app, ok_app, me_ins, me_pop, me_join, me_ends, me_starts, ok_ins, ok_pop, ok_join, ok_ends, ok_starts, it_str, it_rng, neg_int, aug_addi, aug_adds, aug_subi, St.set, St.setAll, List.map_cons, List.map_nil, List.replicate, List.cons_append, List.nil_append, List.getElem?_cons_succ, List.getElem?_cons_zero, List.set_cons_succ, List.set_cons_zero, List.length_cons, List.length_nil, dreduceIte, retV]
  rw [pySl_nfrom h0 hk]
  refine ⟨small_of (by simp) h1, h3, d, _, _, A.length, rfl, rfl, hs, hm, rv_ix _ _ _ hp, n1 _ ?_⟩
  dsimp only [r_lit, r_var, r_bin, r_neg, r_not, r_list, r_tup, r_cmp, r_band, r_bor, r_idx, r_slc, r_attr, r_bi, r_call, r_me, r_imeth, r_comp, r_es0, r_es1, r_ch1, r_bo1, r_bo2, r_tnot, r_tband, r_tbor, r_tcmp, r_tvar, r_tcall, r_tme, r_tidx, r_tbi, r_ts0, r_ts1, r_tgs0, r_tgs1, r_sexpr, r_sassign, r_saug, r_sdel, r_sife, r_swhl, r_sfr, r_sret, r_ss0, r_ss1, tg_var, tg_tup, tg_idx, tg_slc, bin_add, bin_sub, bin_mul, bin_div, bin_mod, bin_cat, cmp_eqi, cmp_eqs, cmp_nei, cmp_nes, cmp_lt, cmp_le, cmp_gt, cmp_ge, cmp_isn, cmp_ist, cmp_notn, cmp_nott, tr_none, tr_bool, tr_int, tr_str, tr_tup, ix_str, ix_tup, sl_ii, sl_in, sl_ni, bi_lens, bi_lent, bi_min, bi_max, bi_rng, bi_rng2, me_find, me_find2, ok_find, me_app, ok_app, me_ins, me_pop, me_join, me_ends, me_starts, ok_ins, ok_pop, ok_join, ok_ends, ok_starts, it_str, it_rng, neg_int, aug_addi, aug_adds, aug_subi, St.set, St.setAll, List.map_cons, List.map_nil, List.replicate, List.cons_append, List.nil_append, List.getElem?_cons_succ, List.getElem?_cons_zero, List.set_cons_succ, List.set_cons_zero, List.length_cons, List.length_nil, dreduceIte, retV]
  refine ⟨h1, h2, ?_⟩
  rw [pySl_nto h0 hk, pySl_nto h0 hk2]
  refine h _ ?_ (.upd _ _ _)
  rw [upd_self]
  exact congrArg (fun l => some (O.list l)) (rv_set A rest (0, tx) (0, ti.drop (ti.length - k) ++ tx))
end
end Mine
set_option autoImplicit false
set_option maxRecDepth 10000
set_option linter.unusedVariables false
set_option linter.unusedSimpArgs false
namespace Mine
open PySem PyProof.Rows PySem.W

section
variable {P : PC} {Q : Fl → St → Prop} {t d : Addr} {td ti : Tx} {x7 x8 x9 x10 : Option V} {m : Mem}

theorem trimA_done {q : Trim} : (trimA q).done = if lcp q.ti q.td = 0 then q.done else addLast q.done (q.ti.take (lcp q.ti q.td)) := by
  unfold trimA; split <;> rfl

/-- the trim of a run, as the text does it -/
theorem cm_b6 (c : Cm P) {done run rest : Row} {p cd ci : Int} {tx : Tx} (hT : Tool P m t) (hm : m d = some (.list (rv (done ++ (run ++ (0, tx) :: rest))))) (hdn : Dn done) (hr : cd + ci = (run.length : Int)) (hp : p = (done.length + run.length : Nat)) (hL : small (done ++ (run ++ (0, tx) :: rest)).length)
    (h1 : small ti.length) (h2 : small td.length) (h3 : small tx.length) (hu : ∀ q ∈ done, small q.2.length)
    (h : ∀ m' x7 x8 (p' : Int), p' = ((trim ⟨done, td, ti, tx⟩).done.length + run.length : Nat) → m' d = some (.list (rv ((trim ⟨done, td, ti, tx⟩).done ++ (run ++ (0, (trim ⟨done, td, ti, tx⟩).t) :: rest)))) → Ext d m m' →
      Q .next (cmS t d p' cd ci (trim ⟨done, td, ti, tx⟩).td (trim ⟨done, td, ti, tx⟩).ti x7 x8 x9 x10 m')) :
    wpSs P m_diff_cleanupMergeB6 Q (cmS t d p cd ci td ti x7 x8 x9 x10 m) := by
  have L := lcp_le ti td
  unfold m_diff_cleanupMergeB6
  refine ss_next fun Q1 n1 => ?_
  dsimp only [r_lit, r_var, r_bin, r_neg, r_not, r_list, r_tup, r_cmp, r_band, r_bor, r_idx, r_slc, r_attr, r_bi, r_call, r_me, r_imeth, r_comp, r_es0, r_es1, r_ch1, r_bo1, r_bo2, r_tnot, r_tband, r_tbor, r_tcmp, r_tvar, r_tcall, r_tme, r_tidx, r_tbi, r_ts0, r_ts1, r_tgs0, r_tgs1, r_sexpr, r_sassign, r_saug, r_sdel, r_sife, r_swhl, r_sfr, r_sret, r_ss0, r_ss1, tg_var, tg_tup, tg_idx, tg_slc, bin_add, bin_sub, bin_mul, bin_div, bin_mod, bin_cat, cmp_eqi, cmp_eqs, cmp_nei, cmp_nes, cmp_lt, cmp_le, cmp_gt, cmp_ge, cmp_isn, cmp_ist, cmp_notn, cmp_nott, tr_none, tr_bool, tr_int, tr_str, tr_tup, ix_str, ix_tup, sl_ii, sl_in, sl_ni, bi_lens, bi_lent, bi_min, bi_max, bi_rng, bi_rng2, me_find, me_find2, ok_find, me_app, ok_app, me_ins, me_pop, me_join, me_ends, me_starts, ok_ins, ok_pop, ok_join, ok_ends, ok_starts, it_str, it_rng, neg_int, aug_addi, aug_adds, aug_subi, St.set, St.setAll, List.map_cons, List.map_nil, List.replicate, List.cons_append, List.nil_append, List.getElem?_cons_succ, List.getElem?_cons_zero, List.set_cons_succ, List.set_cons_zero, List.length_cons, List.length_nil, dreduceIte, retV]
  refine ⟨im_ok hT c.fp, c.cp h1 h2 (n1 _ (ss_next fun Q2 n2 => ?_))⟩
  -- behind the head
  have mid : ∀ m' x8 (p' : Int), p' = ((trimA ⟨done, td, ti, tx⟩).done.length + run.length : Nat) → m' d = some (.list (rv ((trimA ⟨done, td, ti, tx⟩).done ++ (run ++ (0, tx) :: rest)))) → Ext d m m' →
      Q2 .next (cmS t d p' cd ci (trimA ⟨done, td, ti, tx⟩).td (trimA ⟨done, td, ti, tx⟩).ti (some (.int (lcp ti td : Nat))) x8 x9 x10 m') := fun m' x8 p' hp' hm' hx => by
    have s1 : small (trimA ⟨done, td, ti, tx⟩).ti.length := by unfold trimA; split <;> first | exact h1 | exact small_of (by simp) h1
    have s2 : small (trimA ⟨done, td, ti, tx⟩).td.length := by unfold trimA; split <;> first | exact h2 | exact small_of (by simp) h2
    have ht : (trimA ⟨done, td, ti, tx⟩).t = tx := by unfold trimA; split <;> rfl
    have e : trim ⟨done, td, ti, tx⟩ = trimB (trimA ⟨done, td, ti, tx⟩) := rfl
    rw [e] at h
    have hdA : (trimB (trimA ⟨done, td, ti, tx⟩)).done = (trimA ⟨done, td, ti, tx⟩).done := (trimB_w _).2
    have hLA : small (trimA ⟨done, td, ti, tx⟩).done.length := by
      have : (trimA ⟨done, td, ti, tx⟩).done.length ≤ done.length + 1 := by
        rw [trimA_done]; dsimp only; split
        · omega
        · rw [addLast_len hdn]; split <;> omega
      refine small_of this ?_
      unfold small at hL ⊢; simp at hL; omega
    have hLr : small run.length := small_of (by simp; omega) hL
    generalize trimA ⟨done, td, ti, tx⟩ = q at *
    have L2 := lcs_le q.ti q.td
    refine n2 _ (ss_next fun Q3 n3 => ?_)
    dsimp only [r_lit, r_var, r_bin, r_neg, r_not, r_list, r_tup, r_cmp, r_band, r_bor, r_idx, r_slc, r_attr, r_bi, r_call, r_me, r_imeth, r_comp, r_es0, r_es1, r_ch1, r_bo1, r_bo2, r_tnot, r_tband, r_tbor, r_tcmp, r_tvar, r_tcall, r_tme, r_tidx, r_tbi, r_ts0, r_ts1, r_tgs0, r_tgs1, r_sexpr, r_sassign, r_saug, r_sdel, r_sife, r_swhl, r_sfr, r_sret, r_ss0, r_ss1, tg_var, tg_tup, tg_idx, tg_slc, bin_add, bin_sub, bin_mul, bin_div, bin_mod, bin_cat, cmp_eqi, cmp_eqs, cmp_nei, cmp_nes, cmp_lt, cmp_le, cmp_gt, cmp_ge, cmp_isn, cmp_ist, cmp_notn, cmp_nott, tr_none, tr_bool, tr_int, tr_str, tr_tup, ix_str, ix_tup, sl_ii, sl_in, sl_ni, bi_lens, bi_lent, bi_min, bi_max, bi_rng, bi_rng2, me_find, me_find2, ok_find, me_app, ok_app, me_ins, me_pop, me_join, me_ends, me_starts, ok_ins, ok_pop, ok_join, ok_ends, ok_starts, it_str, it_rng, neg_int, aug_addi, aug_adds, aug_subi, St.set, St.setAll, List.map_cons, List.map_nil, List.replicate, List.cons_append, List.nil_append, List.getElem?_cons_succ, List.getElem?_cons_zero, List.set_cons_succ, List.set_cons_zero, List.length_cons, List.length_nil, dreduceIte, retV]
    refine ⟨im_ok (hT.ext ⟨_, hm⟩ hx) c.fs, c.cs s1 s2 (n3 _ (ss_next fun Q4 n4 => s_ife fun K kt kf => ?_))⟩
    dsimp only [r_lit, r_var, r_bin, r_neg, r_not, r_list, r_tup, r_cmp, r_band, r_bor, r_idx, r_slc, r_attr, r_bi, r_call, r_me, r_imeth, r_comp, r_es0, r_es1, r_ch1, r_bo1, r_bo2, r_tnot, r_tband, r_tbor, r_tcmp, r_tvar, r_tcall, r_tme, r_tidx, r_tbi, r_ts0, r_ts1, r_tgs0, r_tgs1, r_sexpr, r_sassign, r_saug, r_sdel, r_sife, r_swhl, r_sfr, r_sret, r_ss0, r_ss1, tg_var, tg_tup, tg_idx, tg_slc, bin_add, bin_sub, bin_mul, bin_div, bin_mod, bin_cat, cmp_eqi, cmp_eqs, cmp_nei, cmp_nes, cmp_lt, cmp_le, cmp_gt, cmp_ge, cmp_isn, cmp_ist, cmp_notn, cmp_nott, tr_none, tr_bool, tr_int, tr_str, tr_tup, ix_str, ix_tup, sl_ii, sl_in, sl_ni, bi_lens, bi_lent, bi_min, bi_max, bi_rng, bi_rng2, me_find, me_find2, ok_find, me_app, ok_app, me_ins, me_pop, me_join, me_ends, me_starts, ok_ins, ok_pop, ok_join, ok_ends, ok_starts, it_str, it_rng, neg_int, aug_addi, aug_adds, aug_subi, St.set, St.setAll, List.map_cons, List.map_nil, List.replicate, List.cons_append, List.nil_append, List.getElem?_cons_succ, List.getElem?_cons_zero, List.set_cons_succ, List.set_cons_zero, List.length_cons, List.length_nil, dreduceIte, retV]
    by_cases hz : lcs q.ti q.td = 0
    · have eB : trimB q = q := by unfold trimB; rw [if_pos hz]
      rw [eB, ht] at h
      rw [show (!decide ((lcs q.ti q.td : Int) = 0)) = false by simp [hz]]
      exact kf _ (ss_nil (n4 _ (ss_nil (h _ _ _ _ hp' hm' hx))))
    · have eB : trimB q = ⟨q.done, q.td.take (q.td.length - lcs q.ti q.td), q.ti.take (q.ti.length - lcs q.ti q.td), q.ti.drop (q.ti.length - lcs q.ti q.td) ++ q.t⟩ := by unfold trimB; rw [if_neg hz]
      rw [eB, ht] at h
      rw [show (!decide ((lcs q.ti q.td : Int) = 0)) = true by simp [hz]]
      have e3 : q.done ++ (run ++ ((0 : Int), tx) :: rest) = (q.done ++ run) ++ ((0 : Int), tx) :: rest := by simp
      refine kt _ (cm_b5 (A := q.done ++ run) (by rw [hm', e3]) (by rw [hp', List.length_append]) ?_ (by omega) L2.1 L2.2 s1 s2 h3 fun m'' hm'' hx' => n4 _ (ss_nil (h _ _ _ _ hp' ?_ (hx.trans hx'))))
      · unfold small at hLA hLr; unfold tiny; omega
      · rw [hm'']; simp
  refine s_ife fun K kt kf => ?_
  dsimp only [r_lit, r_var, r_bin, r_neg, r_not, r_list, r_tup, r_cmp, r_band, r_bor, r_idx, r_slc, r_attr, r_bi, r_call, r_me, r_imeth, r_comp, r_es0, r_es1, r_ch1, r_bo1, r_bo2, r_tnot, r_tband, r_tbor, r_tcmp, r_tvar, r_tcall, r_tme, r_tidx, r_tbi, r_ts0, r_ts1, r_tgs0, r_tgs1, r_sexpr, r_sassign, r_saug, r_sdel, r_sife, r_swhl, r_sfr, r_sret, r_ss0, r_ss1, tg_var, tg_tup, tg_idx, tg_slc, bin_add, bin_sub, bin_mul, bin_div, bin_mod, bin_cat, cmp_eqi, cmp_eqs, cmp_nei, cmp_nes, cmp_lt, cmp_le, cmp_gt, cmp_ge, cmp_isn, cmp_ist, cmp_notn, cmp_nott, tr_none, tr_bool, tr_int, tr_str, tr_tup, ix_str, ix_tup, sl_ii, sl_in, sl_ni, bi_lens, bi_lent, bi_min, bi_max, bi_rng, bi_rng2, me_find, me_find2, ok_find, me_app, ok_app, me_ins, me_pop, me_join, me_ends, me_starts, ok_ins, ok_pop, ok_join, ok_ends, ok_starts, it_str, it_rng, neg_int, aug_addi, aug_adds, aug_subi, St.set, St.setAll, List.map_cons, List.map_nil, List.replicate, List.cons_append, List.nil_append, List.getElem?_cons_succ, List.getElem?_cons_zero, List.set_cons_succ, List.set_cons_zero, List.length_cons, List.length_nil, dreduceIte, retV]
  by_cases hz : lcp ti td = 0
  · have eA : trimA ⟨done, td, ti, tx⟩ = ⟨done, td, ti, tx⟩ := by unfold trimA; rw [if_pos hz]
    rw [eA] at mid
    rw [show (!decide ((lcp ti td : Int) = 0)) = false by simp [hz]]
    exact kf _ (ss_nil (mid _ _ _ hp hm (.refl _ _)))
  · have eA : trimA ⟨done, td, ti, tx⟩ = ⟨addLast done (ti.take (lcp ti td)), td.drop (lcp ti td), ti.drop (lcp ti td), tx⟩ := by unfold trimA; rw [if_neg hz]
    rw [eA] at mid
    rw [show (!decide ((lcp ti td : Int) = 0)) = true by simp [hz]]
    have hpp : p - cd - ci = (done.length : Int) := by omega
    refine kt _ (cm_b4 c (done := done) (rest := run ++ (0, tx) :: rest) hT hm hdn hpp hL L.1 L.2 h1 h2 hu fun m' x8 p' hp' hm' hx => mid _ _ _ ?_ hm' hx)
    dsimp only
    rw [hp', hp]; omega

/-- what is left of a run stands in its place -/
theorem cm_tail (c : Cm P) {A run : Row} {rest : Row} {p cd ci : Int} {cdn cin : Nat} (hT : Tool P m t) (hm : m d = some (.list (rv (A ++ (run ++ rest))))) (hr : cd + ci = (run.length : Int)) (hp : p = (A.length + run.length : Nat)) (hc0 : 0 ≤ cd) (hc1 : 0 ≤ ci) (hL : small (A ++ (run ++ rest)).length) (h1 : small ti.length) (h2 : small td.length)
    (h : ∀ m' x9 (p' : Int), p' = (A.length + (ops td ti).length + 1 : Nat) → m' d = some (.list (rv (A ++ (ops td ti ++ rest)))) → Ext d m m' → Q .next (cmS t d p' cd ci td ti x7 x8 x9 x10 m')) :
    wpSs P [.assign [.var 9] (.list []),
    .ife (.cmp (.bi .len [.var 5]) [.NotEq] [.lit (.int 0)]) [
      .expr (.me (.var 9) .append [.tup [.attr (.var 0) "DIFF_DELETE", .var 5]])] [],
    .ife (.cmp (.bi .len [.var 6]) [.NotEq] [.lit (.int 0)]) [
      .expr (.me (.var 9) .append [.tup [.attr (.var 0) "DIFF_INSERT", .var 6]])] [],
    .aug 2 .Sub (.bin .Add (.var 3) (.var 4)),
    .assign [.slc (.var 1) (.var 2) (.bin .Add (.bin .Add (.var 2) (.var 3)) (.var 4))] (.var 9),
    .aug 2 .Add (.bin .Add (.bi .len [.var 9]) (.lit (.int 1)))] Q (cmS t d p cd ci td ti x7 x8 x9 x10 m) := by
  refine ss_next fun Q1 n1 => ?_
  dsimp only [r_lit, r_var, r_bin, r_neg, r_not, r_list, r_tup, r_cmp, r_band, r_bor, r_idx, r_slc, r_attr, r_bi, r_call, r_me, r_imeth, r_comp, r_es0, r_es1, r_ch1, r_bo1, r_bo2, r_tnot, r_tband, r_tbor, r_tcmp, r_tvar, r_tcall, r_tme, r_tidx, r_tbi, r_ts0, r_ts1, r_tgs0, r_tgs1, r_sexpr, r_sassign, r_saug, r_sdel, r_sife, r_swhl, r_sfr, r_sret, r_ss0, r_ss1, tg_var, tg_tup, tg_idx, tg_slc, bin_add, bin_sub, bin_mul, bin_div, bin_mod, bin_cat, cmp_eqi, cmp_eqs, cmp_nei, cmp_nes, cmp_lt, cmp_le, cmp_gt, cmp_ge, cmp_isn, cmp_ist, cmp_notn, cmp_nott, tr_none, tr_bool, tr_int, tr_str, tr_tup, ix_str, ix_tup, sl_ii, sl_in, sl_ni, bi_lens, bi_lent, bi_min, bi_max, bi_rng, bi_rng2, me_find, me_find2, ok_find, me_app, ok_app, me_ins, me_pop, me_join, me_ends, me_starts, ok_ins, ok_pop, ok_join, ok_ends, ok_starts, it_str, it_rng, neg_int, aug_addi, aug_adds, aug_subi, St.set, St.setAll, List.map_cons, List.map_nil, List.replicate, List.cons_append, List.nil_append, List.getElem?_cons_succ, List.getElem?_cons_zero, List.set_cons_succ, List.set_cons_zero, List.length_cons, List.length_nil, dreduceIte, retV]
  intro a ha
  refine n1 _ ?_
  have had : a ≠ d := fun q => by subst q; rw [hm] at ha; cases ha
  have fin : ∀ m2, m2 d = some (.list (rv (A ++ (run ++ rest)))) → m2 a = some (.list (rv (ops td ti))) → Ext d m m2 →
      wpSs P [.aug 2 .Sub (.bin .Add (.var 3) (.var 4)),
    .assign [.slc (.var 1) (.var 2) (.bin .Add (.bin .Add (.var 2) (.var 3)) (.var 4))] (.var 9),
    .aug 2 .Add (.bin .Add (.bi .len [.var 9]) (.lit (.int 1)))] Q (cmS t d p cd ci td ti x7 x8 (some (.obj a)) x10 m2) := fun m2 g1 g2 g3 => by
    have sz : small (ops td ti).length := small_of (k := 2) (by unfold ops; split <;> split <;> simp) (by unfold small; omega)
    refine ss_next fun Q2 n2 => ?_
    dsimp only [r_lit, r_var, r_bin, r_neg, r_not, r_list, r_tup, r_cmp, r_band, r_bor, r_idx, r_slc, r_attr, r_bi, r_call, r_me, r_imeth, r_comp, r_es0, r_es1, r_ch1, r_bo1, r_bo2, r_tnot, r_tband, r_tbor, r_tcmp, r_tvar, r_tcall, r_tme, r_tidx, r_tbi, r_ts0, r_ts1, r_tgs0, r_tgs1, r_sexpr, r_sassign, r_saug, r_sdel, r_sife, r_swhl, r_sfr, r_sret, r_ss0, r_ss1, tg_var, tg_tup, tg_idx, tg_slc, bin_add, bin_sub, bin_mul, bin_div, bin_mod, bin_cat, cmp_eqi, cmp_eqs, cmp_nei, cmp_nes, cmp_lt, cmp_le, cmp_gt, cmp_ge, cmp_isn, cmp_ist, cmp_notn, cmp_nott, tr_none, tr_bool, tr_int, tr_str, tr_tup, ix_str, ix_tup, sl_ii, sl_in, sl_ni, bi_lens, bi_lent, bi_min, bi_max, bi_rng, bi_rng2, me_find, me_find2, ok_find, me_app, ok_app, me_ins, me_pop, me_join, me_ends, me_starts, ok_ins, ok_pop, ok_join, ok_ends, ok_starts, it_str, it_rng, neg_int, aug_addi, aug_adds, aug_subi, St.set, St.setAll, List.map_cons, List.map_nil, List.replicate, List.cons_append, List.nil_append, List.getElem?_cons_succ, List.getElem?_cons_zero, List.set_cons_succ, List.set_cons_zero, List.length_cons, List.length_nil, dreduceIte, retV]
    rw [show p - (cd + ci) = (A.length : Int) by rw [hr, hp]; omega]
    refine n2 _ (ss_next fun Q3 n3 => ?_)
    dsimp only [r_lit, r_var, r_bin, r_neg, r_not, r_list, r_tup, r_cmp, r_band, r_bor, r_idx, r_slc, r_attr, r_bi, r_call, r_me, r_imeth, r_comp, r_es0, r_es1, r_ch1, r_bo1, r_bo2, r_tnot, r_tband, r_tbor, r_tcmp, r_tvar, r_tcall, r_tme, r_tidx, r_tbi, r_ts0, r_ts1, r_tgs0, r_tgs1, r_sexpr, r_sassign, r_saug, r_sdel, r_sife, r_swhl, r_sfr, r_sret, r_ss0, r_ss1, tg_var, tg_tup, tg_idx, tg_slc, bin_add, bin_sub, bin_mul, bin_div, bin_mod, bin_cat, cmp_eqi, cmp_eqs, cmp_nei, cmp_nes, cmp_lt, cmp_le, cmp_gt, cmp_ge, cmp_isn, cmp_ist, cmp_notn, cmp_nott, tr_none, tr_bool, tr_int, tr_str, tr_tup, ix_str, ix_tup, sl_ii, sl_in, sl_ni, bi_lens, bi_lent, bi_min, bi_max, bi_rng, bi_rng2, me_find, me_find2, ok_find, me_app, ok_app, me_ins, me_pop, me_join, me_ends, me_starts, ok_ins, ok_pop, ok_join, ok_ends, ok_starts, it_str, it_rng, neg_int, aug_addi, aug_adds, aug_subi, St.set, St.setAll, List.map_cons, List.map_nil, List.replicate, List.cons_append, List.nil_append, List.getElem?_cons_succ, List.getElem?_cons_zero, List.set_cons_succ, List.set_cons_zero, List.length_cons, List.length_nil, dreduceIte, retV]
    refine ⟨d, a, some (A.length : Int), some ((A.length + run.length : Nat) : Int), _, _, rfl, rfl, rfl, ?_, Ne.symm had, g1, g2, by rw [rv_len]; exact hL, by rw [rv_len]; exact sz, n3 _ ?_⟩
    · show some (some ((A.length : Int) + cd + ci)) = _
      rw [show (A.length : Int) + cd + ci = ((A.length + run.length : Nat) : Int) by omega]
    · dsimp only [r_lit, r_var, r_bin, r_neg, r_not, r_list, r_tup, r_cmp, r_band, r_bor, r_idx, r_slc, r_attr, r_bi, r_call, r_me, r_imeth, r_comp, r_es0, r_es1, r_ch1, r_bo1, r_bo2, r_tnot, r_tband, r_tbor, r_tcmp, r_tvar, r_tcall, r_tme, r_tidx, r_tbi, r_ts0, r_ts1, r_tgs0, r_tgs1, r_sexpr, r_sassign, r_saug, r_sdel, r_sife, r_swhl, r_sfr, r_sret, r_ss0, r_ss1, tg_var, tg_tup, tg_idx, tg_slc, bin_add, bin_sub, bin_mul, bin_div, bin_mod, bin_cat, cmp_eqi, cmp_eqs, cmp_nei, cmp_nes, cmp_lt, cmp_le, cmp_gt, cmp_ge, cmp_isn, cmp_ist, cmp_notn, cmp_nott, tr_none, tr_bool, tr_int, tr_str, tr_tup, ix_str, ix_tup, sl_ii, sl_in, sl_ni, bi_lens, bi_lent, bi_min, bi_max, bi_rng, bi_rng2, me_find, me_find2, ok_find, me_app, ok_app, me_ins, me_pop, me_join, me_ends, me_starts, ok_ins, ok_pop, ok_join, ok_ends, ok_starts, it_str, it_rng, neg_int, aug_addi, aug_adds, aug_subi, St.set, St.setAll, List.map_cons, List.map_nil, List.replicate, List.cons_append, List.nil_append, List.getElem?_cons_succ, List.getElem?_cons_zero, List.set_cons_succ, List.set_cons_zero, List.length_cons, List.length_nil, dreduceIte, retV]
      refine ⟨_, .inl (by rw [upd_ne _ _ had]; exact g2), by rw [rv_len]; exact sz, h _ _ _ ?_ ?_ (g3.trans (.upd _ _ _))⟩
      · rw [rv_len]; omega
      · rw [upd_self]
        refine congrArg (fun l => some (O.list l)) ?_
        unfold slLo slHi
        simp only [Option.elim, clip_nn, rv_len, rv_append]
        have e1 : min A.length (A ++ (run ++ rest)).length = A.length := by simp
        have e2 : min (A.length + run.length) (A ++ (run ++ rest)).length = A.length + run.length := by simp
        rw [List.length_append, List.length_append] at e1 e2
        rw [List.length_append, List.length_append, rv_len, rv_len, rv_len, e1, e2, Nat.max_eq_right (by omega)]
        have l1 : (rv A).length = A.length := rv_len _
        have l2 : (rv run).length = run.length := rv_len _
        rw [List.take_left' l1, List.drop_append, List.drop_of_length_le (by omega), l1, Nat.add_sub_cancel_left, List.drop_left' l2, List.nil_append, List.append_assoc]
  have r1 : (upd m a (O.list [])) d = some (.list (rv (A ++ (run ++ rest)))) := by rw [upd_ne _ _ (Ne.symm had)]; exact hm
  have T1 : Tool P (upd m a (O.list [])) t := hT.ext ⟨_, hm⟩ (.new ha _)
  refine ss_next fun Q2 n2 => s_ife fun K kt kf => ?_
  dsimp only [r_lit, r_var, r_bin, r_neg, r_not, r_list, r_tup, r_cmp, r_band, r_bor, r_idx, r_slc, r_attr, r_bi, r_call, r_me, r_imeth, r_comp, r_es0, r_es1, r_ch1, r_bo1, r_bo2, r_tnot, r_tband, r_tbor, r_tcmp, r_tvar, r_tcall, r_tme, r_tidx, r_tbi, r_ts0, r_ts1, r_tgs0, r_tgs1, r_sexpr, r_sassign, r_saug, r_sdel, r_sife, r_swhl, r_sfr, r_sret, r_ss0, r_ss1, tg_var, tg_tup, tg_idx, tg_slc, bin_add, bin_sub, bin_mul, bin_div, bin_mod, bin_cat, cmp_eqi, cmp_eqs, cmp_nei, cmp_nes, cmp_lt, cmp_le, cmp_gt, cmp_ge, cmp_isn, cmp_ist, cmp_notn, cmp_nott, tr_none, tr_bool, tr_int, tr_str, tr_tup, ix_str, ix_tup, sl_ii, sl_in, sl_ni, bi_lens, bi_lent, bi_min, bi_max, bi_rng, bi_rng2, me_find, me_find2, ok_find, me_app, ok_app, me_ins, me_pop, me_join, me_ends, me_starts, ok_ins, ok_pop, ok_join, ok_ends, ok_starts, it_str, it_rng, neg_int, aug_addi, aug_adds, aug_subi, St.set, St.setAll, List.map_cons, List.map_nil, List.replicate, List.cons_append, List.nil_append, List.getElem?_cons_succ, List.getElem?_cons_zero, List.set_cons_succ, List.set_cons_zero, List.length_cons, List.length_nil, dreduceIte, retV]
  refine ⟨h2, ?_⟩
  -- behind the deletion
  have two : ∀ m2 l, m2 d = some (.list (rv (A ++ (run ++ rest)))) → m2 a = some (.list l) → l = rv (if td = [] then [] else [(-1, td)]) → Ext d m m2 → Q2 .next (cmS t d p cd ci td ti x7 x8 (some (.obj a)) x10 m2) := fun m2 l g1 g2 g3 g4 => by
    refine n2 _ (ss_next fun Q3 n3 => s_ife fun K kt kf => ?_)
    dsimp only [r_lit, r_var, r_bin, r_neg, r_not, r_list, r_tup, r_cmp, r_band, r_bor, r_idx, r_slc, r_attr, r_bi, r_call, r_me, r_imeth, r_comp, r_es0, r_es1, r_ch1, r_bo1, r_bo2, r_tnot, r_tband, r_tbor, r_tcmp, r_tvar, r_tcall, r_tme, r_tidx, r_tbi, r_ts0, r_ts1, r_tgs0, r_tgs1, r_sexpr, r_sassign, r_saug, r_sdel, r_sife, r_swhl, r_sfr, r_sret, r_ss0, r_ss1, tg_var, tg_tup, tg_idx, tg_slc, bin_add, bin_sub, bin_mul, bin_div, bin_mod, bin_cat, cmp_eqi, cmp_eqs, cmp_nei, cmp_nes, cmp_lt, cmp_le, cmp_gt, cmp_ge, cmp_isn, cmp_ist, cmp_notn, cmp_nott, tr_none, tr_bool, tr_int, tr_str, tr_tup, ix_str, ix_tup, sl_ii, sl_in, sl_ni, bi_lens, bi_lent, bi_min, bi_max, bi_rng, bi_rng2, me_find, me_find2, ok_find, me_app, ok_app, me_ins, me_pop, me_join, me_ends, me_starts, ok_ins, ok_pop, ok_join, ok_ends, ok_starts, it_str, it_rng, neg_int, aug_addi, aug_adds, aug_subi, St.set, St.setAll, List.map_cons, List.map_nil, List.replicate, List.cons_append, List.nil_append, List.getElem?_cons_succ, List.getElem?_cons_zero, List.set_cons_succ, List.set_cons_zero, List.length_cons, List.length_nil, dreduceIte, retV]
    refine ⟨h1, ?_⟩
    by_cases hz : ti = []
    · subst hz
      exact kf _ (ss_nil (n3 _ (fin _ g1 (by rw [g2, g3]; unfold ops; simp) g4)))
    · rw [show (!decide ((ti.length : Int) = 0)) = true by cases ti with | nil => exact absurd rfl hz | cons => simp; omega]
      refine kt _ (ss_next fun Q4 n4 => ?_)
      dsimp only [r_lit, r_var, r_bin, r_neg, r_not, r_list, r_tup, r_cmp, r_band, r_bor, r_idx, r_slc, r_attr, r_bi, r_call, r_me, r_imeth, r_comp, r_es0, r_es1, r_ch1, r_bo1, r_bo2, r_tnot, r_tband, r_tbor, r_tcmp, r_tvar, r_tcall, r_tme, r_tidx, r_tbi, r_ts0, r_ts1, r_tgs0, r_tgs1, r_sexpr, r_sassign, r_saug, r_sdel, r_sife, r_swhl, r_sfr, r_sret, r_ss0, r_ss1, tg_var, tg_tup, tg_idx, tg_slc, bin_add, bin_sub, bin_mul, bin_div, bin_mod, bin_cat, cmp_eqi, cmp_eqs, cmp_nei, cmp_nes, cmp_lt, cmp_le, cmp_gt, cmp_ge, cmp_isn, cmp_ist, cmp_notn, cmp_nott, tr_none, tr_bool, tr_int, tr_str, tr_tup, ix_str, ix_tup, sl_ii, sl_in, sl_ni, bi_lens, bi_lent, bi_min, bi_max, bi_rng, bi_rng2, me_find, me_find2, ok_find, me_app, ok_app, me_ins, me_pop, me_join, me_ends, me_starts, ok_ins, ok_pop, ok_join, ok_ends, ok_starts, it_str, it_rng, neg_int, aug_addi, aug_adds, aug_subi, St.set, St.setAll, List.map_cons, List.map_nil, List.replicate, List.cons_append, List.nil_append, List.getElem?_cons_succ, List.getElem?_cons_zero, List.set_cons_succ, List.set_cons_zero, List.length_cons, List.length_nil, dreduceIte, retV]
      refine ⟨⟨l, g2⟩, at_cc (hT.ext ⟨_, hm⟩ g4) c.cI.1 c.cI.2 ⟨l, g2, ?_, n4 _ (ss_nil (n3 _ (fin _ ?_ ?_ (g4.newIn ha _))))⟩⟩
      · rw [g3, rv_len]; unfold small; split <;> simp
      · rw [upd_ne _ _ (Ne.symm had)]; exact g1
      · rw [upd_self, g3]; unfold ops; rw [if_neg hz, rv_append]; rfl
  by_cases hz : td = []
  · subst hz
    exact kf _ (ss_nil (two _ [] r1 (upd_self _ _ _) rfl (.new ha _)))
  · rw [show (!decide ((td.length : Int) = 0)) = true by cases td with | nil => exact absurd rfl hz | cons => simp; omega]
    refine kt _ (ss_next fun Q4 n4 => ?_)
    dsimp only [r_lit, r_var, r_bin, r_neg, r_not, r_list, r_tup, r_cmp, r_band, r_bor, r_idx, r_slc, r_attr, r_bi, r_call, r_me, r_imeth, r_comp, r_es0, r_es1, r_ch1, r_bo1, r_bo2, r_tnot, r_tband, r_tbor, r_tcmp, r_tvar, r_tcall, r_tme, r_tidx, r_tbi, r_ts0, r_ts1, r_tgs0, r_tgs1, r_sexpr, r_sassign, r_saug, r_sdel, r_sife, r_swhl, r_sfr, r_sret, r_ss0, r_ss1, tg_var, tg_tup, tg_idx, tg_slc, bin_add, bin_sub, bin_mul, bin_div, bin_mod, bin_cat, cmp_eqi, cmp_eqs, cmp_nei, cmp_nes, cmp_lt, cmp_le, cmp_gt, cmp_ge, cmp_isn, cmp_ist, cmp_notn, cmp_nott, tr_none, tr_bool, tr_int, tr_str, tr_tup, ix_str, ix_tup, sl_ii, sl_in, sl_ni, bi_lens, bi_lent, bi_min, bi_max, bi_rng, bi_rng2, me_find, me_find2, ok_find, me_app, ok_app, me_ins, me_pop, me_join, me_ends, me_starts, ok_ins, ok_pop, ok_join, ok_ends, ok_starts, it_str, it_rng, neg_int, aug_addi, aug_adds, aug_subi, St.set, St.setAll, List.map_cons, List.map_nil, List.replicate, List.cons_append, List.nil_append, List.getElem?_cons_succ, List.getElem?_cons_zero, List.set_cons_succ, List.set_cons_zero, List.length_cons, List.length_nil, dreduceIte, retV]
    refine ⟨⟨[], upd_self _ _ _⟩, at_cc T1 c.cD.1 c.cD.2 ⟨[], upd_self _ _ _, by unfold small; simp, n4 _ (ss_nil (two _ _ ?_ (upd_self _ _ _) ?_ ?_))⟩⟩
    · rw [upd_ne _ _ (Ne.symm had)]; exact r1
    · rw [if_neg hz]; rfl
    · rw [upd_upd]; exact .new ha _
end
end Mine
set_option autoImplicit false
set_option maxRecDepth 10000
set_option linter.unusedVariables false
set_option linter.unusedSimpArgs false
namespace Mine
open PySem PyProof.Rows PySem.W

section
variable {P : PC} {Q : Fl → St → Prop} {t d : Addr} {td ti : Tx} {x7 x8 x9 x10 : Option V} {m : Mem}

theorem cat_le (k : Int) (r : Row) : (cat k r).length ≤ phi r := by
  induction r with
  | nil => simp [cat]
  | cons p r ih =>
    rw [cat_cons, phi_cons, List.length_append]
    split
    · omega
    · rw [List.length_nil]; omega
theorem trim_lens (q : Trim) : (trim q).ti.length ≤ q.ti.length ∧ (trim q).td.length ≤ q.td.length := by
  have a : (trimA q).ti.length ≤ q.ti.length ∧ (trimA q).td.length ≤ q.td.length := by unfold trimA; split <;> simp
  have b : (trim q).ti.length ≤ (trimA q).ti.length ∧ (trim q).td.length ≤ (trimA q).td.length := by unfold trim trimB; split <;> simp
  omega

/-- a run of two parts or more -/
theorem cm_b7 (c : Cm P) {done run rest : Row} {p : Int} {tx : Tx} (hT : Tool P m t) (hm : m d = some (.list (rv (done ++ (run ++ (0, tx) :: rest))))) (hdn : Dn done) (hr : Run run) (hp : p = (done.length + run.length : Nat)) (hφ : phi (done ++ (run ++ (0, tx) :: rest)) ≤ 1000)
    (h : ∀ m' td' ti' x7 x8 x9 (p' : Int), p' = (endR (trimR done run tx)).length → m' d = some (.list (rv (endR (trimR done run tx) ++ rest))) → Ext d m m' → Q .next (cmS t d p' (cnt (-1) run) (cnt 1 run) td' ti' x7 x8 x9 x10 m')) :
    wpSs P m_diff_cleanupMergeB7 Q (cmS t d p (cnt (-1) run) (cnt 1 run) (cat (-1) run) (cat 1 run) x7 x8 x9 x10 m) := by
  have hc := run_cnt hr
  have hL := len_le_phi (done ++ (run ++ (0, tx) :: rest))
  have φ1 : phi done + (phi run + (tx.length + 1 + phi rest)) ≤ 1000 := by rw [phi_append, phi_append, phi_cons] at hφ; exact hφ
  have c1 := cat_le 1 run
  have c2 := cat_le (-1) run
  have s1 : small (cat 1 run).length := by unfold small; omega
  have s2 : small (cat (-1) run).length := by unfold small; omega
  have tail : ∀ m' td' ti' x7 x8 (p' : Int) (q : Trim), q = trimR done run tx → td' = q.td → ti' = q.ti → p' = (q.done.length + run.length : Nat) → m' d = some (.list (rv (q.done ++ (run ++ (0, q.t) :: rest)))) → Ext d m m' → td'.length ≤ 1000 → ti'.length ≤ 1000 →
      wpSs P [.assign [.var 9] (.list []),
    .ife (.cmp (.bi .len [.var 5]) [.NotEq] [.lit (.int 0)]) [
      .expr (.me (.var 9) .append [.tup [.attr (.var 0) "DIFF_DELETE", .var 5]])] [],
    .ife (.cmp (.bi .len [.var 6]) [.NotEq] [.lit (.int 0)]) [
      .expr (.me (.var 9) .append [.tup [.attr (.var 0) "DIFF_INSERT", .var 6]])] [],
    .aug 2 .Sub (.bin .Add (.var 3) (.var 4)),
    .assign [.slc (.var 1) (.var 2) (.bin .Add (.bin .Add (.var 2) (.var 3)) (.var 4))] (.var 9),
    .aug 2 .Add (.bin .Add (.bi .len [.var 9]) (.lit (.int 1)))] Q (cmS t d p' (cnt (-1) run) (cnt 1 run) td' ti' x7 x8 x9 x10 m') := fun m' td' ti' x7 x8 p' q hq e1 e2 hp' hm' hx z1 z2 => by
    subst e1; subst e2
    have hw : tw q ≤ phi done + (cat (-1) run).length + (cat 1 run).length + tx.length := by
      rw [hq]; unfold trimR
      split
      · exact (trim_w _ hdn).1
      · exact Nat.le_refl _
    have lq := len_le_phi q.done
    have lr := len_le_phi rest
    have lrun := len_le_phi run
    refine cm_tail c (A := q.done) (run := run) (rest := (0, q.t) :: rest) (cdn := 0) (cin := 0) (hT.ext ⟨_, hm⟩ hx) hm' (by omega) hp' (by omega) (by omega) ?_ (by unfold small; omega) (by unfold small; omega) fun m'' x9' p'' hp'' hm'' hx' => ?_
    · unfold tw at hw
      unfold small
      simp only [List.length_append, List.length_cons]
      omega
    · have e : endR (trimR done run tx) ++ rest = q.done ++ (ops q.td q.ti ++ (0, q.t) :: rest) := by rw [← hq]; unfold endR; simp
      refine h _ _ _ _ _ _ _ ?_ (by rw [e]; exact hm'') (hx.trans hx')
      rw [hp'', ← hq]; unfold endR
      simp only [List.length_append, List.length_singleton]
  unfold m_diff_cleanupMergeB7
  refine ss_next fun Q1 n1 => s_ife fun K kt kf => ?_
  dsimp only [r_lit, r_var, r_bin, r_neg, r_not, r_list, r_tup, r_cmp, r_band, r_bor, r_idx, r_slc, r_attr, r_bi, r_call, r_me, r_imeth, r_comp, r_es0, r_es1, r_ch1, r_bo1, r_bo2, r_tnot, r_tband, r_tbor, r_tcmp, r_tvar, r_tcall, r_tme, r_tidx, r_tbi, r_ts0, r_ts1, r_tgs0, r_tgs1, r_sexpr, r_sassign, r_saug, r_sdel, r_sife, r_swhl, r_sfr, r_sret, r_ss0, r_ss1, tg_var, tg_tup, tg_idx, tg_slc, bin_add, bin_sub, bin_mul, bin_div, bin_mod, bin_cat, cmp_eqi, cmp_eqs, cmp_nei, cmp_nes, cmp_lt, cmp_le, cmp_gt, cmp_ge, cmp_isn, cmp_ist, cmp_notn, cmp_nott, tr_none, tr_bool, tr_int, tr_str, tr_tup, ix_str, ix_tup, sl_ii, sl_in, sl_ni, bi_lens, bi_lent, bi_min, bi_max, bi_rng, bi_rng2, me_find, me_find2, ok_find, me_app, ok_app, me_ins, me_pop, me_join, me_ends, me_starts, ok_ins, ok_pop, ok_join, ok_ends, ok_starts, it_str, it_rng, neg_int, aug_addi, aug_adds, aug_subi, St.set, St.setAll, List.map_cons, List.map_nil, List.replicate, List.cons_append, List.nil_append, List.getElem?_cons_succ, List.getElem?_cons_zero, List.set_cons_succ, List.set_cons_zero, List.length_cons, List.length_nil, dreduceIte, retV]
  by_cases hb : cnt (-1) run ≠ 0 ∧ cnt 1 run ≠ 0
  · have eR : trimR done run tx = trim ⟨done, cat (-1) run, cat 1 run, tx⟩ := by unfold trimR; rw [if_pos hb]
    rw [show (!decide ((cnt (-1) run : Int) = 0)) = true by simp [hb.1], show (!decide ((cnt 1 run : Int) = 0)) = true by simp [hb.2], if_pos rfl, if_pos rfl]
    have tl := trim_lens ⟨done, cat (-1) run, cat 1 run, tx⟩
    refine kt _ (cm_b6 c (done := done) (run := run) (rest := rest) hT hm hdn (by omega) hp (by unfold small; omega) s1 s2 (by unfold small; omega) (fun q hq => by have := txt_le_phi hq; unfold small; omega) fun m' x7 x8 p' hp' hm' hx =>
      n1 _ (tail m' _ _ x7 x8 p' _ eR.symm rfl rfl hp' hm' hx (by dsimp only at tl; omega) (by dsimp only at tl; omega)))
  · have eR : trimR done run tx = ⟨done, cat (-1) run, cat 1 run, tx⟩ := by unfold trimR; rw [if_neg hb]
    have go := n1 _ (tail m _ _ x7 x8 p _ eR.symm rfl rfl hp hm (.refl _ _) (by dsimp only; omega) (by dsimp only; omega))
    by_cases h0 : cnt (-1) run = 0
    · rw [show (!decide ((cnt (-1) run : Int) = 0)) = false by simp [h0], if_neg (by decide)]
      exact kf _ (ss_nil go)
    · have h0' : cnt 1 run = 0 := Classical.byContradiction fun q => hb ⟨h0, q⟩
      rw [show (!decide ((cnt (-1) run : Int) = 0)) = true by simp [h0], if_pos rfl, show (!decide ((cnt 1 run : Int) = 0)) = false by simp [h0'], if_neg (by decide)]
      exact kf _ (ss_nil go)

/-- the kept part joins the one before it -/
theorem cm_b8 {dn rest : Row} {p : Int} {u tx : Tx} {cd ci : Int} (hm : m d = some (.list (rv (dn ++ (0, u) :: (0, tx) :: rest)))) (hp : p = (dn.length + 1 : Nat)) (hφ : phi (dn ++ (0, u) :: (0, tx) :: rest) ≤ 1000)
    (h : ∀ m', m' d = some (.list (rv (dn ++ (0, u ++ tx) :: rest))) → Ext d m m' → Q .next (cmS t d p cd ci td ti x7 x8 x9 x10 m')) :
    wpSs P m_diff_cleanupMergeB8 Q (cmS t d p cd ci td ti x7 x8 x9 x10 m) := by
  have hL := len_le_phi (dn ++ (0, u) :: (0, tx) :: rest)
  rw [phi_append, phi_cons, phi_cons] at hφ
  have e1 : p - 1 = (dn.length : Int) := by omega
  have g1 : pyGet (dn ++ ((0 : Int), u) :: (0, tx) :: rest) (dn.length : Int) = some ((0 : Int), u) := pyGet_at _ _ _ rfl
  have e2 : dn ++ ((0 : Int), u) :: (0, tx) :: rest = (dn ++ [(0, u)]) ++ (0, tx) :: rest := by simp
  have g2 : pyGet (dn ++ ((0 : Int), u) :: (0, tx) :: rest) p = some ((0 : Int), tx) := by rw [e2]; exact pyGet_at _ _ _ (by simp; omega)
  simp only [List.length_append, List.length_cons] at hL
  rw [phi_append, phi_cons, phi_cons] at hL
  have t1 : tiny (dn.length : Int) := by unfold tiny; omega
  have t2 : tiny p := by unfold tiny; omega
  dsimp only at hφ hL
  unfold m_diff_cleanupMergeB8
  refine ss_next fun Q1 n1 => ?_
  dsimp only [r_lit, r_var, r_bin, r_neg, r_not, r_list, r_tup, r_cmp, r_band, r_bor, r_idx, r_slc, r_attr, r_bi, r_call, r_me, r_imeth, r_comp, r_es0, r_es1, r_ch1, r_bo1, r_bo2, r_tnot, r_tband, r_tbor, r_tcmp, r_tvar, r_tcall, r_tme, r_tidx, r_tbi, r_ts0, r_ts1, r_tgs0, r_tgs1, r_sexpr, r_sassign, r_saug, r_sdel, r_sife, r_swhl, r_sfr, r_sret, r_ss0, r_ss1, tg_var, tg_tup, tg_idx, tg_slc, bin_add, bin_sub, bin_mul, bin_div, bin_mod, bin_cat, cmp_eqi, cmp_eqs, cmp_nei, cmp_nes, cmp_lt, cmp_le, cmp_gt, cmp_ge, cmp_isn, cmp_ist, cmp_notn, cmp_nott, tr_none, tr_bool, tr_int, tr_str, tr_tup, ix_str, ix_tup, sl_ii, sl_in, sl_ni, bi_lens, bi_lent, bi_min, bi_max, bi_rng, bi_rng2, me_find, me_find2, ok_find, me_app, ok_app, me_ins, me_pop, me_join, me_ends, me_starts, ok_ins, ok_pop, ok_join, ok_ends, ok_starts, it_str, it_rng, neg_int, aug_addi, aug_adds, aug_subi, St.set, St.setAll, List.map_cons, List.map_nil, List.replicate, List.cons_append, List.nil_append, List.getElem?_cons_succ, List.getElem?_cons_zero, List.set_cons_succ, List.set_cons_zero, List.length_cons, List.length_nil, dreduceIte, retV]
  rw [e1]
  refine ix_row hm t1 g1 (ix_fst (ix_row hm t1 g1 (ix_snd (ix_row hm t2 g2 (ix_snd ?_)))))
  dsimp only [r_lit, r_var, r_bin, r_neg, r_not, r_list, r_tup, r_cmp, r_band, r_bor, r_idx, r_slc, r_attr, r_bi, r_call, r_me, r_imeth, r_comp, r_es0, r_es1, r_ch1, r_bo1, r_bo2, r_tnot, r_tband, r_tbor, r_tcmp, r_tvar, r_tcall, r_tme, r_tidx, r_tbi, r_ts0, r_ts1, r_tgs0, r_tgs1, r_sexpr, r_sassign, r_saug, r_sdel, r_sife, r_swhl, r_sfr, r_sret, r_ss0, r_ss1, tg_var, tg_tup, tg_idx, tg_slc, bin_add, bin_sub, bin_mul, bin_div, bin_mod, bin_cat, cmp_eqi, cmp_eqs, cmp_nei, cmp_nes, cmp_lt, cmp_le, cmp_gt, cmp_ge, cmp_isn, cmp_ist, cmp_notn, cmp_nott, tr_none, tr_bool, tr_int, tr_str, tr_tup, ix_str, ix_tup, sl_ii, sl_in, sl_ni, bi_lens, bi_lent, bi_min, bi_max, bi_rng, bi_rng2, me_find, me_find2, ok_find, me_app, ok_app, me_ins, me_pop, me_join, me_ends, me_starts, ok_ins, ok_pop, ok_join, ok_ends, ok_starts, it_str, it_rng, neg_int, aug_addi, aug_adds, aug_subi, St.set, St.setAll, List.map_cons, List.map_nil, List.replicate, List.cons_append, List.nil_append, List.getElem?_cons_succ, List.getElem?_cons_zero, List.set_cons_succ, List.set_cons_zero, List.length_cons, List.length_nil, dreduceIte, retV]
  refine ⟨by unfold small; omega, by unfold small; omega, d, _, _, dn.length, rfl, rfl, t1, hm, rv_ix _ _ _ rfl, n1 _ (ss_next fun Q2 n2 => ?_)⟩
  dsimp only [r_lit, r_var, r_bin, r_neg, r_not, r_list, r_tup, r_cmp, r_band, r_bor, r_idx, r_slc, r_attr, r_bi, r_call, r_me, r_imeth, r_comp, r_es0, r_es1, r_ch1, r_bo1, r_bo2, r_tnot, r_tband, r_tbor, r_tcmp, r_tvar, r_tcall, r_tme, r_tidx, r_tbi, r_ts0, r_ts1, r_tgs0, r_tgs1, r_sexpr, r_sassign, r_saug, r_sdel, r_sife, r_swhl, r_sfr, r_sret, r_ss0, r_ss1, tg_var, tg_tup, tg_idx, tg_slc, bin_add, bin_sub, bin_mul, bin_div, bin_mod, bin_cat, cmp_eqi, cmp_eqs, cmp_nei, cmp_nes, cmp_lt, cmp_le, cmp_gt, cmp_ge, cmp_isn, cmp_ist, cmp_notn, cmp_nott, tr_none, tr_bool, tr_int, tr_str, tr_tup, ix_str, ix_tup, sl_ii, sl_in, sl_ni, bi_lens, bi_lent, bi_min, bi_max, bi_rng, bi_rng2, me_find, me_find2, ok_find, me_app, ok_app, me_ins, me_pop, me_join, me_ends, me_starts, ok_ins, ok_pop, ok_join, ok_ends, ok_starts, it_str, it_rng, neg_int, aug_addi, aug_adds, aug_subi, St.set, St.setAll, List.map_cons, List.map_nil, List.replicate, List.cons_append, List.nil_append, List.getElem?_cons_succ, List.getElem?_cons_zero, List.set_cons_succ, List.set_cons_zero, List.length_cons, List.length_nil, dreduceIte, retV]
  have hm2 : upd m d (O.list ((rv (dn ++ (0, u) :: (0, tx) :: rest)).set dn.length (V.tup [V.int 0, V.str (u ++ tx)]))) d = some (.list (rv ((dn ++ [(0, u ++ tx)]) ++ (0, tx) :: rest))) := by
    rw [upd_self]
    refine congrArg (fun l => some (O.list l)) ((rv_set dn ((0, tx) :: rest) (0, u) (0, u ++ tx)).trans ?_)
    simp
  refine ⟨d, p, _, _, rfl, rfl, t2, hm2, rv_ix _ _ _ (by simp; omega), ?_, n2 _ (ss_nil (h _ ?_ ?_))⟩
  · rw [rv_len]; unfold small; simp; omega
  · rw [upd_self]
    refine congrArg (fun l => some (O.list l)) ?_
    have := rv_erase (dn ++ [(0, u ++ tx)]) rest (0, tx)
    rw [this]; simp
  · exact (Ext.upd _ _ _).trans (.upd _ _ _)

/-- a kept part is reached -/
theorem cm_b9 (c : Cm P) {done run rest : Row} {p : Int} {tx : Tx} (hT : Tool P m t) (hm : m d = some (.list (rv (done ++ (run ++ (0, tx) :: rest))))) (hdn : Dn done) (hr : Run run) (hp : p = (done.length + run.length : Nat)) (hφ : phi (done ++ (run ++ (0, tx) :: rest)) ≤ 1000)
    (h : ∀ m' x7 x8 x9 (p' : Int), p' = (eqStep done run tx).length → m' d = some (.list (rv (eqStep done run tx ++ rest))) → Ext d m m' → Q .next (cmS t d p' 0 0 [] [] x7 x8 x9 x10 m')) :
    wpSs P m_diff_cleanupMergeB9 Q (cmS t d p (cnt (-1) run) (cnt 1 run) (cat (-1) run) (cat 1 run) x7 x8 x9 x10 m) := by
  have hc := run_cnt hr
  have tail : ∀ m' td' ti' x7 x8 x9 (p' cd ci : Int), p' = (eqStep done run tx).length → m' d = some (.list (rv (eqStep done run tx ++ rest))) → Ext d m m' →
      wpSs P [.assign [.var 4] (.lit (.int 0)), .assign [.var 3] (.lit (.int 0)), .assign [.var 5] (.lit (.str [])), .assign [.var 6] (.lit (.str []))] Q (cmS t d p' cd ci td' ti' x7 x8 x9 x10 m') := fun m' td' ti' x7 x8 x9 p' cd ci e hm' hx => by
    dsimp only [r_lit, r_var, r_bin, r_neg, r_not, r_list, r_tup, r_cmp, r_band, r_bor, r_idx, r_slc, r_attr, r_bi, r_call, r_me, r_imeth, r_comp, r_es0, r_es1, r_ch1, r_bo1, r_bo2, r_tnot, r_tband, r_tbor, r_tcmp, r_tvar, r_tcall, r_tme, r_tidx, r_tbi, r_ts0, r_ts1, r_tgs0, r_tgs1, r_sexpr, r_sassign, r_saug, r_sdel, r_sife, r_swhl, r_sfr, r_sret, r_ss0, r_ss1, tg_var, tg_tup, tg_idx, tg_slc, bin_add, bin_sub, bin_mul, bin_div, bin_mod, bin_cat, cmp_eqi, cmp_eqs, cmp_nei, cmp_nes, cmp_lt, cmp_le, cmp_gt, cmp_ge, cmp_isn, cmp_ist, cmp_notn, cmp_nott, tr_none, tr_bool, tr_int, tr_str, tr_tup, ix_str, ix_tup, sl_ii, sl_in, sl_ni, bi_lens, bi_lent, bi_min, bi_max, bi_rng, bi_rng2, me_find, me_find2, ok_find, me_app, ok_app, me_ins, me_pop, me_join, me_ends, me_starts, ok_ins, ok_pop, ok_join, ok_ends, ok_starts, it_str, it_rng, neg_int, aug_addi, aug_adds, aug_subi, St.set, St.setAll, List.map_cons, List.map_nil, List.replicate, List.cons_append, List.nil_append, List.getElem?_cons_succ, List.getElem?_cons_zero, List.set_cons_succ, List.set_cons_zero, List.length_cons, List.length_nil, dreduceIte, retV]
    exact h _ _ _ _ _ e hm' hx
  unfold m_diff_cleanupMergeB9
  refine ss_next fun Q1 n1 => s_ife fun K kt kf => ?_
  dsimp only [r_lit, r_var, r_bin, r_neg, r_not, r_list, r_tup, r_cmp, r_band, r_bor, r_idx, r_slc, r_attr, r_bi, r_call, r_me, r_imeth, r_comp, r_es0, r_es1, r_ch1, r_bo1, r_bo2, r_tnot, r_tband, r_tbor, r_tcmp, r_tvar, r_tcall, r_tme, r_tidx, r_tbi, r_ts0, r_ts1, r_tgs0, r_tgs1, r_sexpr, r_sassign, r_saug, r_sdel, r_sife, r_swhl, r_sfr, r_sret, r_ss0, r_ss1, tg_var, tg_tup, tg_idx, tg_slc, bin_add, bin_sub, bin_mul, bin_div, bin_mod, bin_cat, cmp_eqi, cmp_eqs, cmp_nei, cmp_nes, cmp_lt, cmp_le, cmp_gt, cmp_ge, cmp_isn, cmp_ist, cmp_notn, cmp_nott, tr_none, tr_bool, tr_int, tr_str, tr_tup, ix_str, ix_tup, sl_ii, sl_in, sl_ni, bi_lens, bi_lent, bi_min, bi_max, bi_rng, bi_rng2, me_find, me_find2, ok_find, me_app, ok_app, me_ins, me_pop, me_join, me_ends, me_starts, ok_ins, ok_pop, ok_join, ok_ends, ok_starts, it_str, it_rng, neg_int, aug_addi, aug_adds, aug_subi, St.set, St.setAll, List.map_cons, List.map_nil, List.replicate, List.cons_append, List.nil_append, List.getElem?_cons_succ, List.getElem?_cons_zero, List.set_cons_succ, List.set_cons_zero, List.length_cons, List.length_nil, dreduceIte, retV]
  by_cases hb : 1 < run.length
  · rw [show decide ((1 : Int) < (cnt (-1) run : Int) + (cnt 1 run : Int)) = true by simp; omega]
    have eS : eqStep done run tx = endR (trimR done run tx) := by unfold eqStep; rw [if_pos hb]
    exact kt _ (cm_b7 c hT hm hdn hr hp hφ fun m' td' ti' x7 x8 x9 p' hp' hm' hx => n1 _ (tail _ _ _ _ _ _ _ _ _ (by rw [eS]; exact hp') (by rw [eS]; exact hm') hx))
  · rw [show decide ((1 : Int) < (cnt (-1) run : Int) + (cnt 1 run : Int)) = false by simp; omega]
    refine kf _ (ss_next fun Q2 n2 => s_ife fun K2 kt2 kf2 => ?_)
    dsimp only [r_lit, r_var, r_bin, r_neg, r_not, r_list, r_tup, r_cmp, r_band, r_bor, r_idx, r_slc, r_attr, r_bi, r_call, r_me, r_imeth, r_comp, r_es0, r_es1, r_ch1, r_bo1, r_bo2, r_tnot, r_tband, r_tbor, r_tcmp, r_tvar, r_tcall, r_tme, r_tidx, r_tbi, r_ts0, r_ts1, r_tgs0, r_tgs1, r_sexpr, r_sassign, r_saug, r_sdel, r_sife, r_swhl, r_sfr, r_sret, r_ss0, r_ss1, tg_var, tg_tup, tg_idx, tg_slc, bin_add, bin_sub, bin_mul, bin_div, bin_mod, bin_cat, cmp_eqi, cmp_eqs, cmp_nei, cmp_nes, cmp_lt, cmp_le, cmp_gt, cmp_ge, cmp_isn, cmp_ist, cmp_notn, cmp_nott, tr_none, tr_bool, tr_int, tr_str, tr_tup, ix_str, ix_tup, sl_ii, sl_in, sl_ni, bi_lens, bi_lent, bi_min, bi_max, bi_rng, bi_rng2, me_find, me_find2, ok_find, me_app, ok_app, me_ins, me_pop, me_join, me_ends, me_starts, ok_ins, ok_pop, ok_join, ok_ends, ok_starts, it_str, it_rng, neg_int, aug_addi, aug_adds, aug_subi, St.set, St.setAll, List.map_cons, List.map_nil, List.replicate, List.cons_append, List.nil_append, List.getElem?_cons_succ, List.getElem?_cons_zero, List.set_cons_succ, List.set_cons_zero, List.length_cons, List.length_nil, dreduceIte, retV]
    have hL := len_le_phi (done ++ (run ++ (0, tx) :: rest))
    simp only [List.length_append, List.length_cons] at hL
    by_cases hn : run = []
    · subst hn
      rcases hdn with rfl | ⟨dn, u, rfl⟩
      · rw [show (!decide (p = 0)) = false by simp [hp], if_neg (by decide)]
        refine kf2 _ (ss_next fun Q3 n3 => ?_)
        dsimp only [r_lit, r_var, r_bin, r_neg, r_not, r_list, r_tup, r_cmp, r_band, r_bor, r_idx, r_slc, r_attr, r_bi, r_call, r_me, r_imeth, r_comp, r_es0, r_es1, r_ch1, r_bo1, r_bo2, r_tnot, r_tband, r_tbor, r_tcmp, r_tvar, r_tcall, r_tme, r_tidx, r_tbi, r_ts0, r_ts1, r_tgs0, r_tgs1, r_sexpr, r_sassign, r_saug, r_sdel, r_sife, r_swhl, r_sfr, r_sret, r_ss0, r_ss1, tg_var, tg_tup, tg_idx, tg_slc, bin_add, bin_sub, bin_mul, bin_div, bin_mod, bin_cat, cmp_eqi, cmp_eqs, cmp_nei, cmp_nes, cmp_lt, cmp_le, cmp_gt, cmp_ge, cmp_isn, cmp_ist, cmp_notn, cmp_nott, tr_none, tr_bool, tr_int, tr_str, tr_tup, ix_str, ix_tup, sl_ii, sl_in, sl_ni, bi_lens, bi_lent, bi_min, bi_max, bi_rng, bi_rng2, me_find, me_find2, ok_find, me_app, ok_app, me_ins, me_pop, me_join, me_ends, me_starts, ok_ins, ok_pop, ok_join, ok_ends, ok_starts, it_str, it_rng, neg_int, aug_addi, aug_adds, aug_subi, St.set, St.setAll, List.map_cons, List.map_nil, List.replicate, List.cons_append, List.nil_append, List.getElem?_cons_succ, List.getElem?_cons_zero, List.set_cons_succ, List.set_cons_zero, List.length_cons, List.length_nil, dreduceIte, retV]
        refine n3 _ (ss_nil (n2 _ (ss_nil (n1 _ (tail _ _ _ _ _ _ _ _ _ ?_ hm (.refl _ _))))))
        rw [hp]; rfl
      · have eS : eqStep (dn ++ [((0 : Int), u)]) [] tx = dn ++ [(0, u ++ tx)] := by
          unfold eqStep; rw [if_neg (by simp), if_pos ⟨rfl, by simp⟩, addLast_cat]
        have hm' : m d = some (.list (rv (dn ++ (0, u) :: (0, tx) :: rest))) := by rw [hm]; simp
        have hp' : p = (dn.length + 1 : Nat) := by rw [hp]; simp
        have hg : pyGet (dn ++ ((0 : Int), u) :: (0, tx) :: rest) (p - 1) = some ((0 : Int), u) := pyGet_at _ _ _ (by omega)
        simp only [List.length_append, List.length_cons, List.length_nil] at hL
        rw [show (!decide (p = 0)) = true by simp; omega, if_pos rfl]
        refine ix_row hm' (by unfold tiny; omega) hg (ix_fst (at_cc hT c.cE.1 c.cE.2 ?_))
        dsimp only [r_lit, r_var, r_bin, r_neg, r_not, r_list, r_tup, r_cmp, r_band, r_bor, r_idx, r_slc, r_attr, r_bi, r_call, r_me, r_imeth, r_comp, r_es0, r_es1, r_ch1, r_bo1, r_bo2, r_tnot, r_tband, r_tbor, r_tcmp, r_tvar, r_tcall, r_tme, r_tidx, r_tbi, r_ts0, r_ts1, r_tgs0, r_tgs1, r_sexpr, r_sassign, r_saug, r_sdel, r_sife, r_swhl, r_sfr, r_sret, r_ss0, r_ss1, tg_var, tg_tup, tg_idx, tg_slc, bin_add, bin_sub, bin_mul, bin_div, bin_mod, bin_cat, cmp_eqi, cmp_eqs, cmp_nei, cmp_nes, cmp_lt, cmp_le, cmp_gt, cmp_ge, cmp_isn, cmp_ist, cmp_notn, cmp_nott, tr_none, tr_bool, tr_int, tr_str, tr_tup, ix_str, ix_tup, sl_ii, sl_in, sl_ni, bi_lens, bi_lent, bi_min, bi_max, bi_rng, bi_rng2, me_find, me_find2, ok_find, me_app, ok_app, me_ins, me_pop, me_join, me_ends, me_starts, ok_ins, ok_pop, ok_join, ok_ends, ok_starts, it_str, it_rng, neg_int, aug_addi, aug_adds, aug_subi, St.set, St.setAll, List.map_cons, List.map_nil, List.replicate, List.cons_append, List.nil_append, List.getElem?_cons_succ, List.getElem?_cons_zero, List.set_cons_succ, List.set_cons_zero, List.length_cons, List.length_nil, dreduceIte, retV]
        refine if_yes rfl (kt2 _ (cm_b8 hm' hp' (by simpa using hφ) fun m' hm'' hx => n2 _ (ss_nil (n1 _ (tail _ _ _ _ _ _ _ _ _ ?_ ?_ hx)))))
        · rw [eS, hp']; simp
        · rw [eS, hm'']; simp
    · obtain ⟨e, rfl⟩ : ∃ e, run = [e] := by
        cases run with
        | nil => exact absurd rfl hn
        | cons e r => cases r with
          | nil => exact ⟨e, rfl⟩
          | cons => simp at hb
      have eS : eqStep done [e] tx = done ++ [e] ++ [(0, tx)] := by
        unfold eqStep; rw [if_neg (by simp), if_neg (fun q => by cases q.1)]
      have hp' : p = (done.length + 1 : Nat) := hp
      have hg : pyGet (done ++ e :: ((0 : Int), tx) :: rest) (p - 1) = some e := pyGet_at _ _ _ (by omega)
      have hm' : m d = some (.list (rv (done ++ e :: (0, tx) :: rest))) := hm
      simp only [List.length_singleton] at hL
      rw [show (!decide (p = 0)) = true by simp; omega, if_pos rfl]
      refine ix_row hm' (by unfold tiny; omega) hg (ix_fst (at_cc hT c.cE.1 c.cE.2 ?_))
      dsimp only [r_lit, r_var, r_bin, r_neg, r_not, r_list, r_tup, r_cmp, r_band, r_bor, r_idx, r_slc, r_attr, r_bi, r_call, r_me, r_imeth, r_comp, r_es0, r_es1, r_ch1, r_bo1, r_bo2, r_tnot, r_tband, r_tbor, r_tcmp, r_tvar, r_tcall, r_tme, r_tidx, r_tbi, r_ts0, r_ts1, r_tgs0, r_tgs1, r_sexpr, r_sassign, r_saug, r_sdel, r_sife, r_swhl, r_sfr, r_sret, r_ss0, r_ss1, tg_var, tg_tup, tg_idx, tg_slc, bin_add, bin_sub, bin_mul, bin_div, bin_mod, bin_cat, cmp_eqi, cmp_eqs, cmp_nei, cmp_nes, cmp_lt, cmp_le, cmp_gt, cmp_ge, cmp_isn, cmp_ist, cmp_notn, cmp_nott, tr_none, tr_bool, tr_int, tr_str, tr_tup, ix_str, ix_tup, sl_ii, sl_in, sl_ni, bi_lens, bi_lent, bi_min, bi_max, bi_rng, bi_rng2, me_find, me_find2, ok_find, me_app, ok_app, me_ins, me_pop, me_join, me_ends, me_starts, ok_ins, ok_pop, ok_join, ok_ends, ok_starts, it_str, it_rng, neg_int, aug_addi, aug_adds, aug_subi, St.set, St.setAll, List.map_cons, List.map_nil, List.replicate, List.cons_append, List.nil_append, List.getElem?_cons_succ, List.getElem?_cons_zero, List.set_cons_succ, List.set_cons_zero, List.length_cons, List.length_nil, dreduceIte, retV]
      have he : e.1 ≠ 0 := by rcases hr e (List.mem_singleton.mpr rfl) with q | q <;> rw [q] <;> decide
      refine if_no he (kf2 _ (ss_next fun Q3 n3 => ?_))
      dsimp only [r_lit, r_var, r_bin, r_neg, r_not, r_list, r_tup, r_cmp, r_band, r_bor, r_idx, r_slc, r_attr, r_bi, r_call, r_me, r_imeth, r_comp, r_es0, r_es1, r_ch1, r_bo1, r_bo2, r_tnot, r_tband, r_tbor, r_tcmp, r_tvar, r_tcall, r_tme, r_tidx, r_tbi, r_ts0, r_ts1, r_tgs0, r_tgs1, r_sexpr, r_sassign, r_saug, r_sdel, r_sife, r_swhl, r_sfr, r_sret, r_ss0, r_ss1, tg_var, tg_tup, tg_idx, tg_slc, bin_add, bin_sub, bin_mul, bin_div, bin_mod, bin_cat, cmp_eqi, cmp_eqs, cmp_nei, cmp_nes, cmp_lt, cmp_le, cmp_gt, cmp_ge, cmp_isn, cmp_ist, cmp_notn, cmp_nott, tr_none, tr_bool, tr_int, tr_str, tr_tup, ix_str, ix_tup, sl_ii, sl_in, sl_ni, bi_lens, bi_lent, bi_min, bi_max, bi_rng, bi_rng2, me_find, me_find2, ok_find, me_app, ok_app, me_ins, me_pop, me_join, me_ends, me_starts, ok_ins, ok_pop, ok_join, ok_ends, ok_starts, it_str, it_rng, neg_int, aug_addi, aug_adds, aug_subi, St.set, St.setAll, List.map_cons, List.map_nil, List.replicate, List.cons_append, List.nil_append, List.getElem?_cons_succ, List.getElem?_cons_zero, List.set_cons_succ, List.set_cons_zero, List.length_cons, List.length_nil, dreduceIte, retV]
      refine n3 _ (ss_nil (n2 _ (ss_nil (n1 _ (tail _ _ _ _ _ _ _ _ _ ?_ ?_ (.refl _ _))))))
      · rw [eS, hp']; simp; omega
      · rw [eS, hm]; simp
end
end Mine
set_option autoImplicit false
set_option maxRecDepth 10000
set_option linter.unusedVariables false
set_option linter.unusedSimpArgs false
namespace Mine
open PySem PyProof.Rows PySem.W

theorem len_row {d : Addr} {L : Row} {m : Mem} {K : V → Mem → Prop} (hm : m d = some (.list (rv L))) (hs : small L.length) (h : K (.int L.length) m) : wpBi m .len [.obj d] K :=
  ⟨_, .inl hm, by rw [rv_len]; exact hs, by rw [rv_len]; exact h⟩

section
variable {P : PC} {Q : Fl → St → Prop} {t d : Addr} {x7 x8 x9 x10 : Option V} {m : Mem}

/-- the state between two turns -/
noncomputable abbrev cmR (t d : Addr) (done run : Row) (x7 x8 x9 x10 : Option V) (m : Mem) : St :=
  cmS t d (done.length + run.length : Nat) (cnt (-1) run) (cnt 1 run) (cat (-1) run) (cat 1 run) x7 x8 x9 x10 m

theorem cm_b10 (c : Cm P) {done run rest : Row} {q : Part} (hT : Tool P m t) (hm : m d = some (.list (rv (done ++ (run ++ q :: rest))))) (hdn : Dn done) (hr : Run run) (hq : Kind q.1) (hφ : phi (done ++ (run ++ q :: rest)) ≤ 1000)
    (h0 : q.1 = 0 → ∀ m' x7 x8 x9, m' d = some (.list (rv (eqStep done run q.2 ++ rest))) → Ext d m m' → Q .next (cmR t d (eqStep done run q.2) [] x7 x8 x9 x10 m'))
    (h1 : q.1 ≠ 0 → Q .next (cmR t d done (run ++ [q]) x7 x8 x9 x10 m)) :
    wpSs P m_diff_cleanupMergeB10 Q (cmR t d done run x7 x8 x9 x10 m) := by
  have e1 : done ++ (run ++ q :: rest) = (done ++ run) ++ q :: rest := by simp
  have hg : pyGet (done ++ (run ++ q :: rest)) ((done.length + run.length : Nat) : Int) = some q := by rw [e1]; exact pyGet_at _ _ _ (by simp)
  have hL := len_le_phi (done ++ (run ++ q :: rest))
  have φ1 : phi done + (phi run + (q.2.length + 1 + phi rest)) ≤ 1000 := by rw [phi_append, phi_append, phi_cons] at hφ; exact hφ
  have c1 := cat_le 1 run
  have c2 := cat_le (-1) run
  simp only [List.length_append, List.length_cons] at hL
  have ht : tiny ((done.length + run.length : Nat) : Int) := by unfold tiny; omega
  unfold m_diff_cleanupMergeB10
  refine ss_next fun Q1 n1 => s_ife fun K kt kf => ?_
  dsimp only [r_lit, r_var, r_bin, r_neg, r_not, r_list, r_tup, r_cmp, r_band, r_bor, r_idx, r_slc, r_attr, r_bi, r_call, r_me, r_imeth, r_comp, r_es0, r_es1, r_ch1, r_bo1, r_bo2, r_tnot, r_tband, r_tbor, r_tcmp, r_tvar, r_tcall, r_tme, r_tidx, r_tbi, r_ts0, r_ts1, r_tgs0, r_tgs1, r_sexpr, r_sassign, r_saug, r_sdel, r_sife, r_swhl, r_sfr, r_sret, r_ss0, r_ss1, tg_var, tg_tup, tg_idx, tg_slc, bin_add, bin_sub, bin_mul, bin_div, bin_mod, bin_cat, cmp_eqi, cmp_eqs, cmp_nei, cmp_nes, cmp_lt, cmp_le, cmp_gt, cmp_ge, cmp_isn, cmp_ist, cmp_notn, cmp_nott, tr_none, tr_bool, tr_int, tr_str, tr_tup, ix_str, ix_tup, sl_ii, sl_in, sl_ni, bi_lens, bi_lent, bi_min, bi_max, bi_rng, bi_rng2, me_find, me_find2, ok_find, me_app, ok_app, me_ins, me_pop, me_join, me_ends, me_starts, ok_ins, ok_pop, ok_join, ok_ends, ok_starts, it_str, it_rng, neg_int, aug_addi, aug_adds, aug_subi, St.set, St.setAll, List.map_cons, List.map_nil, List.replicate, List.cons_append, List.nil_append, List.getElem?_cons_succ, List.getElem?_cons_zero, List.set_cons_succ, List.set_cons_zero, List.length_cons, List.length_nil, dreduceIte, retV]
  refine ix_row hm ht hg (ix_fst (at_cc hT c.cI.1 c.cI.2 ?_))
  dsimp only [r_lit, r_var, r_bin, r_neg, r_not, r_list, r_tup, r_cmp, r_band, r_bor, r_idx, r_slc, r_attr, r_bi, r_call, r_me, r_imeth, r_comp, r_es0, r_es1, r_ch1, r_bo1, r_bo2, r_tnot, r_tband, r_tbor, r_tcmp, r_tvar, r_tcall, r_tme, r_tidx, r_tbi, r_ts0, r_ts1, r_tgs0, r_tgs1, r_sexpr, r_sassign, r_saug, r_sdel, r_sife, r_swhl, r_sfr, r_sret, r_ss0, r_ss1, tg_var, tg_tup, tg_idx, tg_slc, bin_add, bin_sub, bin_mul, bin_div, bin_mod, bin_cat, cmp_eqi, cmp_eqs, cmp_nei, cmp_nes, cmp_lt, cmp_le, cmp_gt, cmp_ge, cmp_isn, cmp_ist, cmp_notn, cmp_nott, tr_none, tr_bool, tr_int, tr_str, tr_tup, ix_str, ix_tup, sl_ii, sl_in, sl_ni, bi_lens, bi_lent, bi_min, bi_max, bi_rng, bi_rng2, me_find, me_find2, ok_find, me_app, ok_app, me_ins, me_pop, me_join, me_ends, me_starts, ok_ins, ok_pop, ok_join, ok_ends, ok_starts, it_str, it_rng, neg_int, aug_addi, aug_adds, aug_subi, St.set, St.setAll, List.map_cons, List.map_nil, List.replicate, List.cons_append, List.nil_append, List.getElem?_cons_succ, List.getElem?_cons_zero, List.set_cons_succ, List.set_cons_zero, List.length_cons, List.length_nil, dreduceIte, retV]
  have cast : ∀ n : Nat, ((n : Int) + 1) = ((n + 1 : Nat) : Int) := fun n => rfl
  have run' : q.1 ≠ 0 → ∀ (p cd ci : Int) (td ti : Tx), p = (done.length + (run ++ [q]).length : Nat) → cd = cnt (-1) (run ++ [q]) → ci = cnt 1 (run ++ [q]) → td = cat (-1) (run ++ [q]) → ti = cat 1 (run ++ [q]) → Q .next (cmS t d p cd ci td ti x7 x8 x9 x10 m) := by
    rintro hz p cd ci td ti rfl rfl rfl rfl rfl
    exact h1 hz
  rcases hq with hq | hq | hq
  · rw [show decide (q.1 = 1) = false by rw [hq]; rfl]
    refine kf _ (ss_next fun Q2 n2 => s_ife fun K2 kt2 kf2 => ?_)
    dsimp only [r_lit, r_var, r_bin, r_neg, r_not, r_list, r_tup, r_cmp, r_band, r_bor, r_idx, r_slc, r_attr, r_bi, r_call, r_me, r_imeth, r_comp, r_es0, r_es1, r_ch1, r_bo1, r_bo2, r_tnot, r_tband, r_tbor, r_tcmp, r_tvar, r_tcall, r_tme, r_tidx, r_tbi, r_ts0, r_ts1, r_tgs0, r_tgs1, r_sexpr, r_sassign, r_saug, r_sdel, r_sife, r_swhl, r_sfr, r_sret, r_ss0, r_ss1, tg_var, tg_tup, tg_idx, tg_slc, bin_add, bin_sub, bin_mul, bin_div, bin_mod, bin_cat, cmp_eqi, cmp_eqs, cmp_nei, cmp_nes, cmp_lt, cmp_le, cmp_gt, cmp_ge, cmp_isn, cmp_ist, cmp_notn, cmp_nott, tr_none, tr_bool, tr_int, tr_str, tr_tup, ix_str, ix_tup, sl_ii, sl_in, sl_ni, bi_lens, bi_lent, bi_min, bi_max, bi_rng, bi_rng2, me_find, me_find2, ok_find, me_app, ok_app, me_ins, me_pop, me_join, me_ends, me_starts, ok_ins, ok_pop, ok_join, ok_ends, ok_starts, it_str, it_rng, neg_int, aug_addi, aug_adds, aug_subi, St.set, St.setAll, List.map_cons, List.map_nil, List.replicate, List.cons_append, List.nil_append, List.getElem?_cons_succ, List.getElem?_cons_zero, List.set_cons_succ, List.set_cons_zero, List.length_cons, List.length_nil, dreduceIte, retV]
    refine ix_row hm ht hg (ix_fst (at_cc hT c.cD.1 c.cD.2 ?_))
    dsimp only [r_lit, r_var, r_bin, r_neg, r_not, r_list, r_tup, r_cmp, r_band, r_bor, r_idx, r_slc, r_attr, r_bi, r_call, r_me, r_imeth, r_comp, r_es0, r_es1, r_ch1, r_bo1, r_bo2, r_tnot, r_tband, r_tbor, r_tcmp, r_tvar, r_tcall, r_tme, r_tidx, r_tbi, r_ts0, r_ts1, r_tgs0, r_tgs1, r_sexpr, r_sassign, r_saug, r_sdel, r_sife, r_swhl, r_sfr, r_sret, r_ss0, r_ss1, tg_var, tg_tup, tg_idx, tg_slc, bin_add, bin_sub, bin_mul, bin_div, bin_mod, bin_cat, cmp_eqi, cmp_eqs, cmp_nei, cmp_nes, cmp_lt, cmp_le, cmp_gt, cmp_ge, cmp_isn, cmp_ist, cmp_notn, cmp_nott, tr_none, tr_bool, tr_int, tr_str, tr_tup, ix_str, ix_tup, sl_ii, sl_in, sl_ni, bi_lens, bi_lent, bi_min, bi_max, bi_rng, bi_rng2, me_find, me_find2, ok_find, me_app, ok_app, me_ins, me_pop, me_join, me_ends, me_starts, ok_ins, ok_pop, ok_join, ok_ends, ok_starts, it_str, it_rng, neg_int, aug_addi, aug_adds, aug_subi, St.set, St.setAll, List.map_cons, List.map_nil, List.replicate, List.cons_append, List.nil_append, List.getElem?_cons_succ, List.getElem?_cons_zero, List.set_cons_succ, List.set_cons_zero, List.length_cons, List.length_nil, dreduceIte, retV]
    rw [show decide (q.1 = -1) = true by rw [hq]; rfl]
    refine kt2 _ (cm_b2 hm ht hg (by unfold small; omega) (by unfold small; omega) (n2 _ (ss_nil (n1 _ (ss_nil (run' (by rw [hq]; decide) _ _ _ _ _ ?_ ?_ ?_ ?_ ?_))))))
    · rw [List.length_append]; rfl
    · rw [cnt_append, cnt_one, if_pos hq]; rfl
    · rw [cnt_append, cnt_one, if_neg (by rw [hq]; decide)]; rfl
    · rw [cat_append, cat_one, if_pos hq]
    · rw [cat_append, cat_one, if_neg (by rw [hq]; decide), List.append_nil]
  · rw [show decide (q.1 = 1) = false by rw [hq]; rfl]
    refine kf _ (ss_next fun Q2 n2 => s_ife fun K2 kt2 kf2 => ?_)
    dsimp only [r_lit, r_var, r_bin, r_neg, r_not, r_list, r_tup, r_cmp, r_band, r_bor, r_idx, r_slc, r_attr, r_bi, r_call, r_me, r_imeth, r_comp, r_es0, r_es1, r_ch1, r_bo1, r_bo2, r_tnot, r_tband, r_tbor, r_tcmp, r_tvar, r_tcall, r_tme, r_tidx, r_tbi, r_ts0, r_ts1, r_tgs0, r_tgs1, r_sexpr, r_sassign, r_saug, r_sdel, r_sife, r_swhl, r_sfr, r_sret, r_ss0, r_ss1, tg_var, tg_tup, tg_idx, tg_slc, bin_add, bin_sub, bin_mul, bin_div, bin_mod, bin_cat, cmp_eqi, cmp_eqs, cmp_nei, cmp_nes, cmp_lt, cmp_le, cmp_gt, cmp_ge, cmp_isn, cmp_ist, cmp_notn, cmp_nott, tr_none, tr_bool, tr_int, tr_str, tr_tup, ix_str, ix_tup, sl_ii, sl_in, sl_ni, bi_lens, bi_lent, bi_min, bi_max, bi_rng, bi_rng2, me_find, me_find2, ok_find, me_app, ok_app, me_ins, me_pop, me_join, me_ends, me_starts, ok_ins, ok_pop, ok_join, ok_ends, ok_starts, it_str, it_rng, neg_int, aug_addi, aug_adds, aug_subi, St.set, St.setAll, List.map_cons, List.map_nil, List.replicate, List.cons_append, List.nil_append, List.getElem?_cons_succ, List.getElem?_cons_zero, List.set_cons_succ, List.set_cons_zero, List.length_cons, List.length_nil, dreduceIte, retV]
    refine ix_row hm ht hg (ix_fst (at_cc hT c.cD.1 c.cD.2 ?_))
    dsimp only [r_lit, r_var, r_bin, r_neg, r_not, r_list, r_tup, r_cmp, r_band, r_bor, r_idx, r_slc, r_attr, r_bi, r_call, r_me, r_imeth, r_comp, r_es0, r_es1, r_ch1, r_bo1, r_bo2, r_tnot, r_tband, r_tbor, r_tcmp, r_tvar, r_tcall, r_tme, r_tidx, r_tbi, r_ts0, r_ts1, r_tgs0, r_tgs1, r_sexpr, r_sassign, r_saug, r_sdel, r_sife, r_swhl, r_sfr, r_sret, r_ss0, r_ss1, tg_var, tg_tup, tg_idx, tg_slc, bin_add, bin_sub, bin_mul, bin_div, bin_mod, bin_cat, cmp_eqi, cmp_eqs, cmp_nei, cmp_nes, cmp_lt, cmp_le, cmp_gt, cmp_ge, cmp_isn, cmp_ist, cmp_notn, cmp_nott, tr_none, tr_bool, tr_int, tr_str, tr_tup, ix_str, ix_tup, sl_ii, sl_in, sl_ni, bi_lens, bi_lent, bi_min, bi_max, bi_rng, bi_rng2, me_find, me_find2, ok_find, me_app, ok_app, me_ins, me_pop, me_join, me_ends, me_starts, ok_ins, ok_pop, ok_join, ok_ends, ok_starts, it_str, it_rng, neg_int, aug_addi, aug_adds, aug_subi, St.set, St.setAll, List.map_cons, List.map_nil, List.replicate, List.cons_append, List.nil_append, List.getElem?_cons_succ, List.getElem?_cons_zero, List.set_cons_succ, List.set_cons_zero, List.length_cons, List.length_nil, dreduceIte, retV]
    rw [show decide (q.1 = -1) = false by rw [hq]; rfl]
    refine kf2 _ (ss_next fun Q3 n3 => s_ife fun K3 kt3 kf3 => ?_)
    dsimp only [r_lit, r_var, r_bin, r_neg, r_not, r_list, r_tup, r_cmp, r_band, r_bor, r_idx, r_slc, r_attr, r_bi, r_call, r_me, r_imeth, r_comp, r_es0, r_es1, r_ch1, r_bo1, r_bo2, r_tnot, r_tband, r_tbor, r_tcmp, r_tvar, r_tcall, r_tme, r_tidx, r_tbi, r_ts0, r_ts1, r_tgs0, r_tgs1, r_sexpr, r_sassign, r_saug, r_sdel, r_sife, r_swhl, r_sfr, r_sret, r_ss0, r_ss1, tg_var, tg_tup, tg_idx, tg_slc, bin_add, bin_sub, bin_mul, bin_div, bin_mod, bin_cat, cmp_eqi, cmp_eqs, cmp_nei, cmp_nes, cmp_lt, cmp_le, cmp_gt, cmp_ge, cmp_isn, cmp_ist, cmp_notn, cmp_nott, tr_none, tr_bool, tr_int, tr_str, tr_tup, ix_str, ix_tup, sl_ii, sl_in, sl_ni, bi_lens, bi_lent, bi_min, bi_max, bi_rng, bi_rng2, me_find, me_find2, ok_find, me_app, ok_app, me_ins, me_pop, me_join, me_ends, me_starts, ok_ins, ok_pop, ok_join, ok_ends, ok_starts, it_str, it_rng, neg_int, aug_addi, aug_adds, aug_subi, St.set, St.setAll, List.map_cons, List.map_nil, List.replicate, List.cons_append, List.nil_append, List.getElem?_cons_succ, List.getElem?_cons_zero, List.set_cons_succ, List.set_cons_zero, List.length_cons, List.length_nil, dreduceIte, retV]
    refine ix_row hm ht hg (ix_fst (at_cc hT c.cE.1 c.cE.2 ?_))
    dsimp only [r_lit, r_var, r_bin, r_neg, r_not, r_list, r_tup, r_cmp, r_band, r_bor, r_idx, r_slc, r_attr, r_bi, r_call, r_me, r_imeth, r_comp, r_es0, r_es1, r_ch1, r_bo1, r_bo2, r_tnot, r_tband, r_tbor, r_tcmp, r_tvar, r_tcall, r_tme, r_tidx, r_tbi, r_ts0, r_ts1, r_tgs0, r_tgs1, r_sexpr, r_sassign, r_saug, r_sdel, r_sife, r_swhl, r_sfr, r_sret, r_ss0, r_ss1, tg_var, tg_tup, tg_idx, tg_slc, bin_add, bin_sub, bin_mul, bin_div, bin_mod, bin_cat, cmp_eqi, cmp_eqs, cmp_nei, cmp_nes, cmp_lt, cmp_le, cmp_gt, cmp_ge, cmp_isn, cmp_ist, cmp_notn, cmp_nott, tr_none, tr_bool, tr_int, tr_str, tr_tup, ix_str, ix_tup, sl_ii, sl_in, sl_ni, bi_lens, bi_lent, bi_min, bi_max, bi_rng, bi_rng2, me_find, me_find2, ok_find, me_app, ok_app, me_ins, me_pop, me_join, me_ends, me_starts, ok_ins, ok_pop, ok_join, ok_ends, ok_starts, it_str, it_rng, neg_int, aug_addi, aug_adds, aug_subi, St.set, St.setAll, List.map_cons, List.map_nil, List.replicate, List.cons_append, List.nil_append, List.getElem?_cons_succ, List.getElem?_cons_zero, List.set_cons_succ, List.set_cons_zero, List.length_cons, List.length_nil, dreduceIte, retV]
    rw [show decide (q.1 = 0) = true by rw [hq]; rfl]
    have eq : q = (0, q.2) := by rw [← hq]
    have hm' : m d = some (.list (rv (done ++ (run ++ (0, q.2) :: rest)))) := by rw [← eq]; exact hm
    refine kt3 _ (cm_b9 c hT hm' hdn hr rfl (by rw [← eq]; exact hφ) fun m' x7 x8 x9 p' hp' hm'' hx => n3 _ (ss_nil (n2 _ (ss_nil (n1 _ (ss_nil ?_))))))
    subst hp'
    exact h0 hq m' x7 x8 x9 hm'' hx
  · rw [show decide (q.1 = 1) = true by rw [hq]; rfl]
    refine kt _ (cm_b1 hm ht hg (by unfold small; omega) (by unfold small; omega) (n1 _ (ss_nil (run' (by rw [hq]; decide) _ _ _ _ _ ?_ ?_ ?_ ?_ ?_))))
    · rw [List.length_append]; rfl
    · rw [cnt_append, cnt_one, if_neg (by rw [hq]; decide)]; rfl
    · rw [cnt_append, cnt_one, if_pos hq]; rfl
    · rw [cat_append, cat_one, if_neg (by rw [hq]; decide), List.append_nil]
    · rw [cat_append, cat_one, if_pos hq]

theorem mergeGo_keep {done run : Row} {k : Int} {tx : Tx} {r : Row} (h : k = 0) : mergeGo done run ((k, tx) :: r) = mergeGo (eqStep done run tx) [] r := by rw [mergeGo, if_pos h]
theorem mergeGo_turn {done run : Row} {q : Part} {r : Row} (h : q.1 ≠ 0) : mergeGo done run (q :: r) = mergeGo done (run ++ [q]) r := by
  obtain ⟨k, tx⟩ := q
  rw [mergeGo, if_neg h]

/-- the first loop -/
theorem cm_loop1 (c : Cm P) {todo : Row} (hT : Tool P m t) (hm : m d = some (.list (rv todo))) (hk : ∀ q ∈ todo, Kind q.1) (hφ : phi todo ≤ 1000)
    (h : ∀ m' p cd ci td ti x7 x8 x9, m' d = some (.list (rv (mergeGo [] [] todo))) → phi (mergeGo [] [] todo) ≤ phi todo → Ext d m m' → Q .next (cmS t d p cd ci td ti x7 x8 x9 x10 m')) :
    wpS P (.whl (.cmp (.var 2) [.Lt] [.bi .len [.var 1]]) m_diff_cleanupMergeB10) Q (cmR t d [] [] x7 x8 x9 x10 m) := by
  refine ⟨fun n σ => ∃ done run todo' m' x7 x8 x9, σ = cmR t d done run x7 x8 x9 x10 m' ∧ n = todo'.length ∧ Dn done ∧ Run run ∧ (∀ q ∈ todo', Kind q.1) ∧ m' d = some (.list (rv (done ++ (run ++ todo')))) ∧ Ext d m m' ∧
    phi (done ++ (run ++ todo')) ≤ phi todo ∧ mergeGo done run todo' = mergeGo [] [] todo, ⟨_, [], [], todo, m, x7, x8, x9, rfl, rfl, .inl rfl, fun _ h => by simp at h, hk, hm, .refl _ _, Nat.le_refl _, rfl⟩, ?_⟩
  rintro n σ ⟨done, run, todo', m', x7, x8, x9, rfl, rfl, hdn, hr, hk', hm', hx, hφ', hM⟩
  have hL := len_le_phi (done ++ (run ++ todo'))
  dsimp only [r_lit, r_var, r_bin, r_neg, r_not, r_list, r_tup, r_cmp, r_band, r_bor, r_idx, r_slc, r_attr, r_bi, r_call, r_me, r_imeth, r_comp, r_es0, r_es1, r_ch1, r_bo1, r_bo2, r_tnot, r_tband, r_tbor, r_tcmp, r_tvar, r_tcall, r_tme, r_tidx, r_tbi, r_ts0, r_ts1, r_tgs0, r_tgs1, r_sexpr, r_sassign, r_saug, r_sdel, r_sife, r_swhl, r_sfr, r_sret, r_ss0, r_ss1, tg_var, tg_tup, tg_idx, tg_slc, bin_add, bin_sub, bin_mul, bin_div, bin_mod, bin_cat, cmp_eqi, cmp_eqs, cmp_nei, cmp_nes, cmp_lt, cmp_le, cmp_gt, cmp_ge, cmp_isn, cmp_ist, cmp_notn, cmp_nott, tr_none, tr_bool, tr_int, tr_str, tr_tup, ix_str, ix_tup, sl_ii, sl_in, sl_ni, bi_lens, bi_lent, bi_min, bi_max, bi_rng, bi_rng2, me_find, me_find2, ok_find, me_app, ok_app, me_ins, me_pop, me_join, me_ends, me_starts, ok_ins, ok_pop, ok_join, ok_ends, ok_starts, it_str, it_rng, neg_int, aug_addi, aug_adds, aug_subi, St.set, St.setAll, List.map_cons, List.map_nil, List.replicate, List.cons_append, List.nil_append, List.getElem?_cons_succ, List.getElem?_cons_zero, List.set_cons_succ, List.set_cons_zero, List.length_cons, List.length_nil, dreduceIte, retV]
  refine len_row hm' (by unfold small; omega) ?_
  dsimp only [r_lit, r_var, r_bin, r_neg, r_not, r_list, r_tup, r_cmp, r_band, r_bor, r_idx, r_slc, r_attr, r_bi, r_call, r_me, r_imeth, r_comp, r_es0, r_es1, r_ch1, r_bo1, r_bo2, r_tnot, r_tband, r_tbor, r_tcmp, r_tvar, r_tcall, r_tme, r_tidx, r_tbi, r_ts0, r_ts1, r_tgs0, r_tgs1, r_sexpr, r_sassign, r_saug, r_sdel, r_sife, r_swhl, r_sfr, r_sret, r_ss0, r_ss1, tg_var, tg_tup, tg_idx, tg_slc, bin_add, bin_sub, bin_mul, bin_div, bin_mod, bin_cat, cmp_eqi, cmp_eqs, cmp_nei, cmp_nes, cmp_lt, cmp_le, cmp_gt, cmp_ge, cmp_isn, cmp_ist, cmp_notn, cmp_nott, tr_none, tr_bool, tr_int, tr_str, tr_tup, ix_str, ix_tup, sl_ii, sl_in, sl_ni, bi_lens, bi_lent, bi_min, bi_max, bi_rng, bi_rng2, me_find, me_find2, ok_find, me_app, ok_app, me_ins, me_pop, me_join, me_ends, me_starts, ok_ins, ok_pop, ok_join, ok_ends, ok_starts, it_str, it_rng, neg_int, aug_addi, aug_adds, aug_subi, St.set, St.setAll, List.map_cons, List.map_nil, List.replicate, List.cons_append, List.nil_append, List.getElem?_cons_succ, List.getElem?_cons_zero, List.set_cons_succ, List.set_cons_zero, List.length_cons, List.length_nil, dreduceIte, retV]
  simp only [List.length_append] at hL ⊢
  cases todo' with
  | nil =>
    refine if_no (by simp) (h _ _ _ _ _ _ _ _ _ ?_ ?_ hx)
    · rw [← hM, hm', List.append_nil]; rfl
    · rw [← hM]; simpa [mergeGo] using hφ'
  | cons q rest =>
    refine if_yes (by simp; omega) ?_
    have e : phi (done ++ (run ++ q :: rest)) = phi done + (phi run + (q.2.length + 1 + phi rest)) := by rw [phi_append, phi_append, phi_cons]
    refine cm_b10 c (hT.ext ⟨_, hm⟩ hx) hm' hdn hr (hk' q List.mem_cons_self) (by omega) (fun hq m'' x7 x8 x9 g1 g2 => ?_) (fun hq => ?_)
    · refine ⟨rest.length, by simp, _, [], rest, m'', x7, x8, x9, rfl, rfl, .inr (eqStep_dn hdn _), fun _ h => by simp at h, fun q hq => hk' q (List.mem_cons_of_mem _ hq), g1, hx.trans g2, ?_, ?_⟩
      · have := phi_eqStep (run := run) hdn q.2
        rw [List.nil_append, phi_append]; omega
      · rw [← hM]
        obtain ⟨k, tx⟩ := q
        exact (mergeGo_keep hq).symm
    · refine ⟨rest.length, by simp, done, run ++ [q], rest, m', x7, x8, x9, rfl, rfl, hdn, ?_, fun q hq => hk' q (List.mem_cons_of_mem _ hq), ?_, hx, ?_, ?_⟩
      · intro p hp
        rcases List.mem_append.mp hp with hp | hp
        · exact hr p hp
        · rw [List.mem_singleton] at hp; subst hp
          rcases hk' p List.mem_cons_self with z | z | z
          · exact .inl z
          · exact absurd z hq
          · exact .inr z
      · rw [hm']; simp
      · simpa using hφ'
      · rw [← hM]; exact (mergeGo_turn hq).symm
end
end Mine
set_option autoImplicit false
set_option maxRecDepth 10000
set_option linter.unusedVariables false
set_option linter.unusedSimpArgs false
namespace Mine
open PySem PyProof.Rows PySem.W

section
variable {P : PC} {Q : Fl → St → Prop} {t d : Addr} {td ti : Tx} {cd ci : Int} {x7 x8 x9 x10 : Option V} {m : Mem}

/-- three places in a row -/
structure At3 (L : Row) (p : Int) (A : Row) (a b c : Part) (C : Row) : Prop where
  e : L = A ++ a :: b :: c :: C
  hp : p = (A.length + 1 : Nat)
theorem At3.g1 {L : Row} {p : Int} {A : Row} {a b c : Part} {C : Row} (h : At3 L p A a b c C) : pyGet L (p - 1) = some a := by
  rw [h.e]; exact pyGet_at _ _ _ (by rw [h.hp]; omega)
theorem At3.g2 {L : Row} {p : Int} {A : Row} {a b c : Part} {C : Row} (h : At3 L p A a b c C) : pyGet L p = some b := by
  rw [h.e, show A ++ a :: b :: c :: C = (A ++ [a]) ++ b :: c :: C by simp]; exact pyGet_at _ _ _ (by rw [h.hp]; simp)
theorem At3.g3 {L : Row} {p : Int} {A : Row} {a b c : Part} {C : Row} (h : At3 L p A a b c C) : pyGet L (p + 1) = some c := by
  rw [h.e, show A ++ a :: b :: c :: C = (A ++ [a, b]) ++ c :: C by simp]; exact pyGet_at _ _ _ (by rw [h.hp]; simp; omega)
theorem At3.i1 {L : Row} {p : Int} {A : Row} {a b c : Part} {C : Row} (h : At3 L p A a b c C) : pyIx (rv L).length (p - 1) = some A.length := by
  rw [h.e]; exact rv_ix _ _ _ (by rw [h.hp]; omega)
theorem At3.i2 {L : Row} {p : Int} {A : Row} {a b c : Part} {C : Row} (h : At3 L p A a b c C) : pyIx (rv L).length p = some (A ++ [a]).length := by
  rw [h.e, show A ++ a :: b :: c :: C = (A ++ [a]) ++ b :: c :: C by simp]; exact rv_ix _ _ _ (by rw [h.hp]; simp)
theorem At3.i3 {L : Row} {p : Int} {A : Row} {a b c : Part} {C : Row} (h : At3 L p A a b c C) : pyIx (rv L).length (p + 1) = some (A ++ [a, b]).length := by
  rw [h.e, show A ++ a :: b :: c :: C = (A ++ [a, b]) ++ c :: C by simp]; exact rv_ix _ _ _ (by rw [h.hp]; simp; omega)
theorem At3.s1 {L : Row} {p : Int} {A : Row} {a b c : Part} {C : Row} (h : At3 L p A a b c C) (a' : Part) : (rv L).set A.length (pv a') = rv (A ++ a' :: b :: c :: C) := by
  rw [h.e]; exact rv_set _ _ _ _
theorem At3.s2 {L : Row} {p : Int} {A : Row} {a b c : Part} {C : Row} (h : At3 L p A a b c C) (b' : Part) : (rv L).set (A ++ [a]).length (pv b') = rv (A ++ a :: b' :: c :: C) := by
  rw [h.e, show A ++ a :: b :: c :: C = (A ++ [a]) ++ b :: c :: C by simp, rv_set]; simp
theorem At3.s3 {L : Row} {p : Int} {A : Row} {a b c : Part} {C : Row} (h : At3 L p A a b c C) (c' : Part) : (rv L).set (A ++ [a, b]).length (pv c') = rv (A ++ a :: b :: c' :: C) := by
  rw [h.e, show A ++ a :: b :: c :: C = (A ++ [a, b]) ++ c :: C by simp, rv_set]; simp
theorem At3.d1 {L : Row} {p : Int} {A : Row} {a b c : Part} {C : Row} (h : At3 L p A a b c C) : (rv L).eraseIdx A.length = rv (A ++ b :: c :: C) := by
  rw [h.e, rv_erase]
theorem At3.d3 {L : Row} {p : Int} {A : Row} {a b c : Part} {C : Row} (h : At3 L p A a b c C) : (rv L).eraseIdx (A ++ [a, b]).length = rv (A ++ a :: b :: C) := by
  rw [h.e, show A ++ a :: b :: c :: C = (A ++ [a, b]) ++ c :: C by simp, rv_erase]; simp
theorem At3.tin {L : Row} {p : Int} {A : Row} {a b c : Part} {C : Row} (h : At3 L p A a b c C) (hs : L.length ≤ 1000) : tiny (p - 1) ∧ tiny p ∧ tiny (p + 1) := by
  have e := h.hp
  rw [h.e] at hs
  simp at hs
  unfold tiny; omega

theorem cm_b12 {L A C : Row} {p : Int} {a b c : Part} (h3 : At3 L p A a b c C) (hm : m d = some (.list (rv L))) (hs : L.length ≤ 1000) (ha : a.2.length ≤ 1000) (hb : b.2.length ≤ 1000) (hc : c.2.length ≤ 1000) (he : a.2.length ≤ b.2.length)
    (h : ∀ m', m' d = some (.list (rv (A ++ (b.1, a.2 ++ b.2.take (b.2.length - a.2.length)) :: (c.1, a.2 ++ c.2) :: C))) → Ext d m m' → Q .next (cmS t d p cd ci td ti x7 x8 x9 (some (.bool true)) m')) :
    wpSs P m_diff_cleanupMergeB12 Q (cmS t d p cd ci td ti x7 x8 x9 x10 m) := by
  obtain ⟨t1, t2, t3⟩ := h3.tin hs
  have sm : ∀ {n : Nat}, n ≤ 2000 → small n := fun h => by unfold small; omega
  have tail : ∀ m' b' c', At3 (A ++ a :: b' :: c' :: C) p A a b' c' C → m' d = some (.list (rv (A ++ a :: b' :: c' :: C))) → Ext d m m' → b' = (b.1, a.2 ++ b.2.take (b.2.length - a.2.length)) → c' = (c.1, a.2 ++ c.2) →
      wpSs P [.del (.var 1) (.bin .Sub (.var 2) (.lit (.int 1))), .assign [.var 10] (.lit (.bool true))] Q (cmS t d p cd ci td ti x7 x8 x9 x10 m') := fun m' b' c' g hm' hx e1 e2 => by
    dsimp only [r_lit, r_var, r_bin, r_neg, r_not, r_list, r_tup, r_cmp, r_band, r_bor, r_idx, r_slc, r_attr, r_bi, r_call, r_me, r_imeth, r_comp, r_es0, r_es1, r_ch1, r_bo1, r_bo2, r_tnot, r_tband, r_tbor, r_tcmp, r_tvar, r_tcall, r_tme, r_tidx, r_tbi, r_ts0, r_ts1, r_tgs0, r_tgs1, r_sexpr, r_sassign, r_saug, r_sdel, r_sife, r_swhl, r_sfr, r_sret, r_ss0, r_ss1, tg_var, tg_tup, tg_idx, tg_slc, bin_add, bin_sub, bin_mul, bin_div, bin_mod, bin_cat, cmp_eqi, cmp_eqs, cmp_nei, cmp_nes, cmp_lt, cmp_le, cmp_gt, cmp_ge, cmp_isn, cmp_ist, cmp_notn, cmp_nott, tr_none, tr_bool, tr_int, tr_str, tr_tup, ix_str, ix_tup, sl_ii, sl_in, sl_ni, bi_lens, bi_lent, bi_min, bi_max, bi_rng, bi_rng2, me_find, me_find2, ok_find, me_app, ok_app, me_ins, me_pop, me_join, me_ends, me_starts, ok_ins, ok_pop, ok_join, ok_ends, ok_starts, it_str, it_rng, neg_int, aug_addi, aug_adds, aug_subi, St.set, St.setAll, List.map_cons, List.map_nil, List.replicate, List.cons_append, List.nil_append, List.getElem?_cons_succ, List.getElem?_cons_zero, List.set_cons_succ, List.set_cons_zero, List.length_cons, List.length_nil, dreduceIte, retV]
    refine ⟨d, _, _, A.length, rfl, rfl, t1, hm', g.i1, ?_, h _ ?_ (hx.trans (.upd _ _ _))⟩
    · rw [rv_len]; rw [h3.e] at hs; simp at hs; exact sm (by simp; omega)
    · rw [upd_self, g.d1, e1, e2]
  unfold m_diff_cleanupMergeB12
  refine ss_next fun Q1 n1 => s_ife fun K kt kf => ?_
  dsimp only [r_lit, r_var, r_bin, r_neg, r_not, r_list, r_tup, r_cmp, r_band, r_bor, r_idx, r_slc, r_attr, r_bi, r_call, r_me, r_imeth, r_comp, r_es0, r_es1, r_ch1, r_bo1, r_bo2, r_tnot, r_tband, r_tbor, r_tcmp, r_tvar, r_tcall, r_tme, r_tidx, r_tbi, r_ts0, r_ts1, r_tgs0, r_tgs1, r_sexpr, r_sassign, r_saug, r_sdel, r_sife, r_swhl, r_sfr, r_sret, r_ss0, r_ss1, tg_var, tg_tup, tg_idx, tg_slc, bin_add, bin_sub, bin_mul, bin_div, bin_mod, bin_cat, cmp_eqi, cmp_eqs, cmp_nei, cmp_nes, cmp_lt, cmp_le, cmp_gt, cmp_ge, cmp_isn, cmp_ist, cmp_notn, cmp_nott, tr_none, tr_bool, tr_int, tr_str, tr_tup, ix_str, ix_tup, sl_ii, sl_in, sl_ni, bi_lens, bi_lent, bi_min, bi_max, bi_rng, bi_rng2, me_find, me_find2, ok_find, me_app, ok_app, me_ins, me_pop, me_join, me_ends, me_starts, ok_ins, ok_pop, ok_join, ok_ends, ok_starts, it_str, it_rng, neg_int, aug_addi, aug_adds, aug_subi, St.set, St.setAll, List.map_cons, List.map_nil, List.replicate, List.cons_append, List.nil_append, List.getElem?_cons_succ, List.getElem?_cons_zero, List.set_cons_succ, List.set_cons_zero, List.length_cons, List.length_nil, dreduceIte, retV]
  refine ix_row hm t1 h3.g1 (ix_snd ?_)
  dsimp only [r_lit, r_var, r_bin, r_neg, r_not, r_list, r_tup, r_cmp, r_band, r_bor, r_idx, r_slc, r_attr, r_bi, r_call, r_me, r_imeth, r_comp, r_es0, r_es1, r_ch1, r_bo1, r_bo2, r_tnot, r_tband, r_tbor, r_tcmp, r_tvar, r_tcall, r_tme, r_tidx, r_tbi, r_ts0, r_ts1, r_tgs0, r_tgs1, r_sexpr, r_sassign, r_saug, r_sdel, r_sife, r_swhl, r_sfr, r_sret, r_ss0, r_ss1, tg_var, tg_tup, tg_idx, tg_slc, bin_add, bin_sub, bin_mul, bin_div, bin_mod, bin_cat, cmp_eqi, cmp_eqs, cmp_nei, cmp_nes, cmp_lt, cmp_le, cmp_gt, cmp_ge, cmp_isn, cmp_ist, cmp_notn, cmp_nott, tr_none, tr_bool, tr_int, tr_str, tr_tup, ix_str, ix_tup, sl_ii, sl_in, sl_ni, bi_lens, bi_lent, bi_min, bi_max, bi_rng, bi_rng2, me_find, me_find2, ok_find, me_app, ok_app, me_ins, me_pop, me_join, me_ends, me_starts, ok_ins, ok_pop, ok_join, ok_ends, ok_starts, it_str, it_rng, neg_int, aug_addi, aug_adds, aug_subi, St.set, St.setAll, List.map_cons, List.map_nil, List.replicate, List.cons_append, List.nil_append, List.getElem?_cons_succ, List.getElem?_cons_zero, List.set_cons_succ, List.set_cons_zero, List.length_cons, List.length_nil, dreduceIte, retV]
  by_cases hz : a.2 = []
  · rw [show (!decide (a.2 = [])) = false by simp [hz]]
    refine kf _ (ss_nil (n1 _ (tail m b c ?_ ?_ (.refl _ _) ?_ ?_)))
    · exact ⟨rfl, h3.hp⟩
    · rw [hm, h3.e]
    · rw [hz]; simp
    · rw [hz]; rfl
  · rw [show (!decide (a.2 = [])) = true by simp [hz]]
    refine kt _ ?_
    have h0 : 0 < a.2.length := List.length_pos_iff.mpr hz
    unfold m_diff_cleanupMergeB11
    refine ss_next fun Q2 n2 => ?_
    dsimp only [r_lit, r_var, r_bin, r_neg, r_not, r_list, r_tup, r_cmp, r_band, r_bor, r_idx, r_slc, r_attr, r_bi, r_call, r_me, r_imeth, r_comp, r_es0, r_es1, r_ch1, r_bo1, r_bo2, r_tnot, r_tband, r_tbor, r_tcmp, r_tvar, r_tcall, r_tme, r_tidx, r_tbi, r_ts0, r_ts1, r_tgs0, r_tgs1, r_sexpr, r_sassign, r_saug, r_sdel, r_sife, r_swhl, r_sfr, r_sret, r_ss0, r_ss1, tg_var, tg_tup, tg_idx, tg_slc, bin_add, bin_sub, bin_mul, bin_div, bin_mod, bin_cat, cmp_eqi, cmp_eqs, cmp_nei, cmp_nes, cmp_lt, cmp_le, cmp_gt, cmp_ge, cmp_isn, cmp_ist, cmp_notn, cmp_nott, tr_none, tr_bool, tr_int, tr_str, tr_tup, ix_str, ix_tup, sl_ii, sl_in, sl_ni, bi_lens, bi_lent, bi_min, bi_max, bi_rng, bi_rng2, me_find, me_find2, ok_find, me_app, ok_app, me_ins, me_pop, me_join, me_ends, me_starts, ok_ins, ok_pop, ok_join, ok_ends, ok_starts, it_str, it_rng, neg_int, aug_addi, aug_adds, aug_subi, St.set, St.setAll, List.map_cons, List.map_nil, List.replicate, List.cons_append, List.nil_append, List.getElem?_cons_succ, List.getElem?_cons_zero, List.set_cons_succ, List.set_cons_zero, List.length_cons, List.length_nil, dreduceIte, retV]
    refine ix_row hm t2 h3.g2 (ix_fst (ix_row hm t1 h3.g1 (ix_snd (ix_row hm t2 h3.g2 (ix_snd (ix_row hm t1 h3.g1 (ix_snd ?_)))))))
    dsimp only [r_lit, r_var, r_bin, r_neg, r_not, r_list, r_tup, r_cmp, r_band, r_bor, r_idx, r_slc, r_attr, r_bi, r_call, r_me, r_imeth, r_comp, r_es0, r_es1, r_ch1, r_bo1, r_bo2, r_tnot, r_tband, r_tbor, r_tcmp, r_tvar, r_tcall, r_tme, r_tidx, r_tbi, r_ts0, r_ts1, r_tgs0, r_tgs1, r_sexpr, r_sassign, r_saug, r_sdel, r_sife, r_swhl, r_sfr, r_sret, r_ss0, r_ss1, tg_var, tg_tup, tg_idx, tg_slc, bin_add, bin_sub, bin_mul, bin_div, bin_mod, bin_cat, cmp_eqi, cmp_eqs, cmp_nei, cmp_nes, cmp_lt, cmp_le, cmp_gt, cmp_ge, cmp_isn, cmp_ist, cmp_notn, cmp_nott, tr_none, tr_bool, tr_int, tr_str, tr_tup, ix_str, ix_tup, sl_ii, sl_in, sl_ni, bi_lens, bi_lent, bi_min, bi_max, bi_rng, bi_rng2, me_find, me_find2, ok_find, me_app, ok_app, me_ins, me_pop, me_join, me_ends, me_starts, ok_ins, ok_pop, ok_join, ok_ends, ok_starts, it_str, it_rng, neg_int, aug_addi, aug_adds, aug_subi, St.set, St.setAll, List.map_cons, List.map_nil, List.replicate, List.cons_append, List.nil_append, List.getElem?_cons_succ, List.getElem?_cons_zero, List.set_cons_succ, List.set_cons_zero, List.length_cons, List.length_nil, dreduceIte, retV]
    rw [pySl_nto h0 he]
    have g1 : At3 (A ++ a :: (b.1, a.2 ++ b.2.take (b.2.length - a.2.length)) :: c :: C) p A a (b.1, a.2 ++ b.2.take (b.2.length - a.2.length)) c C := ⟨rfl, h3.hp⟩
    refine ⟨sm (by omega), sm (by omega), sm (by omega), sm (by simp; omega), d, _, _, _, rfl, rfl, t2, hm, h3.i2, n2 _ (ss_next fun Q3 n3 => ?_)⟩
    have hm1 : upd m d (O.list ((rv L).set (A ++ [a]).length (V.tup [V.int b.1, V.str (a.2 ++ b.2.take (b.2.length - a.2.length))]))) d = some (.list (rv (A ++ a :: (b.1, a.2 ++ b.2.take (b.2.length - a.2.length)) :: c :: C))) := by
      rw [upd_self]; exact congrArg (fun l => some (O.list l)) (h3.s2 (b.1, a.2 ++ b.2.take (b.2.length - a.2.length)))
    dsimp only [r_lit, r_var, r_bin, r_neg, r_not, r_list, r_tup, r_cmp, r_band, r_bor, r_idx, r_slc, r_attr, r_bi, r_call, r_me, r_imeth, r_comp, r_es0, r_es1, r_ch1, r_bo1, r_bo2, r_tnot, r_tband, r_tbor, r_tcmp, r_tvar, r_tcall, r_tme, r_tidx, r_tbi, r_ts0, r_ts1, r_tgs0, r_tgs1, r_sexpr, r_sassign, r_saug, r_sdel, r_sife, r_swhl, r_sfr, r_sret, r_ss0, r_ss1, tg_var, tg_tup, tg_idx, tg_slc, bin_add, bin_sub, bin_mul, bin_div, bin_mod, bin_cat, cmp_eqi, cmp_eqs, cmp_nei, cmp_nes, cmp_lt, cmp_le, cmp_gt, cmp_ge, cmp_isn, cmp_ist, cmp_notn, cmp_nott, tr_none, tr_bool, tr_int, tr_str, tr_tup, ix_str, ix_tup, sl_ii, sl_in, sl_ni, bi_lens, bi_lent, bi_min, bi_max, bi_rng, bi_rng2, me_find, me_find2, ok_find, me_app, ok_app, me_ins, me_pop, me_join, me_ends, me_starts, ok_ins, ok_pop, ok_join, ok_ends, ok_starts, it_str, it_rng, neg_int, aug_addi, aug_adds, aug_subi, St.set, St.setAll, List.map_cons, List.map_nil, List.replicate, List.cons_append, List.nil_append, List.getElem?_cons_succ, List.getElem?_cons_zero, List.set_cons_succ, List.set_cons_zero, List.length_cons, List.length_nil, dreduceIte, retV]
    refine ix_row hm1 t3 g1.g3 (ix_fst (ix_row hm1 t1 g1.g1 (ix_snd (ix_row hm1 t3 g1.g3 (ix_snd ?_)))))
    dsimp only [r_lit, r_var, r_bin, r_neg, r_not, r_list, r_tup, r_cmp, r_band, r_bor, r_idx, r_slc, r_attr, r_bi, r_call, r_me, r_imeth, r_comp, r_es0, r_es1, r_ch1, r_bo1, r_bo2, r_tnot, r_tband, r_tbor, r_tcmp, r_tvar, r_tcall, r_tme, r_tidx, r_tbi, r_ts0, r_ts1, r_tgs0, r_tgs1, r_sexpr, r_sassign, r_saug, r_sdel, r_sife, r_swhl, r_sfr, r_sret, r_ss0, r_ss1, tg_var, tg_tup, tg_idx, tg_slc, bin_add, bin_sub, bin_mul, bin_div, bin_mod, bin_cat, cmp_eqi, cmp_eqs, cmp_nei, cmp_nes, cmp_lt, cmp_le, cmp_gt, cmp_ge, cmp_isn, cmp_ist, cmp_notn, cmp_nott, tr_none, tr_bool, tr_int, tr_str, tr_tup, ix_str, ix_tup, sl_ii, sl_in, sl_ni, bi_lens, bi_lent, bi_min, bi_max, bi_rng, bi_rng2, me_find, me_find2, ok_find, me_app, ok_app, me_ins, me_pop, me_join, me_ends, me_starts, ok_ins, ok_pop, ok_join, ok_ends, ok_starts, it_str, it_rng, neg_int, aug_addi, aug_adds, aug_subi, St.set, St.setAll, List.map_cons, List.map_nil, List.replicate, List.cons_append, List.nil_append, List.getElem?_cons_succ, List.getElem?_cons_zero, List.set_cons_succ, List.set_cons_zero, List.length_cons, List.length_nil, dreduceIte, retV]
    refine ⟨sm (by omega), sm (by omega), d, _, _, _, rfl, rfl, t3, hm1, g1.i3, n3 _ (ss_nil (n1 _ (tail _ _ _ ⟨rfl, h3.hp⟩ ?_ ((Ext.upd _ _ _).trans (.upd _ _ _)) rfl rfl)))⟩
    rw [upd_self]; exact congrArg (fun l => some (O.list l)) (g1.s3 (c.1, a.2 ++ c.2))

theorem cm_b13 {L A C : Row} {p : Int} {a b c : Part} (h3 : At3 L p A a b c C) (hm : m d = some (.list (rv L))) (hs : L.length ≤ 1000) (ha : a.2.length ≤ 1000) (hb : b.2.length ≤ 1000) (hc : c.2.length ≤ 1000) (he : c.2.length ≤ b.2.length)
    (h : ∀ m', m' d = some (.list (rv (A ++ (a.1, a.2 ++ c.2) :: (b.1, b.2.drop c.2.length ++ c.2) :: C))) → Ext d m m' → Q .next (cmS t d p cd ci td ti x7 x8 x9 (some (.bool true)) m')) :
    wpSs P m_diff_cleanupMergeB13 Q (cmS t d p cd ci td ti x7 x8 x9 x10 m) := by
  obtain ⟨t1, t2, t3⟩ := h3.tin hs
  have sm : ∀ {n : Nat}, n ≤ 2000 → small n := fun h => by unfold small; omega
  unfold m_diff_cleanupMergeB13
  refine ss_next fun Q2 n2 => ?_
  dsimp only [r_lit, r_var, r_bin, r_neg, r_not, r_list, r_tup, r_cmp, r_band, r_bor, r_idx, r_slc, r_attr, r_bi, r_call, r_me, r_imeth, r_comp, r_es0, r_es1, r_ch1, r_bo1, r_bo2, r_tnot, r_tband, r_tbor, r_tcmp, r_tvar, r_tcall, r_tme, r_tidx, r_tbi, r_ts0, r_ts1, r_tgs0, r_tgs1, r_sexpr, r_sassign, r_saug, r_sdel, r_sife, r_swhl, r_sfr, r_sret, r_ss0, r_ss1, tg_var, tg_tup, tg_idx, tg_slc, bin_add, bin_sub, bin_mul, bin_div, bin_mod, bin_cat, cmp_eqi, cmp_eqs, cmp_nei, cmp_nes, cmp_lt, cmp_le, cmp_gt, cmp_ge, cmp_isn, cmp_ist, cmp_notn, cmp_nott, tr_none, tr_bool, tr_int, tr_str, tr_tup, ix_str, ix_tup, sl_ii, sl_in, sl_ni, bi_lens, bi_lent, bi_min, bi_max, bi_rng, bi_rng2, me_find, me_find2, ok_find, me_app, ok_app, me_ins, me_pop, me_join, me_ends, me_starts, ok_ins, ok_pop, ok_join, ok_ends, ok_starts, it_str, it_rng, neg_int, aug_addi, aug_adds, aug_subi, St.set, St.setAll, List.map_cons, List.map_nil, List.replicate, List.cons_append, List.nil_append, List.getElem?_cons_succ, List.getElem?_cons_zero, List.set_cons_succ, List.set_cons_zero, List.length_cons, List.length_nil, dreduceIte, retV]
  refine ix_row hm t1 h3.g1 (ix_fst (ix_row hm t1 h3.g1 (ix_snd (ix_row hm t3 h3.g3 (ix_snd ?_)))))
  dsimp only [r_lit, r_var, r_bin, r_neg, r_not, r_list, r_tup, r_cmp, r_band, r_bor, r_idx, r_slc, r_attr, r_bi, r_call, r_me, r_imeth, r_comp, r_es0, r_es1, r_ch1, r_bo1, r_bo2, r_tnot, r_tband, r_tbor, r_tcmp, r_tvar, r_tcall, r_tme, r_tidx, r_tbi, r_ts0, r_ts1, r_tgs0, r_tgs1, r_sexpr, r_sassign, r_saug, r_sdel, r_sife, r_swhl, r_sfr, r_sret, r_ss0, r_ss1, tg_var, tg_tup, tg_idx, tg_slc, bin_add, bin_sub, bin_mul, bin_div, bin_mod, bin_cat, cmp_eqi, cmp_eqs, cmp_nei, cmp_nes, cmp_lt, cmp_le, cmp_gt, cmp_ge, cmp_isn, cmp_ist, cmp_notn, cmp_nott, tr_none, tr_bool, tr_int, tr_str, tr_tup, ix_str, ix_tup, sl_ii, sl_in, sl_ni, bi_lens, bi_lent, bi_min, bi_max, bi_rng, bi_rng2, me_find, me_find2, ok_find, me_app, ok_app, me_ins, me_pop, me_join, me_ends, me_starts, ok_ins, ok_pop, ok_join, ok_ends, ok_starts, it_str, it_rng, neg_int, aug_addi, aug_adds, aug_subi, St.set, St.setAll, List.map_cons, List.map_nil, List.replicate, List.cons_append, List.nil_append, List.getElem?_cons_succ, List.getElem?_cons_zero, List.set_cons_succ, List.set_cons_zero, List.length_cons, List.length_nil, dreduceIte, retV]
  have g1 : At3 (A ++ (a.1, a.2 ++ c.2) :: b :: c :: C) p A (a.1, a.2 ++ c.2) b c C := ⟨rfl, h3.hp⟩
  refine ⟨sm (by omega), sm (by omega), d, _, _, _, rfl, rfl, t1, hm, h3.i1, n2 _ (ss_next fun Q3 n3 => ?_)⟩
  have hm1 : upd m d (O.list ((rv L).set A.length (V.tup [V.int a.1, V.str (a.2 ++ c.2)]))) d = some (.list (rv (A ++ (a.1, a.2 ++ c.2) :: b :: c :: C))) := by
    rw [upd_self]; exact congrArg (fun l => some (O.list l)) (h3.s1 (a.1, a.2 ++ c.2))
  dsimp only [r_lit, r_var, r_bin, r_neg, r_not, r_list, r_tup, r_cmp, r_band, r_bor, r_idx, r_slc, r_attr, r_bi, r_call, r_me, r_imeth, r_comp, r_es0, r_es1, r_ch1, r_bo1, r_bo2, r_tnot, r_tband, r_tbor, r_tcmp, r_tvar, r_tcall, r_tme, r_tidx, r_tbi, r_ts0, r_ts1, r_tgs0, r_tgs1, r_sexpr, r_sassign, r_saug, r_sdel, r_sife, r_swhl, r_sfr, r_sret, r_ss0, r_ss1, tg_var, tg_tup, tg_idx, tg_slc, bin_add, bin_sub, bin_mul, bin_div, bin_mod, bin_cat, cmp_eqi, cmp_eqs, cmp_nei, cmp_nes, cmp_lt, cmp_le, cmp_gt, cmp_ge, cmp_isn, cmp_ist, cmp_notn, cmp_nott, tr_none, tr_bool, tr_int, tr_str, tr_tup, ix_str, ix_tup, sl_ii, sl_in, sl_ni, bi_lens, bi_lent, bi_min, bi_max, bi_rng, bi_rng2, me_find, me_find2, ok_find, me_app, ok_app, me_ins, me_pop, me_join, me_ends, me_starts, ok_ins, ok_pop, ok_join, ok_ends, ok_starts, it_str, it_rng, neg_int, aug_addi, aug_adds, aug_subi, St.set, St.setAll, List.map_cons, List.map_nil, List.replicate, List.cons_append, List.nil_append, List.getElem?_cons_succ, List.getElem?_cons_zero, List.set_cons_succ, List.set_cons_zero, List.length_cons, List.length_nil, dreduceIte, retV]
  refine ix_row hm1 t2 g1.g2 (ix_fst (ix_row hm1 t2 g1.g2 (ix_snd (ix_row hm1 t3 g1.g3 (ix_snd ?_)))))
  dsimp only [r_lit, r_var, r_bin, r_neg, r_not, r_list, r_tup, r_cmp, r_band, r_bor, r_idx, r_slc, r_attr, r_bi, r_call, r_me, r_imeth, r_comp, r_es0, r_es1, r_ch1, r_bo1, r_bo2, r_tnot, r_tband, r_tbor, r_tcmp, r_tvar, r_tcall, r_tme, r_tidx, r_tbi, r_ts0, r_ts1, r_tgs0, r_tgs1, r_sexpr, r_sassign, r_saug, r_sdel, r_sife, r_swhl, r_sfr, r_sret, r_ss0, r_ss1, tg_var, tg_tup, tg_idx, tg_slc, bin_add, bin_sub, bin_mul, bin_div, bin_mod, bin_cat, cmp_eqi, cmp_eqs, cmp_nei, cmp_nes, cmp_lt, cmp_le, cmp_gt, cmp_ge, cmp_isn, cmp_ist, cmp_notn, cmp_nott, tr_none, tr_bool, tr_int, tr_str, tr_tup, ix_str, ix_tup, sl_ii, sl_in, sl_ni, bi_lens, bi_lent, bi_min, bi_max, bi_rng, bi_rng2, me_find, me_find2, ok_find, me_app, ok_app, me_ins, me_pop, me_join, me_ends, me_starts, ok_ins, ok_pop, ok_join, ok_ends, ok_starts, it_str, it_rng, neg_int, aug_addi, aug_adds, aug_subi, St.set, St.setAll, List.map_cons, List.map_nil, List.replicate, List.cons_append, List.nil_append, List.getElem?_cons_succ, List.getElem?_cons_zero, List.set_cons_succ, List.set_cons_zero, List.length_cons, List.length_nil, dreduceIte, retV]
  refine ⟨sm (by omega), sm (by omega), ix_row hm1 t3 g1.g3 (ix_snd ?_)⟩
  dsimp only [r_lit, r_var, r_bin, r_neg, r_not, r_list, r_tup, r_cmp, r_band, r_bor, r_idx, r_slc, r_attr, r_bi, r_call, r_me, r_imeth, r_comp, r_es0, r_es1, r_ch1, r_bo1, r_bo2, r_tnot, r_tband, r_tbor, r_tcmp, r_tvar, r_tcall, r_tme, r_tidx, r_tbi, r_ts0, r_ts1, r_tgs0, r_tgs1, r_sexpr, r_sassign, r_saug, r_sdel, r_sife, r_swhl, r_sfr, r_sret, r_ss0, r_ss1, tg_var, tg_tup, tg_idx, tg_slc, bin_add, bin_sub, bin_mul, bin_div, bin_mod, bin_cat, cmp_eqi, cmp_eqs, cmp_nei, cmp_nes, cmp_lt, cmp_le, cmp_gt, cmp_ge, cmp_isn, cmp_ist, cmp_notn, cmp_nott, tr_none, tr_bool, tr_int, tr_str, tr_tup, ix_str, ix_tup, sl_ii, sl_in, sl_ni, bi_lens, bi_lent, bi_min, bi_max, bi_rng, bi_rng2, me_find, me_find2, ok_find, me_app, ok_app, me_ins, me_pop, me_join, me_ends, me_starts, ok_ins, ok_pop, ok_join, ok_ends, ok_starts, it_str, it_rng, neg_int, aug_addi, aug_adds, aug_subi, St.set, St.setAll, List.map_cons, List.map_nil, List.replicate, List.cons_append, List.nil_append, List.getElem?_cons_succ, List.getElem?_cons_zero, List.set_cons_succ, List.set_cons_zero, List.length_cons, List.length_nil, dreduceIte, retV]
  rw [pySl_from b.2 he]
  have g2 : At3 (A ++ (a.1, a.2 ++ c.2) :: (b.1, b.2.drop c.2.length ++ c.2) :: c :: C) p A (a.1, a.2 ++ c.2) (b.1, b.2.drop c.2.length ++ c.2) c C := ⟨rfl, h3.hp⟩
  refine ⟨sm (by simp; omega), sm (by omega), d, _, _, _, rfl, rfl, t2, hm1, g1.i2, n3 _ (ss_next fun Q4 n4 => ?_)⟩
  have hm2 : upd (upd m d (O.list ((rv L).set A.length (V.tup [V.int a.1, V.str (a.2 ++ c.2)])))) d (O.list ((rv (A ++ (a.1, a.2 ++ c.2) :: b :: c :: C)).set (A ++ [(a.1, a.2 ++ c.2)]).length (V.tup [V.int b.1, V.str (b.2.drop c.2.length ++ c.2)]))) d =
      some (.list (rv (A ++ (a.1, a.2 ++ c.2) :: (b.1, b.2.drop c.2.length ++ c.2) :: c :: C))) := by
    rw [upd_self]; exact congrArg (fun l => some (O.list l)) (g1.s2 (b.1, b.2.drop c.2.length ++ c.2))
  dsimp only [r_lit, r_var, r_bin, r_neg, r_not, r_list, r_tup, r_cmp, r_band, r_bor, r_idx, r_slc, r_attr, r_bi, r_call, r_me, r_imeth, r_comp, r_es0, r_es1, r_ch1, r_bo1, r_bo2, r_tnot, r_tband, r_tbor, r_tcmp, r_tvar, r_tcall, r_tme, r_tidx, r_tbi, r_ts0, r_ts1, r_tgs0, r_tgs1, r_sexpr, r_sassign, r_saug, r_sdel, r_sife, r_swhl, r_sfr, r_sret, r_ss0, r_ss1, tg_var, tg_tup, tg_idx, tg_slc, bin_add, bin_sub, bin_mul, bin_div, bin_mod, bin_cat, cmp_eqi, cmp_eqs, cmp_nei, cmp_nes, cmp_lt, cmp_le, cmp_gt, cmp_ge, cmp_isn, cmp_ist, cmp_notn, cmp_nott, tr_none, tr_bool, tr_int, tr_str, tr_tup, ix_str, ix_tup, sl_ii, sl_in, sl_ni, bi_lens, bi_lent, bi_min, bi_max, bi_rng, bi_rng2, me_find, me_find2, ok_find, me_app, ok_app, me_ins, me_pop, me_join, me_ends, me_starts, ok_ins, ok_pop, ok_join, ok_ends, ok_starts, it_str, it_rng, neg_int, aug_addi, aug_adds, aug_subi, St.set, St.setAll, List.map_cons, List.map_nil, List.replicate, List.cons_append, List.nil_append, List.getElem?_cons_succ, List.getElem?_cons_zero, List.set_cons_succ, List.set_cons_zero, List.length_cons, List.length_nil, dreduceIte, retV]
  refine ⟨d, _, _, _, rfl, rfl, t3, hm2, g2.i3, ?_, n4 _ ?_⟩
  · rw [rv_len]; rw [h3.e] at hs; simp at hs; exact sm (by simp; omega)
  · dsimp only [r_lit, r_var, r_bin, r_neg, r_not, r_list, r_tup, r_cmp, r_band, r_bor, r_idx, r_slc, r_attr, r_bi, r_call, r_me, r_imeth, r_comp, r_es0, r_es1, r_ch1, r_bo1, r_bo2, r_tnot, r_tband, r_tbor, r_tcmp, r_tvar, r_tcall, r_tme, r_tidx, r_tbi, r_ts0, r_ts1, r_tgs0, r_tgs1, r_sexpr, r_sassign, r_saug, r_sdel, r_sife, r_swhl, r_sfr, r_sret, r_ss0, r_ss1, tg_var, tg_tup, tg_idx, tg_slc, bin_add, bin_sub, bin_mul, bin_div, bin_mod, bin_cat, cmp_eqi, cmp_eqs, cmp_nei, cmp_nes, cmp_lt, cmp_le, cmp_gt, cmp_ge, cmp_isn, cmp_ist, cmp_notn, cmp_nott, tr_none, tr_bool, tr_int, tr_str, tr_tup, ix_str, ix_tup, sl_ii, sl_in, sl_ni, bi_lens, bi_lent, bi_min, bi_max, bi_rng, bi_rng2, me_find, me_find2, ok_find, me_app, ok_app, me_ins, me_pop, me_join, me_ends, me_starts, ok_ins, ok_pop, ok_join, ok_ends, ok_starts, it_str, it_rng, neg_int, aug_addi, aug_adds, aug_subi, St.set, St.setAll, List.map_cons, List.map_nil, List.replicate, List.cons_append, List.nil_append, List.getElem?_cons_succ, List.getElem?_cons_zero, List.set_cons_succ, List.set_cons_zero, List.length_cons, List.length_nil, dreduceIte, retV]
    refine h _ ?_ (((Ext.upd _ _ _).trans (.upd _ _ _)).trans (.upd _ _ _))
    rw [upd_self, g2.d3]

theorem cm_b14 (c : Cm P) {L A C : Row} {p : Int} {a b e : Part} {ch : Bool} (hT : Tool P m t) (h3 : At3 L p A a b e C) (hm : m d = some (.list (rv L))) (hs : L.length ≤ 1000) (ha : a.2.length ≤ 1000) (hb : b.2.length ≤ 1000) (hc : e.2.length ≤ 1000)
    (hl : a.1 = 0 → e.1 = 0 → a.2.length ≤ b.2.length ∧ b.2.drop (b.2.length - a.2.length) = a.2 → ∀ m', m' d = some (.list (rv (A ++ (b.1, a.2 ++ b.2.take (b.2.length - a.2.length)) :: (e.1, a.2 ++ e.2) :: C))) → Ext d m m' → Q .next (cmS t d (p + 1) cd ci td ti x7 x8 x9 (some (.bool true)) m'))
    (hr : a.1 = 0 → e.1 = 0 → ¬ (a.2.length ≤ b.2.length ∧ b.2.drop (b.2.length - a.2.length) = a.2) → b.2.take e.2.length = e.2 → ∀ m', m' d = some (.list (rv (A ++ (a.1, a.2 ++ e.2) :: (b.1, b.2.drop e.2.length ++ e.2) :: C))) → Ext d m m' → Q .next (cmS t d (p + 1) cd ci td ti x7 x8 x9 (some (.bool true)) m'))
    (hn : ¬ (a.1 = 0 ∧ e.1 = 0 ∧ ((a.2.length ≤ b.2.length ∧ b.2.drop (b.2.length - a.2.length) = a.2) ∨ b.2.take e.2.length = e.2)) → Q .next (cmS t d (p + 1) cd ci td ti x7 x8 x9 (some (.bool ch)) m)) :
    wpSs P m_diff_cleanupMergeB14 Q (cmS t d p cd ci td ti x7 x8 x9 (some (.bool ch)) m) := by
  obtain ⟨t1, t2, t3⟩ := h3.tin hs
  have tail : ∀ m' x, Q .next (cmS t d (p + 1) cd ci td ti x7 x8 x9 x m') → wpSs P [.aug 2 .Add (.lit (.int 1))] Q (cmS t d p cd ci td ti x7 x8 x9 x m') := fun m' x q => q
  unfold m_diff_cleanupMergeB14
  refine ss_next fun Q1 n1 => s_ife fun K kt kf => ?_
  dsimp only [r_lit, r_var, r_bin, r_neg, r_not, r_list, r_tup, r_cmp, r_band, r_bor, r_idx, r_slc, r_attr, r_bi, r_call, r_me, r_imeth, r_comp, r_es0, r_es1, r_ch1, r_bo1, r_bo2, r_tnot, r_tband, r_tbor, r_tcmp, r_tvar, r_tcall, r_tme, r_tidx, r_tbi, r_ts0, r_ts1, r_tgs0, r_tgs1, r_sexpr, r_sassign, r_saug, r_sdel, r_sife, r_swhl, r_sfr, r_sret, r_ss0, r_ss1, tg_var, tg_tup, tg_idx, tg_slc, bin_add, bin_sub, bin_mul, bin_div, bin_mod, bin_cat, cmp_eqi, cmp_eqs, cmp_nei, cmp_nes, cmp_lt, cmp_le, cmp_gt, cmp_ge, cmp_isn, cmp_ist, cmp_notn, cmp_nott, tr_none, tr_bool, tr_int, tr_str, tr_tup, ix_str, ix_tup, sl_ii, sl_in, sl_ni, bi_lens, bi_lent, bi_min, bi_max, bi_rng, bi_rng2, me_find, me_find2, ok_find, me_app, ok_app, me_ins, me_pop, me_join, me_ends, me_starts, ok_ins, ok_pop, ok_join, ok_ends, ok_starts, it_str, it_rng, neg_int, aug_addi, aug_adds, aug_subi, St.set, St.setAll, List.map_cons, List.map_nil, List.replicate, List.cons_append, List.nil_append, List.getElem?_cons_succ, List.getElem?_cons_zero, List.set_cons_succ, List.set_cons_zero, List.length_cons, List.length_nil, dreduceIte, retV]
  refine ix_row hm t1 h3.g1 (ix_fst (at_cc hT c.cE.1 c.cE.2 ?_))
  dsimp only [r_lit, r_var, r_bin, r_neg, r_not, r_list, r_tup, r_cmp, r_band, r_bor, r_idx, r_slc, r_attr, r_bi, r_call, r_me, r_imeth, r_comp, r_es0, r_es1, r_ch1, r_bo1, r_bo2, r_tnot, r_tband, r_tbor, r_tcmp, r_tvar, r_tcall, r_tme, r_tidx, r_tbi, r_ts0, r_ts1, r_tgs0, r_tgs1, r_sexpr, r_sassign, r_saug, r_sdel, r_sife, r_swhl, r_sfr, r_sret, r_ss0, r_ss1, tg_var, tg_tup, tg_idx, tg_slc, bin_add, bin_sub, bin_mul, bin_div, bin_mod, bin_cat, cmp_eqi, cmp_eqs, cmp_nei, cmp_nes, cmp_lt, cmp_le, cmp_gt, cmp_ge, cmp_isn, cmp_ist, cmp_notn, cmp_nott, tr_none, tr_bool, tr_int, tr_str, tr_tup, ix_str, ix_tup, sl_ii, sl_in, sl_ni, bi_lens, bi_lent, bi_min, bi_max, bi_rng, bi_rng2, me_find, me_find2, ok_find, me_app, ok_app, me_ins, me_pop, me_join, me_ends, me_starts, ok_ins, ok_pop, ok_join, ok_ends, ok_starts, it_str, it_rng, neg_int, aug_addi, aug_adds, aug_subi, St.set, St.setAll, List.map_cons, List.map_nil, List.replicate, List.cons_append, List.nil_append, List.getElem?_cons_succ, List.getElem?_cons_zero, List.set_cons_succ, List.set_cons_zero, List.length_cons, List.length_nil, dreduceIte, retV]
  by_cases h0 : a.1 = 0
  · rw [show decide (a.1 = 0) = true from decide_eq_true h0, if_pos rfl]
    refine ix_row hm t3 h3.g3 (ix_fst (at_cc hT c.cE.1 c.cE.2 ?_))
    dsimp only [r_lit, r_var, r_bin, r_neg, r_not, r_list, r_tup, r_cmp, r_band, r_bor, r_idx, r_slc, r_attr, r_bi, r_call, r_me, r_imeth, r_comp, r_es0, r_es1, r_ch1, r_bo1, r_bo2, r_tnot, r_tband, r_tbor, r_tcmp, r_tvar, r_tcall, r_tme, r_tidx, r_tbi, r_ts0, r_ts1, r_tgs0, r_tgs1, r_sexpr, r_sassign, r_saug, r_sdel, r_sife, r_swhl, r_sfr, r_sret, r_ss0, r_ss1, tg_var, tg_tup, tg_idx, tg_slc, bin_add, bin_sub, bin_mul, bin_div, bin_mod, bin_cat, cmp_eqi, cmp_eqs, cmp_nei, cmp_nes, cmp_lt, cmp_le, cmp_gt, cmp_ge, cmp_isn, cmp_ist, cmp_notn, cmp_nott, tr_none, tr_bool, tr_int, tr_str, tr_tup, ix_str, ix_tup, sl_ii, sl_in, sl_ni, bi_lens, bi_lent, bi_min, bi_max, bi_rng, bi_rng2, me_find, me_find2, ok_find, me_app, ok_app, me_ins, me_pop, me_join, me_ends, me_starts, ok_ins, ok_pop, ok_join, ok_ends, ok_starts, it_str, it_rng, neg_int, aug_addi, aug_adds, aug_subi, St.set, St.setAll, List.map_cons, List.map_nil, List.replicate, List.cons_append, List.nil_append, List.getElem?_cons_succ, List.getElem?_cons_zero, List.set_cons_succ, List.set_cons_zero, List.length_cons, List.length_nil, dreduceIte, retV]
    by_cases h1 : e.1 = 0
    · rw [show decide (e.1 = 0) = true from decide_eq_true h1, if_pos rfl]
      refine kt _ (ss_next fun Q2 n2 => s_ife fun K2 kt2 kf2 => ?_)
      dsimp only [r_lit, r_var, r_bin, r_neg, r_not, r_list, r_tup, r_cmp, r_band, r_bor, r_idx, r_slc, r_attr, r_bi, r_call, r_me, r_imeth, r_comp, r_es0, r_es1, r_ch1, r_bo1, r_bo2, r_tnot, r_tband, r_tbor, r_tcmp, r_tvar, r_tcall, r_tme, r_tidx, r_tbi, r_ts0, r_ts1, r_tgs0, r_tgs1, r_sexpr, r_sassign, r_saug, r_sdel, r_sife, r_swhl, r_sfr, r_sret, r_ss0, r_ss1, tg_var, tg_tup, tg_idx, tg_slc, bin_add, bin_sub, bin_mul, bin_div, bin_mod, bin_cat, cmp_eqi, cmp_eqs, cmp_nei, cmp_nes, cmp_lt, cmp_le, cmp_gt, cmp_ge, cmp_isn, cmp_ist, cmp_notn, cmp_nott, tr_none, tr_bool, tr_int, tr_str, tr_tup, ix_str, ix_tup, sl_ii, sl_in, sl_ni, bi_lens, bi_lent, bi_min, bi_max, bi_rng, bi_rng2, me_find, me_find2, ok_find, me_app, ok_app, me_ins, me_pop, me_join, me_ends, me_starts, ok_ins, ok_pop, ok_join, ok_ends, ok_starts, it_str, it_rng, neg_int, aug_addi, aug_adds, aug_subi, St.set, St.setAll, List.map_cons, List.map_nil, List.replicate, List.cons_append, List.nil_append, List.getElem?_cons_succ, List.getElem?_cons_zero, List.set_cons_succ, List.set_cons_zero, List.length_cons, List.length_nil, dreduceIte, retV]
      refine ix_row hm t2 h3.g2 (ix_snd ⟨trivial, ix_row hm t1 h3.g1 (ix_snd ?_)⟩)
      dsimp only [r_lit, r_var, r_bin, r_neg, r_not, r_list, r_tup, r_cmp, r_band, r_bor, r_idx, r_slc, r_attr, r_bi, r_call, r_me, r_imeth, r_comp, r_es0, r_es1, r_ch1, r_bo1, r_bo2, r_tnot, r_tband, r_tbor, r_tcmp, r_tvar, r_tcall, r_tme, r_tidx, r_tbi, r_ts0, r_ts1, r_tgs0, r_tgs1, r_sexpr, r_sassign, r_saug, r_sdel, r_sife, r_swhl, r_sfr, r_sret, r_ss0, r_ss1, tg_var, tg_tup, tg_idx, tg_slc, bin_add, bin_sub, bin_mul, bin_div, bin_mod, bin_cat, cmp_eqi, cmp_eqs, cmp_nei, cmp_nes, cmp_lt, cmp_le, cmp_gt, cmp_ge, cmp_isn, cmp_ist, cmp_notn, cmp_nott, tr_none, tr_bool, tr_int, tr_str, tr_tup, ix_str, ix_tup, sl_ii, sl_in, sl_ni, bi_lens, bi_lent, bi_min, bi_max, bi_rng, bi_rng2, me_find, me_find2, ok_find, me_app, ok_app, me_ins, me_pop, me_join, me_ends, me_starts, ok_ins, ok_pop, ok_join, ok_ends, ok_starts, it_str, it_rng, neg_int, aug_addi, aug_adds, aug_subi, St.set, St.setAll, List.map_cons, List.map_nil, List.replicate, List.cons_append, List.nil_append, List.getElem?_cons_succ, List.getElem?_cons_zero, List.set_cons_succ, List.set_cons_zero, List.length_cons, List.length_nil, dreduceIte, retV]
      by_cases hL : a.2.length ≤ b.2.length ∧ b.2.drop (b.2.length - a.2.length) = a.2
      · rw [decide_eq_true hL]
        exact kt2 _ (cm_b12 h3 hm hs ha hb hc hL.1 fun m' g1 g2 => n2 _ (ss_nil (n1 _ (tail _ _ (hl h0 h1 hL m' g1 g2)))))
      · rw [decide_eq_false hL]
        refine kf2 _ (ss_next fun Q3 n3 => s_ife fun K3 kt3 kf3 => ?_)
        dsimp only [r_lit, r_var, r_bin, r_neg, r_not, r_list, r_tup, r_cmp, r_band, r_bor, r_idx, r_slc, r_attr, r_bi, r_call, r_me, r_imeth, r_comp, r_es0, r_es1, r_ch1, r_bo1, r_bo2, r_tnot, r_tband, r_tbor, r_tcmp, r_tvar, r_tcall, r_tme, r_tidx, r_tbi, r_ts0, r_ts1, r_tgs0, r_tgs1, r_sexpr, r_sassign, r_saug, r_sdel, r_sife, r_swhl, r_sfr, r_sret, r_ss0, r_ss1, tg_var, tg_tup, tg_idx, tg_slc, bin_add, bin_sub, bin_mul, bin_div, bin_mod, bin_cat, cmp_eqi, cmp_eqs, cmp_nei, cmp_nes, cmp_lt, cmp_le, cmp_gt, cmp_ge, cmp_isn, cmp_ist, cmp_notn, cmp_nott, tr_none, tr_bool, tr_int, tr_str, tr_tup, ix_str, ix_tup, sl_ii, sl_in, sl_ni, bi_lens, bi_lent, bi_min, bi_max, bi_rng, bi_rng2, me_find, me_find2, ok_find, me_app, ok_app, me_ins, me_pop, me_join, me_ends, me_starts, ok_ins, ok_pop, ok_join, ok_ends, ok_starts, it_str, it_rng, neg_int, aug_addi, aug_adds, aug_subi, St.set, St.setAll, List.map_cons, List.map_nil, List.replicate, List.cons_append, List.nil_append, List.getElem?_cons_succ, List.getElem?_cons_zero, List.set_cons_succ, List.set_cons_zero, List.length_cons, List.length_nil, dreduceIte, retV]
        refine ix_row hm t2 h3.g2 (ix_snd ⟨trivial, ix_row hm t3 h3.g3 (ix_snd ?_)⟩)
        dsimp only [r_lit, r_var, r_bin, r_neg, r_not, r_list, r_tup, r_cmp, r_band, r_bor, r_idx, r_slc, r_attr, r_bi, r_call, r_me, r_imeth, r_comp, r_es0, r_es1, r_ch1, r_bo1, r_bo2, r_tnot, r_tband, r_tbor, r_tcmp, r_tvar, r_tcall, r_tme, r_tidx, r_tbi, r_ts0, r_ts1, r_tgs0, r_tgs1, r_sexpr, r_sassign, r_saug, r_sdel, r_sife, r_swhl, r_sfr, r_sret, r_ss0, r_ss1, tg_var, tg_tup, tg_idx, tg_slc, bin_add, bin_sub, bin_mul, bin_div, bin_mod, bin_cat, cmp_eqi, cmp_eqs, cmp_nei, cmp_nes, cmp_lt, cmp_le, cmp_gt, cmp_ge, cmp_isn, cmp_ist, cmp_notn, cmp_nott, tr_none, tr_bool, tr_int, tr_str, tr_tup, ix_str, ix_tup, sl_ii, sl_in, sl_ni, bi_lens, bi_lent, bi_min, bi_max, bi_rng, bi_rng2, me_find, me_find2, ok_find, me_app, ok_app, me_ins, me_pop, me_join, me_ends, me_starts, ok_ins, ok_pop, ok_join, ok_ends, ok_starts, it_str, it_rng, neg_int, aug_addi, aug_adds, aug_subi, St.set, St.setAll, List.map_cons, List.map_nil, List.replicate, List.cons_append, List.nil_append, List.getElem?_cons_succ, List.getElem?_cons_zero, List.set_cons_succ, List.set_cons_zero, List.length_cons, List.length_nil, dreduceIte, retV]
        by_cases hR : b.2.take e.2.length = e.2
        · rw [decide_eq_true hR]
          have he : e.2.length ≤ b.2.length := by
            have := congrArg List.length hR
            rw [List.length_take] at this; omega
          exact kt3 _ (cm_b13 h3 hm hs ha hb hc he fun m' g1 g2 => n3 _ (ss_nil (n2 _ (ss_nil (n1 _ (tail _ _ (hr h0 h1 hL hR m' g1 g2)))))))
        · rw [decide_eq_false hR]
          exact kf3 _ (ss_nil (n3 _ (ss_nil (n2 _ (ss_nil (n1 _ (tail _ _ (hn fun q => q.2.2.elim hL hR))))))))
    · rw [show decide (e.1 = 0) = false from decide_eq_false h1, if_neg (by decide)]
      exact kf _ (ss_nil (n1 _ (tail _ _ (hn fun q => h1 q.2.1))))
  · rw [show decide (a.1 = 0) = false from decide_eq_false h0, if_neg (by decide)]
    exact kf _ (ss_nil (n1 _ (tail _ _ (hn fun q => h0 q.1))))
end
end Mine
set_option autoImplicit false
set_option maxRecDepth 10000
set_option linter.unusedVariables false
set_option linter.unusedSimpArgs false
namespace Mine
open PySem PyProof.Rows PySem.W

theorem slide_l {a b c : Part} {C : Row} (h0 : a.1 = 0) (h1 : c.1 = 0) (h : a.2.length ≤ b.2.length ∧ b.2.drop (b.2.length - a.2.length) = a.2) :
    slideGo a (b :: c :: C) = ((b.1, a.2 ++ b.2.take (b.2.length - a.2.length)) :: (slideGo (c.1, a.2 ++ c.2) C).1, true) := by
  rw [slideGo, if_pos ⟨h0, h1⟩, if_pos h]
theorem slide_r {a b c : Part} {C : Row} (h0 : a.1 = 0) (h1 : c.1 = 0) (h : ¬ (a.2.length ≤ b.2.length ∧ b.2.drop (b.2.length - a.2.length) = a.2)) (h2 : b.2.take c.2.length = c.2) :
    slideGo a (b :: c :: C) = ((a.1, a.2 ++ c.2) :: (slideGo (b.1, b.2.drop c.2.length ++ c.2) C).1, true) := by
  rw [slideGo, if_pos ⟨h0, h1⟩, if_neg h, if_pos h2]
theorem slide_n {a b c : Part} {C : Row} (h : ¬ (a.1 = 0 ∧ c.1 = 0 ∧ ((a.2.length ≤ b.2.length ∧ b.2.drop (b.2.length - a.2.length) = a.2) ∨ b.2.take c.2.length = c.2))) :
    slideGo a (b :: c :: C) = (a :: (slideGo b (c :: C)).1, (slideGo b (c :: C)).2) := by
  rw [slideGo]
  by_cases g : a.1 = 0 ∧ c.1 = 0
  · rw [if_pos g, if_neg (fun q => h ⟨g.1, g.2, .inl q⟩), if_neg (fun q => h ⟨g.1, g.2, .inr q⟩)]
  · rw [if_neg g]

section
variable {P : PC} {Q : Fl → St → Prop} {t d : Addr} {td ti : Tx} {cd ci : Int} {x7 x8 x9 x10 : Option V} {m : Mem}
/-- the second loop -/
theorem cm_loop2 (c : Cm P) {L : Row} (hT : Tool P m t) (hm : m d = some (.list (rv L))) (hφ : phi L ≤ 1000)
    (h : ∀ m' p, m' d = some (.list (rv (slide L).1)) → Ext d m m' → Q .next (cmS t d p cd ci td ti x7 x8 x9 (some (.bool (slide L).2)) m')) :
    wpS P (.whl (.cmp (.var 2) [.Lt] [.bin .Sub (.bi .len [.var 1]) (.lit (.int 1))]) m_diff_cleanupMergeB14) Q (cmS t d 1 cd ci td ti x7 x8 x9 (some (.bool false)) m) := by
  cases L with
  | nil =>
    refine ⟨fun n σ => σ = cmS t d 1 cd ci td ti x7 x8 x9 (some (.bool false)) m, ⟨0, rfl⟩, ?_⟩
    rintro n σ rfl
    dsimp only [r_lit, r_var, r_bin, r_neg, r_not, r_list, r_tup, r_cmp, r_band, r_bor, r_idx, r_slc, r_attr, r_bi, r_call, r_me, r_imeth, r_comp, r_es0, r_es1, r_ch1, r_bo1, r_bo2, r_tnot, r_tband, r_tbor, r_tcmp, r_tvar, r_tcall, r_tme, r_tidx, r_tbi, r_ts0, r_ts1, r_tgs0, r_tgs1, r_sexpr, r_sassign, r_saug, r_sdel, r_sife, r_swhl, r_sfr, r_sret, r_ss0, r_ss1, tg_var, tg_tup, tg_idx, tg_slc, bin_add, bin_sub, bin_mul, bin_div, bin_mod, bin_cat, cmp_eqi, cmp_eqs, cmp_nei, cmp_nes, cmp_lt, cmp_le, cmp_gt, cmp_ge, cmp_isn, cmp_ist, cmp_notn, cmp_nott, tr_none, tr_bool, tr_int, tr_str, tr_tup, ix_str, ix_tup, sl_ii, sl_in, sl_ni, bi_lens, bi_lent, bi_min, bi_max, bi_rng, bi_rng2, me_find, me_find2, ok_find, me_app, ok_app, me_ins, me_pop, me_join, me_ends, me_starts, ok_ins, ok_pop, ok_join, ok_ends, ok_starts, it_str, it_rng, neg_int, aug_addi, aug_adds, aug_subi, St.set, St.setAll, List.map_cons, List.map_nil, List.replicate, List.cons_append, List.nil_append, List.getElem?_cons_succ, List.getElem?_cons_zero, List.set_cons_succ, List.set_cons_zero, List.length_cons, List.length_nil, dreduceIte, retV]
    refine len_row hm (by unfold small; simp) ?_
    dsimp only [r_lit, r_var, r_bin, r_neg, r_not, r_list, r_tup, r_cmp, r_band, r_bor, r_idx, r_slc, r_attr, r_bi, r_call, r_me, r_imeth, r_comp, r_es0, r_es1, r_ch1, r_bo1, r_bo2, r_tnot, r_tband, r_tbor, r_tcmp, r_tvar, r_tcall, r_tme, r_tidx, r_tbi, r_ts0, r_ts1, r_tgs0, r_tgs1, r_sexpr, r_sassign, r_saug, r_sdel, r_sife, r_swhl, r_sfr, r_sret, r_ss0, r_ss1, tg_var, tg_tup, tg_idx, tg_slc, bin_add, bin_sub, bin_mul, bin_div, bin_mod, bin_cat, cmp_eqi, cmp_eqs, cmp_nei, cmp_nes, cmp_lt, cmp_le, cmp_gt, cmp_ge, cmp_isn, cmp_ist, cmp_notn, cmp_nott, tr_none, tr_bool, tr_int, tr_str, tr_tup, ix_str, ix_tup, sl_ii, sl_in, sl_ni, bi_lens, bi_lent, bi_min, bi_max, bi_rng, bi_rng2, me_find, me_find2, ok_find, me_app, ok_app, me_ins, me_pop, me_join, me_ends, me_starts, ok_ins, ok_pop, ok_join, ok_ends, ok_starts, it_str, it_rng, neg_int, aug_addi, aug_adds, aug_subi, St.set, St.setAll, List.map_cons, List.map_nil, List.replicate, List.cons_append, List.nil_append, List.getElem?_cons_succ, List.getElem?_cons_zero, List.set_cons_succ, List.set_cons_zero, List.length_cons, List.length_nil, dreduceIte, retV]
    exact if_no (by simp) (h m 1 hm (.refl _ _))
  | cons a0 r0 =>
    refine ⟨fun n σ => ∃ A a rest ch m', σ = cmS t d ((A.length + 1 : Nat) : Int) cd ci td ti x7 x8 x9 (some (.bool ch)) m' ∧ n = rest.length ∧ m' d = some (.list (rv (A ++ a :: rest))) ∧ Ext d m m' ∧
      A ++ (slideGo a rest).1 = (slideGo a0 r0).1 ∧ (ch || (slideGo a rest).2) = (slideGo a0 r0).2 ∧ phi (A ++ a :: rest) ≤ 1000, ⟨_, [], a0, r0, false, m, rfl, rfl, hm, .refl _ _, rfl, by simp, hφ⟩, ?_⟩
    rintro n σ ⟨A, a, rest, ch, m', rfl, rfl, hm', hx, hS, hC, hφ'⟩
    have hL := len_le_phi (A ++ a :: rest)
    have e2 : phi (A ++ a :: rest) = phi A + (a.2.length + 1 + phi rest) := by rw [phi_append, phi_cons]
    dsimp only [r_lit, r_var, r_bin, r_neg, r_not, r_list, r_tup, r_cmp, r_band, r_bor, r_idx, r_slc, r_attr, r_bi, r_call, r_me, r_imeth, r_comp, r_es0, r_es1, r_ch1, r_bo1, r_bo2, r_tnot, r_tband, r_tbor, r_tcmp, r_tvar, r_tcall, r_tme, r_tidx, r_tbi, r_ts0, r_ts1, r_tgs0, r_tgs1, r_sexpr, r_sassign, r_saug, r_sdel, r_sife, r_swhl, r_sfr, r_sret, r_ss0, r_ss1, tg_var, tg_tup, tg_idx, tg_slc, bin_add, bin_sub, bin_mul, bin_div, bin_mod, bin_cat, cmp_eqi, cmp_eqs, cmp_nei, cmp_nes, cmp_lt, cmp_le, cmp_gt, cmp_ge, cmp_isn, cmp_ist, cmp_notn, cmp_nott, tr_none, tr_bool, tr_int, tr_str, tr_tup, ix_str, ix_tup, sl_ii, sl_in, sl_ni, bi_lens, bi_lent, bi_min, bi_max, bi_rng, bi_rng2, me_find, me_find2, ok_find, me_app, ok_app, me_ins, me_pop, me_join, me_ends, me_starts, ok_ins, ok_pop, ok_join, ok_ends, ok_starts, it_str, it_rng, neg_int, aug_addi, aug_adds, aug_subi, St.set, St.setAll, List.map_cons, List.map_nil, List.replicate, List.cons_append, List.nil_append, List.getElem?_cons_succ, List.getElem?_cons_zero, List.set_cons_succ, List.set_cons_zero, List.length_cons, List.length_nil, dreduceIte, retV]
    refine len_row hm' (by unfold small; omega) ?_
    dsimp only [r_lit, r_var, r_bin, r_neg, r_not, r_list, r_tup, r_cmp, r_band, r_bor, r_idx, r_slc, r_attr, r_bi, r_call, r_me, r_imeth, r_comp, r_es0, r_es1, r_ch1, r_bo1, r_bo2, r_tnot, r_tband, r_tbor, r_tcmp, r_tvar, r_tcall, r_tme, r_tidx, r_tbi, r_ts0, r_ts1, r_tgs0, r_tgs1, r_sexpr, r_sassign, r_saug, r_sdel, r_sife, r_swhl, r_sfr, r_sret, r_ss0, r_ss1, tg_var, tg_tup, tg_idx, tg_slc, bin_add, bin_sub, bin_mul, bin_div, bin_mod, bin_cat, cmp_eqi, cmp_eqs, cmp_nei, cmp_nes, cmp_lt, cmp_le, cmp_gt, cmp_ge, cmp_isn, cmp_ist, cmp_notn, cmp_nott, tr_none, tr_bool, tr_int, tr_str, tr_tup, ix_str, ix_tup, sl_ii, sl_in, sl_ni, bi_lens, bi_lent, bi_min, bi_max, bi_rng, bi_rng2, me_find, me_find2, ok_find, me_app, ok_app, me_ins, me_pop, me_join, me_ends, me_starts, ok_ins, ok_pop, ok_join, ok_ends, ok_starts, it_str, it_rng, neg_int, aug_addi, aug_adds, aug_subi, St.set, St.setAll, List.map_cons, List.map_nil, List.replicate, List.cons_append, List.nil_append, List.getElem?_cons_succ, List.getElem?_cons_zero, List.set_cons_succ, List.set_cons_zero, List.length_cons, List.length_nil, dreduceIte, retV]
    match rest, hS, hC, hm', hL, e2, hφ' with
    | [], hS, hC, hm', hL, e2, hφ' =>
      refine if_no (by simp; omega) ?_
      have := h m' ((A.length + 1 : Nat) : Int) (by rw [show (slide (a0 :: r0)).1 = (slideGo a0 r0).1 from rfl, ← hS]; exact hm') hx
      rw [show (slide (a0 :: r0)).2 = (slideGo a0 r0).2 from rfl, ← hC, show (slideGo a []).2 = false from rfl, Bool.or_false] at this
      exact this
    | [b], hS, hC, hm', hL, e2, hφ' =>
      refine if_no (by simp; omega) ?_
      have := h m' ((A.length + 1 : Nat) : Int) (by rw [show (slide (a0 :: r0)).1 = (slideGo a0 r0).1 from rfl, ← hS]; exact hm') hx
      rw [show (slide (a0 :: r0)).2 = (slideGo a0 r0).2 from rfl, ← hC, show (slideGo a [b]).2 = false from rfl, Bool.or_false] at this
      exact this
    | b :: e :: C, hS, hC, hm', hL, e2, hφ' =>
      refine if_yes (by simp; omega) ?_
      have h3 : At3 (A ++ a :: b :: e :: C) ((A.length + 1 : Nat) : Int) A a b e C := ⟨rfl, rfl⟩
      have e4 : phi (b :: e :: C) = b.2.length + 1 + (e.2.length + 1 + phi C) := by rw [phi_cons, phi_cons]
      refine cm_b14 c (hT.ext ⟨_, hm⟩ hx) h3 hm' (by omega) (by omega) (by omega) (by omega) (fun h0 h1 hl m'' g1 g2 => ?_) (fun h0 h1 hl hr m'' g1 g2 => ?_) (fun hn => ?_)
      · rw [slide_l h0 h1 hl] at hS hC
        refine ⟨C.length, by simp; omega, A ++ [(b.1, a.2 ++ b.2.take (b.2.length - a.2.length))], (e.1, a.2 ++ e.2), C, true, m'', ?_, rfl, ?_, hx.trans g2, ?_, ?_, ?_⟩
        · rw [List.length_append]; rfl
        · rw [g1]; simp
        · rw [← hS]; simp
        · rw [← hC]; simp
        · rw [phi_append, phi_append, phi_cons, phi_cons, phi_nil]
          simp only [List.length_append, List.length_take]
          have := hl.1
          rw [Nat.min_eq_left (by omega)]; omega
      · rw [slide_r h0 h1 hl hr] at hS hC
        have he : e.2.length ≤ b.2.length := by
          have := congrArg List.length hr
          rw [List.length_take] at this; omega
        refine ⟨C.length, by simp; omega, A ++ [(a.1, a.2 ++ e.2)], (b.1, b.2.drop e.2.length ++ e.2), C, true, m'', ?_, rfl, ?_, hx.trans g2, ?_, ?_, ?_⟩
        · rw [List.length_append]; rfl
        · rw [g1]; simp
        · rw [← hS]; simp
        · rw [← hC]; simp
        · rw [phi_append, phi_append, phi_cons, phi_cons, phi_nil]
          simp only [List.length_append, List.length_drop]; omega
      · rw [slide_n hn] at hS hC
        refine ⟨(e :: C).length, by simp, A ++ [a], b, e :: C, ch, m', ?_, rfl, ?_, hx, ?_, hC, ?_⟩
        · rw [List.length_append]; rfl
        · rw [hm']; simp
        · rw [← hS]; simp
        · simpa using hφ'

/-- from the slides on -/
theorem cm_last (c : Cm P) {n : Nat} {R : Row} {p : Int} (hT : Tool P m t) (hm : m d = some (.list (rv R))) (hk : Kinds R) (hφ : phi R ≤ 999)
    (hrec : ∀ L' m1 (Q' : V → Mem → Prop), Tool P m1 t → m1 d = some (.list (rv L')) → Kinds L' → phi L' < phi R → (∀ m', m' d = some (.list (rv (cleanN n L'))) → Ext d m1 m' → Q' .none m') → P.meth "diff_cleanupMerge" [.obj t, .obj d] Q' m1)
    (h : ∀ σ', σ'.mem d = some (.list (rv (if (slide R).2 then cleanN n (slide R).1 else (slide R).1))) → Ext d m σ'.mem → Q .next σ') :
    wpSs P [.assign [.var 10] (.lit (.bool false)), .assign [.var 2] (.lit (.int 1)),
      .whl (.cmp (.var 2) [.Lt] [.bin .Sub (.bi .len [.var 1]) (.lit (.int 1))]) m_diff_cleanupMergeB14, .ife (.var 10) [.expr (.imeth (.var 0) "diff_cleanupMerge" [.var 1])] []] Q (cmS t d p cd ci td ti x7 x8 x9 x10 m) := by
  have hTd : ∃ l, m d = some (.list l) := ⟨_, hm⟩
  refine ss_next fun Q1 n1 => ?_
  dsimp only [r_lit, r_var, r_bin, r_neg, r_not, r_list, r_tup, r_cmp, r_band, r_bor, r_idx, r_slc, r_attr, r_bi, r_call, r_me, r_imeth, r_comp, r_es0, r_es1, r_ch1, r_bo1, r_bo2, r_tnot, r_tband, r_tbor, r_tcmp, r_tvar, r_tcall, r_tme, r_tidx, r_tbi, r_ts0, r_ts1, r_tgs0, r_tgs1, r_sexpr, r_sassign, r_saug, r_sdel, r_sife, r_swhl, r_sfr, r_sret, r_ss0, r_ss1, tg_var, tg_tup, tg_idx, tg_slc, bin_add, bin_sub, bin_mul, bin_div, bin_mod, bin_cat, cmp_eqi, cmp_eqs, cmp_nei, cmp_nes, cmp_lt, cmp_le, cmp_gt, cmp_ge, cmp_isn, cmp_ist, cmp_notn, cmp_nott, tr_none, tr_bool, tr_int, tr_str, tr_tup, ix_str, ix_tup, sl_ii, sl_in, sl_ni, bi_lens, bi_lent, bi_min, bi_max, bi_rng, bi_rng2, me_find, me_find2, ok_find, me_app, ok_app, me_ins, me_pop, me_join, me_ends, me_starts, ok_ins, ok_pop, ok_join, ok_ends, ok_starts, it_str, it_rng, neg_int, aug_addi, aug_adds, aug_subi, St.set, St.setAll, List.map_cons, List.map_nil, List.replicate, List.cons_append, List.nil_append, List.getElem?_cons_succ, List.getElem?_cons_zero, List.set_cons_succ, List.set_cons_zero, List.length_cons, List.length_nil, dreduceIte, retV]
  refine n1 _ (ss_next fun Q2 n2 => ?_)
  dsimp only [r_lit, r_var, r_bin, r_neg, r_not, r_list, r_tup, r_cmp, r_band, r_bor, r_idx, r_slc, r_attr, r_bi, r_call, r_me, r_imeth, r_comp, r_es0, r_es1, r_ch1, r_bo1, r_bo2, r_tnot, r_tband, r_tbor, r_tcmp, r_tvar, r_tcall, r_tme, r_tidx, r_tbi, r_ts0, r_ts1, r_tgs0, r_tgs1, r_sexpr, r_sassign, r_saug, r_sdel, r_sife, r_swhl, r_sfr, r_sret, r_ss0, r_ss1, tg_var, tg_tup, tg_idx, tg_slc, bin_add, bin_sub, bin_mul, bin_div, bin_mod, bin_cat, cmp_eqi, cmp_eqs, cmp_nei, cmp_nes, cmp_lt, cmp_le, cmp_gt, cmp_ge, cmp_isn, cmp_ist, cmp_notn, cmp_nott, tr_none, tr_bool, tr_int, tr_str, tr_tup, ix_str, ix_tup, sl_ii, sl_in, sl_ni, bi_lens, bi_lent, bi_min, bi_max, bi_rng, bi_rng2, me_find, me_find2, ok_find, me_app, ok_app, me_ins, me_pop, me_join, me_ends, me_starts, ok_ins, ok_pop, ok_join, ok_ends, ok_starts, it_str, it_rng, neg_int, aug_addi, aug_adds, aug_subi, St.set, St.setAll, List.map_cons, List.map_nil, List.replicate, List.cons_append, List.nil_append, List.getElem?_cons_succ, List.getElem?_cons_zero, List.set_cons_succ, List.set_cons_zero, List.length_cons, List.length_nil, dreduceIte, retV]
  refine n2 _ (ss_next fun Q4 n4 => cm_loop2 c hT hm (by omega) fun m4 p' hm4 hx4 => n4 _ ?_)
  have hφs := phi_slide R
  refine ss_next fun Q5 n5 => s_ife fun K kt kf => ?_
  dsimp only [r_lit, r_var, r_bin, r_neg, r_not, r_list, r_tup, r_cmp, r_band, r_bor, r_idx, r_slc, r_attr, r_bi, r_call, r_me, r_imeth, r_comp, r_es0, r_es1, r_ch1, r_bo1, r_bo2, r_tnot, r_tband, r_tbor, r_tcmp, r_tvar, r_tcall, r_tme, r_tidx, r_tbi, r_ts0, r_ts1, r_tgs0, r_tgs1, r_sexpr, r_sassign, r_saug, r_sdel, r_sife, r_swhl, r_sfr, r_sret, r_ss0, r_ss1, tg_var, tg_tup, tg_idx, tg_slc, bin_add, bin_sub, bin_mul, bin_div, bin_mod, bin_cat, cmp_eqi, cmp_eqs, cmp_nei, cmp_nes, cmp_lt, cmp_le, cmp_gt, cmp_ge, cmp_isn, cmp_ist, cmp_notn, cmp_nott, tr_none, tr_bool, tr_int, tr_str, tr_tup, ix_str, ix_tup, sl_ii, sl_in, sl_ni, bi_lens, bi_lent, bi_min, bi_max, bi_rng, bi_rng2, me_find, me_find2, ok_find, me_app, ok_app, me_ins, me_pop, me_join, me_ends, me_starts, ok_ins, ok_pop, ok_join, ok_ends, ok_starts, it_str, it_rng, neg_int, aug_addi, aug_adds, aug_subi, St.set, St.setAll, List.map_cons, List.map_nil, List.replicate, List.cons_append, List.nil_append, List.getElem?_cons_succ, List.getElem?_cons_zero, List.set_cons_succ, List.set_cons_zero, List.length_cons, List.length_nil, dreduceIte, retV]
  cases hs : (slide R).2 with
  | false =>
    refine kf _ (ss_nil (n5 _ (ss_nil (h _ ?_ hx4))))
    show m4 d = _
    rw [hs, if_neg (by decide)]; exact hm4
  | true =>
    rw [hs] at hφs
    refine kt _ (ss_next fun Q6 n6 => ?_)
    dsimp only [r_lit, r_var, r_bin, r_neg, r_not, r_list, r_tup, r_cmp, r_band, r_bor, r_idx, r_slc, r_attr, r_bi, r_call, r_me, r_imeth, r_comp, r_es0, r_es1, r_ch1, r_bo1, r_bo2, r_tnot, r_tband, r_tbor, r_tcmp, r_tvar, r_tcall, r_tme, r_tidx, r_tbi, r_ts0, r_ts1, r_tgs0, r_tgs1, r_sexpr, r_sassign, r_saug, r_sdel, r_sife, r_swhl, r_sfr, r_sret, r_ss0, r_ss1, tg_var, tg_tup, tg_idx, tg_slc, bin_add, bin_sub, bin_mul, bin_div, bin_mod, bin_cat, cmp_eqi, cmp_eqs, cmp_nei, cmp_nes, cmp_lt, cmp_le, cmp_gt, cmp_ge, cmp_isn, cmp_ist, cmp_notn, cmp_nott, tr_none, tr_bool, tr_int, tr_str, tr_tup, ix_str, ix_tup, sl_ii, sl_in, sl_ni, bi_lens, bi_lent, bi_min, bi_max, bi_rng, bi_rng2, me_find, me_find2, ok_find, me_app, ok_app, me_ins, me_pop, me_join, me_ends, me_starts, ok_ins, ok_pop, ok_join, ok_ends, ok_starts, it_str, it_rng, neg_int, aug_addi, aug_adds, aug_subi, St.set, St.setAll, List.map_cons, List.map_nil, List.replicate, List.cons_append, List.nil_append, List.getElem?_cons_succ, List.getElem?_cons_zero, List.set_cons_succ, List.set_cons_zero, List.length_cons, List.length_nil, dreduceIte, retV]
    have hT4 := hT.ext hTd hx4
    refine ⟨im_ok hT4 c.fm, hrec _ m4 _ hT4 hm4 (kinds_slide hk) (by simp at hφs; omega) fun m5 hm5 hx5 => n6 _ (ss_nil (n5 _ (ss_nil (h _ ?_ (hx4.trans hx5)))))⟩
    show m5 d = _
    rw [hs, if_pos rfl]; exact hm5
/-- the empty end goes -/
theorem cm_pop {R dn : Row} {u : Tx} {p : Int} (hm : m d = some (.list (rv R))) (e : R = dn ++ [((0 : Int), u)]) (hφ : phi R ≤ 1000)
    (h : ∀ m', m' d = some (.list (rv (popE R))) → Ext d m m' → Q .next (cmS t d p cd ci td ti x7 x8 x9 x10 m')) :
    wpS P (.ife (.cmp (.idx (.idx (.var 1) (.neg (.lit (.int 1)))) (.lit (.int 1))) [.Eq] [.lit (.str [])]) [.expr (.me (.var 1) .pop [])] []) Q (cmS t d p cd ci td ti x7 x8 x9 x10 m) := by
  subst e
  have hL := len_le_phi (dn ++ [((0 : Int), u)])
  refine s_ife fun K kt kf => ?_
  have hg : pyGet (dn ++ [((0 : Int), u)]) (-1) = some ((0 : Int), u) := by rw [pyGet_last _ (by simp)]; simp
  dsimp only [r_lit, r_var, r_bin, r_neg, r_not, r_list, r_tup, r_cmp, r_band, r_bor, r_idx, r_slc, r_attr, r_bi, r_call, r_me, r_imeth, r_comp, r_es0, r_es1, r_ch1, r_bo1, r_bo2, r_tnot, r_tband, r_tbor, r_tcmp, r_tvar, r_tcall, r_tme, r_tidx, r_tbi, r_ts0, r_ts1, r_tgs0, r_tgs1, r_sexpr, r_sassign, r_saug, r_sdel, r_sife, r_swhl, r_sfr, r_sret, r_ss0, r_ss1, tg_var, tg_tup, tg_idx, tg_slc, bin_add, bin_sub, bin_mul, bin_div, bin_mod, bin_cat, cmp_eqi, cmp_eqs, cmp_nei, cmp_nes, cmp_lt, cmp_le, cmp_gt, cmp_ge, cmp_isn, cmp_ist, cmp_notn, cmp_nott, tr_none, tr_bool, tr_int, tr_str, tr_tup, ix_str, ix_tup, sl_ii, sl_in, sl_ni, bi_lens, bi_lent, bi_min, bi_max, bi_rng, bi_rng2, me_find, me_find2, ok_find, me_app, ok_app, me_ins, me_pop, me_join, me_ends, me_starts, ok_ins, ok_pop, ok_join, ok_ends, ok_starts, it_str, it_rng, neg_int, aug_addi, aug_adds, aug_subi, St.set, St.setAll, List.map_cons, List.map_nil, List.replicate, List.cons_append, List.nil_append, List.getElem?_cons_succ, List.getElem?_cons_zero, List.set_cons_succ, List.set_cons_zero, List.length_cons, List.length_nil, dreduceIte, retV]
  refine ix_row hm (by unfold tiny; omega) hg (ix_snd ?_)
  dsimp only [r_lit, r_var, r_bin, r_neg, r_not, r_list, r_tup, r_cmp, r_band, r_bor, r_idx, r_slc, r_attr, r_bi, r_call, r_me, r_imeth, r_comp, r_es0, r_es1, r_ch1, r_bo1, r_bo2, r_tnot, r_tband, r_tbor, r_tcmp, r_tvar, r_tcall, r_tme, r_tidx, r_tbi, r_ts0, r_ts1, r_tgs0, r_tgs1, r_sexpr, r_sassign, r_saug, r_sdel, r_sife, r_swhl, r_sfr, r_sret, r_ss0, r_ss1, tg_var, tg_tup, tg_idx, tg_slc, bin_add, bin_sub, bin_mul, bin_div, bin_mod, bin_cat, cmp_eqi, cmp_eqs, cmp_nei, cmp_nes, cmp_lt, cmp_le, cmp_gt, cmp_ge, cmp_isn, cmp_ist, cmp_notn, cmp_nott, tr_none, tr_bool, tr_int, tr_str, tr_tup, ix_str, ix_tup, sl_ii, sl_in, sl_ni, bi_lens, bi_lent, bi_min, bi_max, bi_rng, bi_rng2, me_find, me_find2, ok_find, me_app, ok_app, me_ins, me_pop, me_join, me_ends, me_starts, ok_ins, ok_pop, ok_join, ok_ends, ok_starts, it_str, it_rng, neg_int, aug_addi, aug_adds, aug_subi, St.set, St.setAll, List.map_cons, List.map_nil, List.replicate, List.cons_append, List.nil_append, List.getElem?_cons_succ, List.getElem?_cons_zero, List.set_cons_succ, List.set_cons_zero, List.length_cons, List.length_nil, dreduceIte, retV]
  by_cases hu : u = []
  · rw [decide_eq_true hu]
    refine kt _ (ss_next fun Q4 n4 => ?_)
    dsimp only [r_lit, r_var, r_bin, r_neg, r_not, r_list, r_tup, r_cmp, r_band, r_bor, r_idx, r_slc, r_attr, r_bi, r_call, r_me, r_imeth, r_comp, r_es0, r_es1, r_ch1, r_bo1, r_bo2, r_tnot, r_tband, r_tbor, r_tcmp, r_tvar, r_tcall, r_tme, r_tidx, r_tbi, r_ts0, r_ts1, r_tgs0, r_tgs1, r_sexpr, r_sassign, r_saug, r_sdel, r_sife, r_swhl, r_sfr, r_sret, r_ss0, r_ss1, tg_var, tg_tup, tg_idx, tg_slc, bin_add, bin_sub, bin_mul, bin_div, bin_mod, bin_cat, cmp_eqi, cmp_eqs, cmp_nei, cmp_nes, cmp_lt, cmp_le, cmp_gt, cmp_ge, cmp_isn, cmp_ist, cmp_notn, cmp_nott, tr_none, tr_bool, tr_int, tr_str, tr_tup, ix_str, ix_tup, sl_ii, sl_in, sl_ni, bi_lens, bi_lent, bi_min, bi_max, bi_rng, bi_rng2, me_find, me_find2, ok_find, me_app, ok_app, me_ins, me_pop, me_join, me_ends, me_starts, ok_ins, ok_pop, ok_join, ok_ends, ok_starts, it_str, it_rng, neg_int, aug_addi, aug_adds, aug_subi, St.set, St.setAll, List.map_cons, List.map_nil, List.replicate, List.cons_append, List.nil_append, List.getElem?_cons_succ, List.getElem?_cons_zero, List.set_cons_succ, List.set_cons_zero, List.length_cons, List.length_nil, dreduceIte, retV]
    refine ⟨⟨_, hm⟩, rfl, rv dn, pv (0, u), by rw [hm, rv_append]; rfl, ?_, n4 _ (ss_nil (h _ ?_ (.upd _ _ _)))⟩
    · rw [rv_len]; unfold small; simp at hL; omega
    · rw [upd_self, popE_cat, if_pos hu]
  · rw [decide_eq_false hu]
    refine kf _ (ss_nil (h _ ?_ (.refl _ _)))
    rw [hm, popE_cat, if_neg hu]
/-- the whole of the clean-up -/
theorem w_cleanupMerge (c : Cm P) {n : Nat} {L : Row} (hT : Tool P m t) (hm : m d = some (.list (rv L))) (hk : Kinds L) (hφ : phi L ≤ 999)
    (hrec : ∀ L' m1 (Q' : V → Mem → Prop), Tool P m1 t → m1 d = some (.list (rv L')) → Kinds L' → phi L' < phi L → (∀ m', m' d = some (.list (rv (cleanN n L'))) → Ext d m1 m' → Q' .none m') → P.meth "diff_cleanupMerge" [.obj t, .obj d] Q' m1)
    (h : ∀ σ', σ'.mem d = some (.list (rv (cleanN (n + 1) L))) → Ext d m σ'.mem → Q .next σ') :
    wpSs P m_diff_cleanupMergeBody Q ⟨[V.obj t, .obj d].map some ++ List.replicate 9 none, m⟩ := by
  have hTd : ∃ l, m d = some (.list l) := ⟨_, hm⟩
  have hL := len_le_phi L
  have e1 : phi (L ++ [((0 : Int), ([] : Tx))]) = phi L + 1 := by rw [phi_append]; rfl
  have hphi : phi (popE (merge L)) ≤ phi L := phi_merge L
  have hkind : Kinds (popE (merge L)) := kinds_popE _ (kinds_mergeGo _ _ _ .nil .nil (hk.append (.cons (.inr (.inl rfl)) .nil)))
  obtain ⟨dn, u, eM⟩ := mergeGo_dn [] L [] [] (.inl rfl)
  unfold m_diff_cleanupMergeBody
  refine ss_next fun Q1 n1 => ?_
  dsimp only [r_lit, r_var, r_bin, r_neg, r_not, r_list, r_tup, r_cmp, r_band, r_bor, r_idx, r_slc, r_attr, r_bi, r_call, r_me, r_imeth, r_comp, r_es0, r_es1, r_ch1, r_bo1, r_bo2, r_tnot, r_tband, r_tbor, r_tcmp, r_tvar, r_tcall, r_tme, r_tidx, r_tbi, r_ts0, r_ts1, r_tgs0, r_tgs1, r_sexpr, r_sassign, r_saug, r_sdel, r_sife, r_swhl, r_sfr, r_sret, r_ss0, r_ss1, tg_var, tg_tup, tg_idx, tg_slc, bin_add, bin_sub, bin_mul, bin_div, bin_mod, bin_cat, cmp_eqi, cmp_eqs, cmp_nei, cmp_nes, cmp_lt, cmp_le, cmp_gt, cmp_ge, cmp_isn, cmp_ist, cmp_notn, cmp_nott, tr_none, tr_bool, tr_int, tr_str, tr_tup, ix_str, ix_tup, sl_ii, sl_in, sl_ni, bi_lens, bi_lent, bi_min, bi_max, bi_rng, bi_rng2, me_find, me_find2, ok_find, me_app, ok_app, me_ins, me_pop, me_join, me_ends, me_starts, ok_ins, ok_pop, ok_join, ok_ends, ok_starts, it_str, it_rng, neg_int, aug_addi, aug_adds, aug_subi, St.set, St.setAll, List.map_cons, List.map_nil, List.replicate, List.cons_append, List.nil_append, List.getElem?_cons_succ, List.getElem?_cons_zero, List.set_cons_succ, List.set_cons_zero, List.length_cons, List.length_nil, dreduceIte, retV]
  refine ⟨hTd, at_cc hT c.cE.1 c.cE.2 ?_⟩
  dsimp only [r_lit, r_var, r_bin, r_neg, r_not, r_list, r_tup, r_cmp, r_band, r_bor, r_idx, r_slc, r_attr, r_bi, r_call, r_me, r_imeth, r_comp, r_es0, r_es1, r_ch1, r_bo1, r_bo2, r_tnot, r_tband, r_tbor, r_tcmp, r_tvar, r_tcall, r_tme, r_tidx, r_tbi, r_ts0, r_ts1, r_tgs0, r_tgs1, r_sexpr, r_sassign, r_saug, r_sdel, r_sife, r_swhl, r_sfr, r_sret, r_ss0, r_ss1, tg_var, tg_tup, tg_idx, tg_slc, bin_add, bin_sub, bin_mul, bin_div, bin_mod, bin_cat, cmp_eqi, cmp_eqs, cmp_nei, cmp_nes, cmp_lt, cmp_le, cmp_gt, cmp_ge, cmp_isn, cmp_ist, cmp_notn, cmp_nott, tr_none, tr_bool, tr_int, tr_str, tr_tup, ix_str, ix_tup, sl_ii, sl_in, sl_ni, bi_lens, bi_lent, bi_min, bi_max, bi_rng, bi_rng2, me_find, me_find2, ok_find, me_app, ok_app, me_ins, me_pop, me_join, me_ends, me_starts, ok_ins, ok_pop, ok_join, ok_ends, ok_starts, it_str, it_rng, neg_int, aug_addi, aug_adds, aug_subi, St.set, St.setAll, List.map_cons, List.map_nil, List.replicate, List.cons_append, List.nil_append, List.getElem?_cons_succ, List.getElem?_cons_zero, List.set_cons_succ, List.set_cons_zero, List.length_cons, List.length_nil, dreduceIte, retV]
  refine ⟨_, hm, by rw [rv_len]; unfold small; omega, n1 _ ?_⟩
  have hx1 : Ext d m (upd m d (.list (rv L ++ [V.tup [.int 0, .str []]]))) := .upd _ _ _
  have hm1 : upd m d (.list (rv L ++ [V.tup [.int 0, .str []]])) d = some (.list (rv (L ++ [((0 : Int), ([] : Tx))]))) := by rw [upd_self, rv_append]; rfl
  clear n1
  generalize upd m d (.list (rv L ++ [V.tup [.int 0, .str []]])) = m1 at hx1 hm1
  refine ss_next fun Q2 n2 => ?_
  dsimp only [r_lit, r_var, r_bin, r_neg, r_not, r_list, r_tup, r_cmp, r_band, r_bor, r_idx, r_slc, r_attr, r_bi, r_call, r_me, r_imeth, r_comp, r_es0, r_es1, r_ch1, r_bo1, r_bo2, r_tnot, r_tband, r_tbor, r_tcmp, r_tvar, r_tcall, r_tme, r_tidx, r_tbi, r_ts0, r_ts1, r_tgs0, r_tgs1, r_sexpr, r_sassign, r_saug, r_sdel, r_sife, r_swhl, r_sfr, r_sret, r_ss0, r_ss1, tg_var, tg_tup, tg_idx, tg_slc, bin_add, bin_sub, bin_mul, bin_div, bin_mod, bin_cat, cmp_eqi, cmp_eqs, cmp_nei, cmp_nes, cmp_lt, cmp_le, cmp_gt, cmp_ge, cmp_isn, cmp_ist, cmp_notn, cmp_nott, tr_none, tr_bool, tr_int, tr_str, tr_tup, ix_str, ix_tup, sl_ii, sl_in, sl_ni, bi_lens, bi_lent, bi_min, bi_max, bi_rng, bi_rng2, me_find, me_find2, ok_find, me_app, ok_app, me_ins, me_pop, me_join, me_ends, me_starts, ok_ins, ok_pop, ok_join, ok_ends, ok_starts, it_str, it_rng, neg_int, aug_addi, aug_adds, aug_subi, St.set, St.setAll, List.map_cons, List.map_nil, List.replicate, List.cons_append, List.nil_append, List.getElem?_cons_succ, List.getElem?_cons_zero, List.set_cons_succ, List.set_cons_zero, List.length_cons, List.length_nil, dreduceIte, retV]
  refine n2 _ (ss_next fun Q3 n3 => ?_)
  dsimp only [r_lit, r_var, r_bin, r_neg, r_not, r_list, r_tup, r_cmp, r_band, r_bor, r_idx, r_slc, r_attr, r_bi, r_call, r_me, r_imeth, r_comp, r_es0, r_es1, r_ch1, r_bo1, r_bo2, r_tnot, r_tband, r_tbor, r_tcmp, r_tvar, r_tcall, r_tme, r_tidx, r_tbi, r_ts0, r_ts1, r_tgs0, r_tgs1, r_sexpr, r_sassign, r_saug, r_sdel, r_sife, r_swhl, r_sfr, r_sret, r_ss0, r_ss1, tg_var, tg_tup, tg_idx, tg_slc, bin_add, bin_sub, bin_mul, bin_div, bin_mod, bin_cat, cmp_eqi, cmp_eqs, cmp_nei, cmp_nes, cmp_lt, cmp_le, cmp_gt, cmp_ge, cmp_isn, cmp_ist, cmp_notn, cmp_nott, tr_none, tr_bool, tr_int, tr_str, tr_tup, ix_str, ix_tup, sl_ii, sl_in, sl_ni, bi_lens, bi_lent, bi_min, bi_max, bi_rng, bi_rng2, me_find, me_find2, ok_find, me_app, ok_app, me_ins, me_pop, me_join, me_ends, me_starts, ok_ins, ok_pop, ok_join, ok_ends, ok_starts, it_str, it_rng, neg_int, aug_addi, aug_adds, aug_subi, St.set, St.setAll, List.map_cons, List.map_nil, List.replicate, List.cons_append, List.nil_append, List.getElem?_cons_succ, List.getElem?_cons_zero, List.set_cons_succ, List.set_cons_zero, List.length_cons, List.length_nil, dreduceIte, retV]
  refine n3 _ (ss_next fun Q4 n4 => ?_)
  dsimp only [r_lit, r_var, r_bin, r_neg, r_not, r_list, r_tup, r_cmp, r_band, r_bor, r_idx, r_slc, r_attr, r_bi, r_call, r_me, r_imeth, r_comp, r_es0, r_es1, r_ch1, r_bo1, r_bo2, r_tnot, r_tband, r_tbor, r_tcmp, r_tvar, r_tcall, r_tme, r_tidx, r_tbi, r_ts0, r_ts1, r_tgs0, r_tgs1, r_sexpr, r_sassign, r_saug, r_sdel, r_sife, r_swhl, r_sfr, r_sret, r_ss0, r_ss1, tg_var, tg_tup, tg_idx, tg_slc, bin_add, bin_sub, bin_mul, bin_div, bin_mod, bin_cat, cmp_eqi, cmp_eqs, cmp_nei, cmp_nes, cmp_lt, cmp_le, cmp_gt, cmp_ge, cmp_isn, cmp_ist, cmp_notn, cmp_nott, tr_none, tr_bool, tr_int, tr_str, tr_tup, ix_str, ix_tup, sl_ii, sl_in, sl_ni, bi_lens, bi_lent, bi_min, bi_max, bi_rng, bi_rng2, me_find, me_find2, ok_find, me_app, ok_app, me_ins, me_pop, me_join, me_ends, me_starts, ok_ins, ok_pop, ok_join, ok_ends, ok_starts, it_str, it_rng, neg_int, aug_addi, aug_adds, aug_subi, St.set, St.setAll, List.map_cons, List.map_nil, List.replicate, List.cons_append, List.nil_append, List.getElem?_cons_succ, List.getElem?_cons_zero, List.set_cons_succ, List.set_cons_zero, List.length_cons, List.length_nil, dreduceIte, retV]
  refine n4 _ (ss_next fun Q5 n5 => ?_)
  dsimp only [r_lit, r_var, r_bin, r_neg, r_not, r_list, r_tup, r_cmp, r_band, r_bor, r_idx, r_slc, r_attr, r_bi, r_call, r_me, r_imeth, r_comp, r_es0, r_es1, r_ch1, r_bo1, r_bo2, r_tnot, r_tband, r_tbor, r_tcmp, r_tvar, r_tcall, r_tme, r_tidx, r_tbi, r_ts0, r_ts1, r_tgs0, r_tgs1, r_sexpr, r_sassign, r_saug, r_sdel, r_sife, r_swhl, r_sfr, r_sret, r_ss0, r_ss1, tg_var, tg_tup, tg_idx, tg_slc, bin_add, bin_sub, bin_mul, bin_div, bin_mod, bin_cat, cmp_eqi, cmp_eqs, cmp_nei, cmp_nes, cmp_lt, cmp_le, cmp_gt, cmp_ge, cmp_isn, cmp_ist, cmp_notn, cmp_nott, tr_none, tr_bool, tr_int, tr_str, tr_tup, ix_str, ix_tup, sl_ii, sl_in, sl_ni, bi_lens, bi_lent, bi_min, bi_max, bi_rng, bi_rng2, me_find, me_find2, ok_find, me_app, ok_app, me_ins, me_pop, me_join, me_ends, me_starts, ok_ins, ok_pop, ok_join, ok_ends, ok_starts, it_str, it_rng, neg_int, aug_addi, aug_adds, aug_subi, St.set, St.setAll, List.map_cons, List.map_nil, List.replicate, List.cons_append, List.nil_append, List.getElem?_cons_succ, List.getElem?_cons_zero, List.set_cons_succ, List.set_cons_zero, List.length_cons, List.length_nil, dreduceIte, retV]
  refine n5 _ (ss_next fun Q6 n6 => ?_)
  dsimp only [r_lit, r_var, r_bin, r_neg, r_not, r_list, r_tup, r_cmp, r_band, r_bor, r_idx, r_slc, r_attr, r_bi, r_call, r_me, r_imeth, r_comp, r_es0, r_es1, r_ch1, r_bo1, r_bo2, r_tnot, r_tband, r_tbor, r_tcmp, r_tvar, r_tcall, r_tme, r_tidx, r_tbi, r_ts0, r_ts1, r_tgs0, r_tgs1, r_sexpr, r_sassign, r_saug, r_sdel, r_sife, r_swhl, r_sfr, r_sret, r_ss0, r_ss1, tg_var, tg_tup, tg_idx, tg_slc, bin_add, bin_sub, bin_mul, bin_div, bin_mod, bin_cat, cmp_eqi, cmp_eqs, cmp_nei, cmp_nes, cmp_lt, cmp_le, cmp_gt, cmp_ge, cmp_isn, cmp_ist, cmp_notn, cmp_nott, tr_none, tr_bool, tr_int, tr_str, tr_tup, ix_str, ix_tup, sl_ii, sl_in, sl_ni, bi_lens, bi_lent, bi_min, bi_max, bi_rng, bi_rng2, me_find, me_find2, ok_find, me_app, ok_app, me_ins, me_pop, me_join, me_ends, me_starts, ok_ins, ok_pop, ok_join, ok_ends, ok_starts, it_str, it_rng, neg_int, aug_addi, aug_adds, aug_subi, St.set, St.setAll, List.map_cons, List.map_nil, List.replicate, List.cons_append, List.nil_append, List.getElem?_cons_succ, List.getElem?_cons_zero, List.set_cons_succ, List.set_cons_zero, List.length_cons, List.length_nil, dreduceIte, retV]
  refine n6 _ (ss_next fun Q7 n7 => cm_loop1 c (hT.ext hTd hx1) hm1 (hk.append (.cons (.inr (.inl rfl)) .nil)) (by omega) fun m2 p cd ci td ti x7 x8 x9 hm2 hφ2 hx2 => n7 _ ?_)
  have hx2 := hx1.trans hx2
  refine ss_next fun Q8 n8 => cm_pop hm2 eM (by omega) fun m3 hm3 hx3 => n8 _ ?_
  have hx3 := hx2.trans hx3
  refine cm_last c (hT.ext hTd hx3) hm3 hkind (by unfold merge at hphi; omega) (fun L' m1 Q' g1 g2 g3 g4 => hrec L' m1 Q' g1 g2 g3 (by unfold merge at hphi; omega)) fun σ' g1 g2 => h σ' ?_ (hx3.trans g2)
  rw [cleanN]; exact g1
end
end Mine
set_option autoImplicit false
set_option maxRecDepth 10000
set_option linter.unusedVariables false
set_option linter.unusedSimpArgs false
namespace Mine
open PySem PyProof.Rows PySem.W

/-- what the methods mean, n levels of clean-up deep -/
noncomputable def cmMeth (cls : Addr) (n : Nat) (f : String) (vs : List V) (Q : V → Mem → Prop) (m : Mem) : Prop :=
  (f = "diff_commonPrefix" ∧ ∃ s x y, vs = [s, .str x, .str y] ∧ small x.length ∧ small y.length ∧ Q (.int (lcp x y)) m) ∨
  (f = "diff_commonSuffix" ∧ ∃ s x y, vs = [s, .str x, .str y] ∧ small x.length ∧ small y.length ∧ Q (.int (lcs x y)) m) ∨
  (f = "diff_cleanupMerge" ∧ ∃ t d L, vs = [.obj t, .obj d] ∧ Tool (pcOf cls) m t ∧ m d = some (.list (rv L)) ∧ Kinds L ∧ phi L < n ∧ phi L ≤ 999 ∧ ∀ m', m' d = some (.list (rv (cleanN n L))) → Ext d m m' → Q .none m')
noncomputable def pcM (cls : Addr) (n : Nat) : PC := { pcOf cls with meth := cmMeth cls n }
theorem pcM_cm (cls : Addr) (n : Nat) : Cm (pcM cls n) where
  cD := ⟨rfl, rfl⟩
  cI := ⟨rfl, rfl⟩
  cE := ⟨rfl, rfl⟩
  fp := rfl
  fs := rfl
  fm := rfl
  cp := fun h1 h2 q => .inl ⟨rfl, _, _, _, rfl, h1, h2, q⟩
  cs := fun h1 h2 q => .inr (.inl ⟨rfl, _, _, _, rfl, h1, h2, q⟩)
noncomputable def cmChk (K : Frag) (cls : Addr) (fns meths : List String) : Bool :=
  fnChk K (meA K cls "diff_commonPrefix") m_diff_commonPrefixPs m_diff_commonPrefixRest (locSC m_diff_commonPrefixPs m_diff_commonPrefixRest m_diff_commonPrefixNames fns meths m_diff_commonPrefixCells) m_diff_commonPrefixBody &&
  fnChk K (meA K cls "diff_commonSuffix") m_diff_commonSuffixPs m_diff_commonSuffixRest (locSC m_diff_commonSuffixPs m_diff_commonSuffixRest m_diff_commonSuffixNames fns meths m_diff_commonSuffixCells) m_diff_commonSuffixBody &&
  fnChk K (meA K cls "diff_cleanupMerge") m_diff_cleanupMergePs m_diff_cleanupMergeRest (locSC m_diff_cleanupMergePs m_diff_cleanupMergeRest m_diff_cleanupMergeNames fns meths m_diff_cleanupMergeCells) m_diff_cleanupMergeBody
theorem cm_meth {G : GS} {cls : Addr} (b : Base G (pcOf cls)) (h : cmChk G.K cls G.fns G.meths = true) : ∀ (n : Nat) (A : Around), Lv A (n + 1) → ∀ f vs Q m, cmMeth cls n f vs Q m → CallS G A (.ref (meA G.K cls f)) vs Q m := by
  have h0 := h
  unfold cmChk at h
  simp only [Bool.and_eq_true] at h
  obtain ⟨⟨h1, h2⟩, h3⟩ := h
  intro n
  induction n with
  | zero =>
    intro A lv f vs Q m hc
    rcases hc with ⟨rfl, s, x, y, rfl, hx, hy, q⟩ | ⟨rfl, s, x, y, rfl, hx, hy, q⟩ | ⟨rfl, t, d, L, rfl, hT, hm, hk, hφ, _, _⟩
    · exact (call_fn b.gok b.gbi h1 lv.room (fun env => (lv.deeper env).rm) (fun env => run0 b) (fun _ h => h) (fun _ h => h) rfl (w_commonPrefix (pcOf cls) s x y m hx hy Q q)).toS
    · exact (call_fn b.gok b.gbi h2 lv.room (fun env => (lv.deeper env).rm) (fun env => run0 b) (fun _ h => h) (fun _ h => h) rfl (w_commonSuffix (pcOf cls) s x y m hx hy Q q)).toS
    · exact absurd hφ (Nat.not_lt_zero _)
  | succ n ih =>
    intro A lv f vs Q m hc
    rcases hc with ⟨rfl, s, x, y, rfl, hx, hy, q⟩ | ⟨rfl, s, x, y, rfl, hx, hy, q⟩ | ⟨rfl, t, d, L, rfl, hT, hm, hk, hφ, hφ9, q⟩
    · exact (call_fn b.gok b.gbi h1 lv.room (fun env => (lv.deeper env).rm) (fun env => run0 b) (fun _ h => h) (fun _ h => h) rfl (w_commonPrefix (pcOf cls) s x y m hx hy Q q)).toS
    · exact (call_fn b.gok b.gbi h2 lv.room (fun env => (lv.deeper env).rm) (fun env => run0 b) (fun _ h => h) (fun _ h => h) rfl (w_commonSuffix (pcOf cls) s x y m hx hy Q q)).toS
    · refine (call_fn (P := pcM cls n) b.gok b.gbi h3 lv.room (fun env => (lv.deeper env).rm) (fun env => ?_) (fun _ h => h) (fun _ h => h) rfl ?_).toS
      · exact run_mk (b.swap rfl rfl rfl) (fun _ _ _ _ _ h => h.elim) (fun f _ vs Q m hc => ih _ (lv.deeper env) f vs Q m hc) (fun _ _ _ _ h => h.elim)
      · refine w_cleanupMerge (pcM_cm cls n) hT hm hk hφ9 (fun L' m1 Q' g1 g2 g3 g4 g5 => ?_) fun σ' g1 g2 => q _ g1 g2
        exact .inr (.inr ⟨rfl, t, d, L', rfl, g1, g2, g3, by omega, by omega, g5⟩)
end Mine
set_option autoImplicit false
set_option maxRecDepth 10000
set_option linter.unusedVariables false
set_option linter.unusedSimpArgs false
namespace Mine
open PySem PyProof.Rows PySem.W

noncomputable def f_law_TEXTSPs : List PySem.Str := []
noncomputable def f_law_TEXTSRest : List PySem.Str := []
noncomputable def f_law_TEXTSNames : List (PySem.Str × NameKind) := []
noncomputable def f_law_TEXTSCells : List PySem.Str := []
noncomputable def f_law_TEXTSBody : List Sm := [
    .ret (.list [.lit (.str ['a']), .lit (.str ['b']), .lit (.str ['a', 'b']), .lit (.str ['b', 'a']), .lit (.str []), .lit (.str ['a', 'a']), .lit (.str ['b', 'b']), .lit (.str ['a', 'a', 'b']), .lit (.str ['b', 'a', 'a']), .lit (.str ['a', 'b', 'b']), .lit (.str ['b', 'b', 'a']), .lit (.str ['a', 'b', 'a']), .lit (.str ['b', 'a', 'b']), .lit (.str ['a', 'b', 'a', 'b']), .lit (.str ['c'])])]
noncomputable def f_law_sidePs : List PySem.Str := ["parts", "side"]
noncomputable def f_law_sideRest : List PySem.Str := []
noncomputable def f_law_sideNames : List (PySem.Str × NameKind) := []
noncomputable def f_law_sideCells : List PySem.Str := ["side"]
noncomputable def f_law_sideBody : List Sm := [
    .ret (.me (.lit (.str [])) .join [.comp (.var 1) false [0, 1] (.var 0) [.bor [.cmp (.var 0) [.Eq] [.lit (.int 0)], .cmp (.var 0) [.Eq] [.var 2]]] 2 [1]])]
noncomputable def f_law_slidesPs : List PySem.Str := ["parts"]
noncomputable def f_law_slidesRest : List PySem.Str := ["place", "before", "text", "behind"]
noncomputable def f_law_slidesNames : List (PySem.Str × NameKind) := [("range", .globalImplicit), ("len", .globalImplicit)]
noncomputable def f_law_slidesCells : List PySem.Str := []
noncomputable def f_law_slidesB1 : List Sm := [
    .assign [.tup [2, 3, 4]] (.tup [.idx (.idx (.var 0) (.bin .Sub (.var 1) (.lit (.int 1)))) (.lit (.int 1)), .idx (.idx (.var 0) (.var 1)) (.lit (.int 1)), .idx (.idx (.var 0) (.bin .Add (.var 1) (.lit (.int 1)))) (.lit (.int 1))]),
    .ife (.bor [.cmp (.slc (.var 3) (.neg (.bi .len [.var 2])) (.lit .none) (.lit .none)) [.Eq] [.var 2], .cmp (.slc (.var 3) (.lit .none) (.bi .len [.var 4]) (.lit .none)) [.Eq] [.var 4]]) [
      .ret (.lit (.bool true))] []]
noncomputable def f_law_slidesB2 : List Sm := [
    .ife (.band [.cmp (.idx (.idx (.var 0) (.bin .Sub (.var 1) (.lit (.int 1)))) (.lit (.int 0))) [.Eq] [.lit (.int 0)], .cmp (.idx (.idx (.var 0) (.bin .Add (.var 1) (.lit (.int 1)))) (.lit (.int 0))) [.Eq] [.lit (.int 0)]]) f_law_slidesB1 []]
noncomputable def f_law_slidesBody : List Sm := [
    .fr (.var 1) (.bi .range [.lit (.int 1), .bin .Sub (.bi .len [.var 0]) (.lit (.int 1))]) f_law_slidesB2,
    .ret (.lit (.bool false))]
noncomputable def f_law_turnedPs : List PySem.Str := ["parts"]
noncomputable def f_law_turnedRest : List PySem.Str := []
noncomputable def f_law_turnedNames : List (PySem.Str × NameKind) := [("sum", .globalImplicit)]
noncomputable def f_law_turnedCells : List PySem.Str := []
noncomputable def f_law_turnedBody : List Sm := [
    .ret (.bi .sum [.comp (.bi .len [.var 1]) false [0, 1] (.var 0) [.cmp (.var 0) [.NotEq] [.lit (.int 0)]] 2 []])]
noncomputable def f_law_groupedPs : List PySem.Str := ["parts"]
noncomputable def f_law_groupedRest : List PySem.Str := ["place", "old_kind", "old", "kind", "text"]
noncomputable def f_law_groupedNames : List (PySem.Str × NameKind) := [("range", .globalImplicit), ("len", .globalImplicit)]
noncomputable def f_law_groupedCells : List PySem.Str := []
noncomputable def f_law_groupedB1 : List Sm := [
    .ife (.bor [.cmp (.var 2) [.NotEq] [.neg (.lit (.int 1))], .cmp (.var 4) [.NotEq] [.lit (.int 1)], .cmp (.var 3) [.Eq] [.lit (.str [])], .cmp (.var 5) [.Eq] [.lit (.str [])]]) [
      .ret (.lit (.bool false))] [],
    .ife (.bor [.cmp (.idx (.var 3) (.lit (.int 0))) [.Eq] [.idx (.var 5) (.lit (.int 0))], .cmp (.idx (.var 3) (.neg (.lit (.int 1)))) [.Eq] [.idx (.var 5) (.neg (.lit (.int 1)))]]) [
      .ret (.lit (.bool false))] []]
noncomputable def f_law_groupedB2 : List Sm := [
    .assign [.tup [2, 3]] (.idx (.var 0) (.bin .Sub (.var 1) (.lit (.int 1)))),
    .assign [.tup [4, 5]] (.idx (.var 0) (.var 1)),
    .ife (.band [.cmp (.var 2) [.NotEq] [.lit (.int 0)], .cmp (.var 4) [.NotEq] [.lit (.int 0)]]) f_law_groupedB1 []]
noncomputable def f_law_groupedBody : List Sm := [
    .fr (.var 1) (.bi .range [.lit (.int 1), .bi .len [.var 0]]) f_law_groupedB2,
    .ret (.lit (.bool true))]
noncomputable def texts : List Tx := [['a'], ['b'], ['a', 'b'], ['b', 'a'], [], ['a', 'a'], ['b', 'b'], ['a', 'a', 'b'], ['b', 'a', 'a'], ['a', 'b', 'b'], ['b', 'b', 'a'], ['a', 'b', 'a'], ['b', 'a', 'b'], ['a', 'b', 'a', 'b'], ['c']]

/-- memory grows -/
noncomputable def Gr (m m' : Mem) : Prop := ∀ a o, m a = some o → m' a = some o
theorem Gr.refl (m : Mem) : Gr m m := fun _ _ e => e
theorem Gr.trans {m m' m'' : Mem} (x : Gr m m') (y : Gr m' m'') : Gr m m'' := fun a o e => y a o (x a o e)
theorem Gr.new {a : Addr} {m : Mem} (h : m a = none) (o : O) : Gr m (upd m a o) := fun b x e => by
  rw [upd_ne _ _ (fun q => by subst q; rw [h] at e; cases e)]; exact e
theorem Gr.set {m m' : Mem} (x : Gr m m') {a : Addr} (h : m a = none) (o : O) : Gr m (upd m' a o) := fun b y e => by
  rw [upd_ne _ _ (fun q => by subst q; rw [h] at e; cases e)]; exact x b y e

theorem wpComp_map {α : Type} {bind : V → (St → Prop) → St → Prop} {test : (Bool → St → Prop) → St → Prop} {elt : (V → St → Prop) → St → Prop} {g : Mem → Prop} {R : List V → Mem → Prop} (I : St → Prop) (h : α → V) (f : α → Option V) :
    ∀ (vs : List α) (us : List V) (σ : St), I σ → (∀ σ, I σ → g σ.mem) →
    (∀ v, v ∈ vs → ∀ σ, I σ → ∀ (K : V → St → Prop) (K' : St → Prop), (f v = none → ∀ σ', I σ' → K' σ') → (∀ u, f v = some u → ∀ σ', I σ' → K u σ') → bind (h v) (test fun b σ₁ => if b then elt K σ₁ else K' σ₁) σ) →
    (∀ σ', I σ' → R (us ++ vs.filterMap f) σ'.mem) → wpComp bind test elt g R (vs.map h) us σ
  | [], us, σ, i, hg, _, hR => ⟨hg σ i, by have := hR σ i; rwa [List.filterMap_nil, List.append_nil] at this⟩
  | v :: vs, us, σ, i, hg, hs, hR => by
    refine ⟨hg σ i, hs v List.mem_cons_self σ i _ _ (fun e σ' i' => ?_) (fun u e σ' i' => ?_)⟩
    · exact wpComp_map I h f vs us σ' i' hg (fun w hw => hs w (List.mem_cons_of_mem _ hw)) (by rwa [List.filterMap_cons_none e] at hR)
    · exact wpComp_map I h f vs (us ++ [u]) σ' i' hg (fun w hw => hs w (List.mem_cons_of_mem _ hw)) (by rw [List.filterMap_cons_some e] at hR; simpa using hR)
theorem loop_map {α : Type} {bind : V → (St → Prop) → St → Prop} {body : (Fl → St → Prop) → St → Prop} {g : Mem → Prop} {Q : Fl → St → Prop} (h : α → V) (I : List α → St → Prop) (hg : ∀ l σ, I l σ → g σ.mem)
    (step : ∀ p l σ, I (p :: l) σ → ∀ Q1 : Fl → St → Prop, (∀ σ', I l σ' → Q1 .next σ') → (∀ v σ', Q (.ret v) σ' → Q1 (.ret v) σ') → bind (h p) (body Q1) σ)
    (fin : ∀ σ, I [] σ → Q .next σ) : ∀ (l : List α) (σ : St), I l σ → wpLoop bind body g Q (l.map h) σ
  | [], σ, i => ⟨hg _ _ i, fin σ i⟩
  | p :: l, σ, i => ⟨hg _ _ i, step p l σ i _ (fun σ' i' => loop_map h I hg step fin l σ' i') (fun v σ' q => q)⟩
theorem rng_map (a : Nat) : ∀ n : Nat, rngFrom (a : Int) 1 n = (List.range' a n).map fun j : Nat => V.int j
  | 0 => rfl
  | n + 1 => by
    rw [List.range'_succ, List.map_cons, ← rng_map (a + 1) n]; rfl
theorem rng_two (a b : Nat) : rngL (a : Int) (b : Int) 1 = (List.range' a (b - a)).map fun j : Nat => V.int j := by
  unfold rngL Builtin.Range.rangeSize
  rw [if_pos (by decide)]
  have : (if (a : Int) < (b : Int) then ((b : Int) - a - 1) / 1 + 1 else 0).toNat = b - a := by split <;> omega
  rw [← rng_map]
  exact congrArg _ this
theorem it_row {m : Mem} {d : Addr} {r : Row} {K : List V → (Mem → Prop) → Prop} (hm : m d = some (.list (rv r))) (hs : r.length ≤ 1000) (h : K (rv r) fun m' => m' d = some (.list (rv r))) : wpItems m (.obj d) K :=
  ⟨_, hm, by rw [rv_len]; unfold small; omega, h⟩

section
variable {P : PC} {Q : V → Mem → Prop} {m : Mem}
theorem w_TEXTS (h : ∀ m' a, Gr m m' → m' a = some (.list (texts.map V.str)) → Q (.obj a) m') : wpSs P f_law_TEXTSBody (fun fl σ' => Q (retV fl) σ'.mem) ⟨([] : List V).map some ++ List.replicate 0 none, m⟩ := by
  unfold f_law_TEXTSBody
  refine ss_ret fun Q1 _ n1 => ?_
  dsimp only [r_lit, r_var, r_bin, r_neg, r_not, r_list, r_tup, r_cmp, r_band, r_bor, r_idx, r_slc, r_attr, r_bi, r_call, r_me, r_imeth, r_comp, r_es0, r_es1, r_ch1, r_bo1, r_bo2, r_tnot, r_tband, r_tbor, r_tcmp, r_tvar, r_tcall, r_tme, r_tidx, r_tbi, r_ts0, r_ts1, r_tgs0, r_tgs1, r_sexpr, r_sassign, r_saug, r_sdel, r_sife, r_swhl, r_sfr, r_sret, r_ss0, r_ss1, tg_var, tg_tup, tg_idx, tg_slc, bin_add, bin_sub, bin_mul, bin_div, bin_mod, bin_cat, cmp_eqi, cmp_eqs, cmp_nei, cmp_nes, cmp_lt, cmp_le, cmp_gt, cmp_ge, cmp_isn, cmp_ist, cmp_notn, cmp_nott, tr_none, tr_bool, tr_int, tr_str, tr_tup, ix_str, ix_tup, sl_ii, sl_in, sl_ni, bi_lens, bi_lent, bi_min, bi_max, bi_rng, bi_rng2, me_find, me_find2, ok_find, me_app, ok_app, me_ins, me_pop, me_join, me_ends, me_starts, ok_ins, ok_pop, ok_join, ok_ends, ok_starts, it_str, it_rng, neg_int, aug_addi, aug_adds, aug_subi, St.set, St.setAll, List.map_cons, List.map_nil, List.replicate, List.cons_append, List.nil_append, List.getElem?_cons_succ, List.getElem?_cons_zero, List.set_cons_succ, List.set_cons_zero, List.length_cons, List.length_nil, dreduceIte, retV]
  intro a ha
  exact n1 _ _ (h _ _ (.new ha _) (upd_self _ _ _))

noncomputable def sideT (k : Int) (p : Part) : Option V := if p.1 = 0 ∨ p.1 = k then some (.str p.2) else none
theorem side_list (k : Int) : ∀ r : Row, ∃ xs : List Tx, r.filterMap (sideT k) = xs.map V.str ∧ xs.flatten = side k r ∧ xs.length ≤ r.length
  | [] => ⟨[], rfl, rfl, Nat.le_refl _⟩
  | p :: r => by
    obtain ⟨xs, a, b, c⟩ := side_list k r
    by_cases h : p.1 = 0 ∨ p.1 = k
    · refine ⟨p.2 :: xs, ?_, ?_, by simp; omega⟩
      · rw [List.filterMap_cons_some (show sideT k p = some (.str p.2) from if_pos h), a]; rfl
      · rw [List.flatten_cons, b, side, if_pos h]
    · refine ⟨xs, ?_, ?_, by simp; omega⟩
      · rw [List.filterMap_cons_none (show sideT k p = none from if_neg h), a]
      · rw [b, side, if_neg h, List.nil_append]
theorem side_phi (k : Int) : ∀ r : Row, (side k r).length ≤ phi r
  | [] => by simp [side]
  | p :: r => by
    rw [side, phi_cons, List.length_append]
    have := side_phi k r
    split <;> simp <;> omega
theorem w_side {d : Addr} {k : Int} {r : Row} (hm : m d = some (.list (rv r))) (hφ : phi r ≤ 1000) (h : ∀ m', Gr m m' → Q (.str (side k r)) m') :
    wpSs P f_law_sideBody (fun fl σ' => Q (retV fl) σ'.mem) ⟨[V.obj d, .int k].map some ++ List.replicate 0 none, m⟩ := by
  have hL := len_le_phi r
  unfold f_law_sideBody
  refine ss_ret fun Q1 _ n1 => ?_
  dsimp only [r_lit, r_var, r_bin, r_neg, r_not, r_list, r_tup, r_cmp, r_band, r_bor, r_idx, r_slc, r_attr, r_bi, r_call, r_me, r_imeth, r_comp, r_es0, r_es1, r_ch1, r_bo1, r_bo2, r_tnot, r_tband, r_tbor, r_tcmp, r_tvar, r_tcall, r_tme, r_tidx, r_tbi, r_ts0, r_ts1, r_tgs0, r_tgs1, r_sexpr, r_sassign, r_saug, r_sdel, r_sife, r_swhl, r_sfr, r_sret, r_ss0, r_ss1, tg_var, tg_tup, tg_idx, tg_slc, bin_add, bin_sub, bin_mul, bin_div, bin_mod, bin_cat, cmp_eqi, cmp_eqs, cmp_nei, cmp_nes, cmp_lt, cmp_le, cmp_gt, cmp_ge, cmp_isn, cmp_ist, cmp_notn, cmp_nott, tr_none, tr_bool, tr_int, tr_str, tr_tup, ix_str, ix_tup, sl_ii, sl_in, sl_ni, bi_lens, bi_lent, bi_min, bi_max, bi_rng, bi_rng2, me_find, me_find2, ok_find, me_app, ok_app, me_ins, me_pop, me_join, me_ends, me_starts, ok_ins, ok_pop, ok_join, ok_ends, ok_starts, it_str, it_rng, neg_int, aug_addi, aug_adds, aug_subi, St.set, St.setAll, List.map_cons, List.map_nil, List.replicate, List.cons_append, List.nil_append, List.getElem?_cons_succ, List.getElem?_cons_zero, List.set_cons_succ, List.set_cons_zero, List.length_cons, List.length_nil, dreduceIte, retV]
  refine ⟨trivial, it_row hm (by omega) ⟨by rw [rv_len]; unfold small; omega, ?_⟩⟩
  refine wpComp_map (fun σ => ∃ x y, σ = ⟨[x, y, some (.int k)], m⟩) pv (sideT k) r [] _ ⟨none, none, rfl⟩ (by rintro _ ⟨x, y, rfl⟩; exact hm) ?_ ?_
  · rintro ⟨j, t⟩ _ _ ⟨x, y, rfl⟩ K K' h1 h2
    have g1 : ¬ (j = 0 ∨ j = k) → ∀ σ', (∃ x y, σ' = ⟨[x, y, some (.int k)], m⟩) → K' σ' := fun q => h1 (if_neg q)
    have g2 : (j = 0 ∨ j = k) → ∀ σ', (∃ x y, σ' = ⟨[x, y, some (.int k)], m⟩) → K (.str t) σ' := fun q => h2 _ (if_pos q)
    refine ⟨rfl, ?_⟩
    dsimp only [r_lit, r_var, r_bin, r_neg, r_not, r_list, r_tup, r_cmp, r_band, r_bor, r_idx, r_slc, r_attr, r_bi, r_call, r_me, r_imeth, r_comp, r_es0, r_es1, r_ch1, r_bo1, r_bo2, r_tnot, r_tband, r_tbor, r_tcmp, r_tvar, r_tcall, r_tme, r_tidx, r_tbi, r_ts0, r_ts1, r_tgs0, r_tgs1, r_sexpr, r_sassign, r_saug, r_sdel, r_sife, r_swhl, r_sfr, r_sret, r_ss0, r_ss1, tg_var, tg_tup, tg_idx, tg_slc, bin_add, bin_sub, bin_mul, bin_div, bin_mod, bin_cat, cmp_eqi, cmp_eqs, cmp_nei, cmp_nes, cmp_lt, cmp_le, cmp_gt, cmp_ge, cmp_isn, cmp_ist, cmp_notn, cmp_nott, tr_none, tr_bool, tr_int, tr_str, tr_tup, ix_str, ix_tup, sl_ii, sl_in, sl_ni, bi_lens, bi_lent, bi_min, bi_max, bi_rng, bi_rng2, me_find, me_find2, ok_find, me_app, ok_app, me_ins, me_pop, me_join, me_ends, me_starts, ok_ins, ok_pop, ok_join, ok_ends, ok_starts, it_str, it_rng, neg_int, aug_addi, aug_adds, aug_subi, St.set, St.setAll, List.map_cons, List.map_nil, List.replicate, List.cons_append, List.nil_append, List.getElem?_cons_succ, List.getElem?_cons_zero, List.set_cons_succ, List.set_cons_zero, List.length_cons, List.length_nil, dreduceIte, retV]
    by_cases q : j = 0
    · rw [decide_eq_true q]
      exact g2 (.inl q) _ ⟨_, _, rfl⟩
    · rw [decide_eq_false q]
      by_cases q2 : j = k
      · rw [decide_eq_true q2]
        exact g2 (.inr q2) _ ⟨_, _, rfl⟩
      · rw [decide_eq_false q2]
        exact g1 (fun z => z.elim q q2) _ ⟨_, _, rfl⟩
  · rintro _ ⟨x, y, rfl⟩ a ha
    obtain ⟨xs, e1, e2, e3⟩ := side_list k r
    have := side_phi k r
    dsimp only [r_lit, r_var, r_bin, r_neg, r_not, r_list, r_tup, r_cmp, r_band, r_bor, r_idx, r_slc, r_attr, r_bi, r_call, r_me, r_imeth, r_comp, r_es0, r_es1, r_ch1, r_bo1, r_bo2, r_tnot, r_tband, r_tbor, r_tcmp, r_tvar, r_tcall, r_tme, r_tidx, r_tbi, r_ts0, r_ts1, r_tgs0, r_tgs1, r_sexpr, r_sassign, r_saug, r_sdel, r_sife, r_swhl, r_sfr, r_sret, r_ss0, r_ss1, tg_var, tg_tup, tg_idx, tg_slc, bin_add, bin_sub, bin_mul, bin_div, bin_mod, bin_cat, cmp_eqi, cmp_eqs, cmp_nei, cmp_nes, cmp_lt, cmp_le, cmp_gt, cmp_ge, cmp_isn, cmp_ist, cmp_notn, cmp_nott, tr_none, tr_bool, tr_int, tr_str, tr_tup, ix_str, ix_tup, sl_ii, sl_in, sl_ni, bi_lens, bi_lent, bi_min, bi_max, bi_rng, bi_rng2, me_find, me_find2, ok_find, me_app, ok_app, me_ins, me_pop, me_join, me_ends, me_starts, ok_ins, ok_pop, ok_join, ok_ends, ok_starts, it_str, it_rng, neg_int, aug_addi, aug_adds, aug_subi, St.set, St.setAll, List.map_cons, List.map_nil, List.replicate, List.cons_append, List.nil_append, List.getElem?_cons_succ, List.getElem?_cons_zero, List.set_cons_succ, List.set_cons_zero, List.length_cons, List.length_nil, dreduceIte, retV]
    refine ⟨rfl, xs, ?_, by omega, by rw [e2]; omega, n1 _ _ ?_⟩
    · rw [upd_self, e1]
    · rw [e2]; exact h _ (.new ha _)

noncomputable def turnT (p : Part) : Option V := if p.1 = 0 then none else some (.int p.2.length)
theorem turn_list : ∀ r : Row, ∃ ns : List Int, r.filterMap turnT = ns.map V.int ∧ ns.sum = turned r
  | [] => ⟨[], rfl, rfl⟩
  | p :: r => by
    obtain ⟨ns, a, b⟩ := turn_list r
    by_cases h : p.1 = 0
    · refine ⟨ns, ?_, ?_⟩
      · rw [List.filterMap_cons_none (show turnT p = none from if_pos h), a]
      · rw [b, turned, if_pos h, Nat.zero_add]
    · refine ⟨p.2.length :: ns, ?_, ?_⟩
      · rw [List.filterMap_cons_some (show turnT p = some (.int p.2.length) from if_neg h), a]; rfl
      · rw [List.sum_cons, b, turned, if_neg h]; simp
theorem w_turned {d : Addr} {r : Row} (hm : m d = some (.list (rv r))) (hφ : phi r ≤ 1000) (h : ∀ m', Gr m m' → Q (.int (turned r)) m') :
    wpSs P f_law_turnedBody (fun fl σ' => Q (retV fl) σ'.mem) ⟨[V.obj d].map some ++ List.replicate 0 none, m⟩ := by
  have hL := len_le_phi r
  unfold f_law_turnedBody
  refine ss_ret fun Q1 _ n1 => ?_
  dsimp only [r_lit, r_var, r_bin, r_neg, r_not, r_list, r_tup, r_cmp, r_band, r_bor, r_idx, r_slc, r_attr, r_bi, r_call, r_me, r_imeth, r_comp, r_es0, r_es1, r_ch1, r_bo1, r_bo2, r_tnot, r_tband, r_tbor, r_tcmp, r_tvar, r_tcall, r_tme, r_tidx, r_tbi, r_ts0, r_ts1, r_tgs0, r_tgs1, r_sexpr, r_sassign, r_saug, r_sdel, r_sife, r_swhl, r_sfr, r_sret, r_ss0, r_ss1, tg_var, tg_tup, tg_idx, tg_slc, bin_add, bin_sub, bin_mul, bin_div, bin_mod, bin_cat, cmp_eqi, cmp_eqs, cmp_nei, cmp_nes, cmp_lt, cmp_le, cmp_gt, cmp_ge, cmp_isn, cmp_ist, cmp_notn, cmp_nott, tr_none, tr_bool, tr_int, tr_str, tr_tup, ix_str, ix_tup, sl_ii, sl_in, sl_ni, bi_lens, bi_lent, bi_min, bi_max, bi_rng, bi_rng2, me_find, me_find2, ok_find, me_app, ok_app, me_ins, me_pop, me_join, me_ends, me_starts, ok_ins, ok_pop, ok_join, ok_ends, ok_starts, it_str, it_rng, neg_int, aug_addi, aug_adds, aug_subi, St.set, St.setAll, List.map_cons, List.map_nil, List.replicate, List.cons_append, List.nil_append, List.getElem?_cons_succ, List.getElem?_cons_zero, List.set_cons_succ, List.set_cons_zero, List.length_cons, List.length_nil, dreduceIte, retV]
  refine it_row hm (by omega) ⟨by rw [rv_len]; unfold small; omega, ?_⟩
  refine wpComp_map (fun σ => ∃ x y, σ = ⟨[x, y], m⟩) pv turnT r [] _ ⟨none, none, rfl⟩ (by rintro _ ⟨x, y, rfl⟩; exact hm) ?_ ?_
  · rintro ⟨j, t⟩ hp _ ⟨x, y, rfl⟩ K K' h1 h2
    have g1 : j = 0 → ∀ σ', (∃ x y, σ' = ⟨[x, y], m⟩) → K' σ' := fun q => h1 (if_pos q)
    have g2 : ¬ j = 0 → ∀ σ', (∃ x y, σ' = ⟨[x, y], m⟩) → K (.int t.length) σ' := fun q => h2 _ (if_neg q)
    have ht := txt_le_phi hp
    refine ⟨rfl, ?_⟩
    dsimp only [r_lit, r_var, r_bin, r_neg, r_not, r_list, r_tup, r_cmp, r_band, r_bor, r_idx, r_slc, r_attr, r_bi, r_call, r_me, r_imeth, r_comp, r_es0, r_es1, r_ch1, r_bo1, r_bo2, r_tnot, r_tband, r_tbor, r_tcmp, r_tvar, r_tcall, r_tme, r_tidx, r_tbi, r_ts0, r_ts1, r_tgs0, r_tgs1, r_sexpr, r_sassign, r_saug, r_sdel, r_sife, r_swhl, r_sfr, r_sret, r_ss0, r_ss1, tg_var, tg_tup, tg_idx, tg_slc, bin_add, bin_sub, bin_mul, bin_div, bin_mod, bin_cat, cmp_eqi, cmp_eqs, cmp_nei, cmp_nes, cmp_lt, cmp_le, cmp_gt, cmp_ge, cmp_isn, cmp_ist, cmp_notn, cmp_nott, tr_none, tr_bool, tr_int, tr_str, tr_tup, ix_str, ix_tup, sl_ii, sl_in, sl_ni, bi_lens, bi_lent, bi_min, bi_max, bi_rng, bi_rng2, me_find, me_find2, ok_find, me_app, ok_app, me_ins, me_pop, me_join, me_ends, me_starts, ok_ins, ok_pop, ok_join, ok_ends, ok_starts, it_str, it_rng, neg_int, aug_addi, aug_adds, aug_subi, St.set, St.setAll, List.map_cons, List.map_nil, List.replicate, List.cons_append, List.nil_append, List.getElem?_cons_succ, List.getElem?_cons_zero, List.set_cons_succ, List.set_cons_zero, List.length_cons, List.length_nil, dreduceIte, retV]
    by_cases q : j = 0
    · rw [decide_eq_true q]
      exact g1 q _ ⟨_, _, rfl⟩
    · rw [decide_eq_false q]
      exact ⟨by unfold small; simp only [] at ht; omega, g2 q _ ⟨_, _, rfl⟩⟩
  · rintro _ ⟨x, y, rfl⟩ a ha
    obtain ⟨ns, e1, e2⟩ := turn_list r
    refine ⟨ns, ?_, n1 _ _ ?_⟩
    · left; rw [upd_self, e1]; rfl
    · rw [e2]; exact h _ (.new ha _)
end
end Mine
set_option autoImplicit false
set_option maxRecDepth 10000
set_option linter.unusedVariables false
set_option linter.unusedSimpArgs false
namespace Mine
open PySem PyProof.Rows PySem.W

theorem pySl_ends {x b : Tx} (hb : b ≠ []) : pySl x (some (-(b.length : Int))) none = b ↔ ends x b := by
  have h0 : 0 < b.length := List.length_pos_iff.mpr hb
  by_cases h : b.length ≤ x.length
  · rw [pySl_nfrom h0 h]
    exact ⟨fun e => ⟨h, e⟩, fun e => e.2⟩
  · constructor
    · intro e
      have := pySl_len x (some (-(b.length : Int))) none
      rw [e] at this
      exact absurd this h
    · intro e; exact absurd e.1 h
theorem pySl_starts {x c : Tx} : pySl x none (some (c.length : Int)) = c ↔ starts x c := by
  by_cases h : c.length ≤ x.length
  · rw [pySl_to x h]; exact Iff.rfl
  · have l : ∀ y : Tx, y.length ≤ x.length → y ≠ c := fun y q e => h (e ▸ q)
    exact ⟨fun e => absurd e (l _ (pySl_len x _ _)), fun e => absurd e (l _ (by rw [List.length_take]; omega))⟩
theorem get_head {x : Tx} : pyGet x 0 = x.head? := by
  cases x with
  | nil => rfl
  | cons a x => exact pyGet_nn (a :: x) 0 (by simp)
theorem get_last {x : Tx} (h : x ≠ []) : pyGet x (-1) = x.getLast? := by
  rw [pyGet_last x (List.length_pos_iff.mpr h), List.getLast?_eq_getElem?]
theorem rng_from1 (n : Nat) (b : Int) (h : b = n) : rngL 1 b 1 = (List.range' 1 (n - 1)).map fun j : Nat => V.int j := by
  subst h; exact rng_two 1 n
theorem rng_neg : rngL 1 (-1) 1 = [] := rfl

section
variable {P : PC} {Q : V → Mem → Prop} {m : Mem}
theorem w_slides {d : Addr} {r : Row} (hm : m d = some (.list (rv r))) (hφ : phi r ≤ 1000) (hN : NE r) (h : ∀ b, (b = true ↔ ¬ noSl r) → Q (.bool b) m) :
    wpSs P f_law_slidesBody (fun fl σ' => Q (retV fl) σ'.mem) ⟨[V.obj d].map some ++ List.replicate 4 none, m⟩ := by
  have hL := len_le_phi r
  have t1 : tiny 1 := by unfold tiny; omega
  have sm : ∀ {n : Nat}, n ≤ 2000 → small n := fun h => by unfold small; omega
  unfold f_law_slidesBody
  refine ss_ret fun Q1 n1 r1 => ?_
  dsimp only [r_lit, r_var, r_bin, r_neg, r_not, r_list, r_tup, r_cmp, r_band, r_bor, r_idx, r_slc, r_attr, r_bi, r_call, r_me, r_imeth, r_comp, r_es0, r_es1, r_ch1, r_bo1, r_bo2, r_tnot, r_tband, r_tbor, r_tcmp, r_tvar, r_tcall, r_tme, r_tidx, r_tbi, r_ts0, r_ts1, r_tgs0, r_tgs1, r_sexpr, r_sassign, r_saug, r_sdel, r_sife, r_swhl, r_sfr, r_sret, r_ss0, r_ss1, tg_var, tg_tup, tg_idx, tg_slc, bin_add, bin_sub, bin_mul, bin_div, bin_mod, bin_cat, cmp_eqi, cmp_eqs, cmp_nei, cmp_nes, cmp_lt, cmp_le, cmp_gt, cmp_ge, cmp_isn, cmp_ist, cmp_notn, cmp_nott, tr_none, tr_bool, tr_int, tr_str, tr_tup, ix_str, ix_tup, sl_ii, sl_in, sl_ni, bi_lens, bi_lent, bi_min, bi_max, bi_rng, bi_rng2, me_find, me_find2, ok_find, me_app, ok_app, me_ins, me_pop, me_join, me_ends, me_starts, ok_ins, ok_pop, ok_join, ok_ends, ok_starts, it_str, it_rng, neg_int, aug_addi, aug_adds, aug_subi, St.set, St.setAll, List.map_cons, List.map_nil, List.replicate, List.cons_append, List.nil_append, List.getElem?_cons_succ, List.getElem?_cons_zero, List.set_cons_succ, List.set_cons_zero, List.length_cons, List.length_nil, dreduceIte, retV]
  refine len_row hm (sm (by omega)) ?_
  dsimp only [r_lit, r_var, r_bin, r_neg, r_not, r_list, r_tup, r_cmp, r_band, r_bor, r_idx, r_slc, r_attr, r_bi, r_call, r_me, r_imeth, r_comp, r_es0, r_es1, r_ch1, r_bo1, r_bo2, r_tnot, r_tband, r_tbor, r_tcmp, r_tvar, r_tcall, r_tme, r_tidx, r_tbi, r_ts0, r_ts1, r_tgs0, r_tgs1, r_sexpr, r_sassign, r_saug, r_sdel, r_sife, r_swhl, r_sfr, r_sret, r_ss0, r_ss1, tg_var, tg_tup, tg_idx, tg_slc, bin_add, bin_sub, bin_mul, bin_div, bin_mod, bin_cat, cmp_eqi, cmp_eqs, cmp_nei, cmp_nes, cmp_lt, cmp_le, cmp_gt, cmp_ge, cmp_isn, cmp_ist, cmp_notn, cmp_nott, tr_none, tr_bool, tr_int, tr_str, tr_tup, ix_str, ix_tup, sl_ii, sl_in, sl_ni, bi_lens, bi_lent, bi_min, bi_max, bi_rng, bi_rng2, me_find, me_find2, ok_find, me_app, ok_app, me_ins, me_pop, me_join, me_ends, me_starts, ok_ins, ok_pop, ok_join, ok_ends, ok_starts, it_str, it_rng, neg_int, aug_addi, aug_adds, aug_subi, St.set, St.setAll, List.map_cons, List.map_nil, List.replicate, List.cons_append, List.nil_append, List.getElem?_cons_succ, List.getElem?_cons_zero, List.set_cons_succ, List.set_cons_zero, List.length_cons, List.length_nil, dreduceIte, retV]
  have tb : tiny ((r.length : Int) - 1) := by unfold tiny; omega
  refine ⟨t1, tb, t1, tb, t1, by decide, ?_⟩
  have fin : noSl r → ∀ σ : St, σ.mem = m → Q1 .next σ := fun hn σ hσ => n1 _ (ss_ret fun Q2 n2 r2 => by
    dsimp only [r_lit, r_var, r_bin, r_neg, r_not, r_list, r_tup, r_cmp, r_band, r_bor, r_idx, r_slc, r_attr, r_bi, r_call, r_me, r_imeth, r_comp, r_es0, r_es1, r_ch1, r_bo1, r_bo2, r_tnot, r_tband, r_tbor, r_tcmp, r_tvar, r_tcall, r_tme, r_tidx, r_tbi, r_ts0, r_ts1, r_tgs0, r_tgs1, r_sexpr, r_sassign, r_saug, r_sdel, r_sife, r_swhl, r_sfr, r_sret, r_ss0, r_ss1, tg_var, tg_tup, tg_idx, tg_slc, bin_add, bin_sub, bin_mul, bin_div, bin_mod, bin_cat, cmp_eqi, cmp_eqs, cmp_nei, cmp_nes, cmp_lt, cmp_le, cmp_gt, cmp_ge, cmp_isn, cmp_ist, cmp_notn, cmp_nott, tr_none, tr_bool, tr_int, tr_str, tr_tup, ix_str, ix_tup, sl_ii, sl_in, sl_ni, bi_lens, bi_lent, bi_min, bi_max, bi_rng, bi_rng2, me_find, me_find2, ok_find, me_app, ok_app, me_ins, me_pop, me_join, me_ends, me_starts, ok_ins, ok_pop, ok_join, ok_ends, ok_starts, it_str, it_rng, neg_int, aug_addi, aug_adds, aug_subi, St.set, St.setAll, List.map_cons, List.map_nil, List.replicate, List.cons_append, List.nil_append, List.getElem?_cons_succ, List.getElem?_cons_zero, List.set_cons_succ, List.set_cons_zero, List.length_cons, List.length_nil, dreduceIte, retV]
    refine r2 _ _ ?_
    show Q (.bool false) σ.mem
    rw [hσ]
    exact h false ⟨fun q => (by cases q), fun q => absurd hn q⟩)
  cases r with
  | nil =>
    show wpLoop _ _ _ _ (rngL 1 (-1) 1) _
    rw [rng_neg]
    exact ⟨trivial, fin trivial _ rfl⟩
  | cons a0 r0 =>
    rw [rng_from1 r0.length _ (by simp)]
    refine loop_map (fun j : Nat => V.int j) (fun l σ => ∃ A a rest x1 x2 x3 x4, σ = ⟨[some (.obj d), x1, x2, x3, x4], m⟩ ∧ a0 :: r0 = A ++ a :: rest ∧ l = List.range' (A.length + 1) (rest.length - 1) ∧ (noSl (a :: rest) → noSl (a0 :: r0)))
      (fun _ _ _ => trivial) ?_ ?_ _ _ ⟨[], a0, r0, none, none, none, none, rfl, rfl, rfl, id⟩
    · rintro p l _ ⟨A, a, rest, x1, x2, x3, x4, rfl, hr, hl, hn⟩ Q2 k1 k2
      match rest, hr, hl, hn with
      | [], _, hl, _ => cases hl
      | [b], _, hl, _ => cases hl
      | b :: c :: C, hr, hl, hn =>
        have hl' : p :: l = List.range' (A.length + 1) (C.length + 1) := hl
        rw [List.range'_succ] at hl'
        cases hl'
        have h3 : At3 (a0 :: r0) ((A.length + 1 : Nat) : Int) A a b c C := ⟨hr, rfl⟩
        obtain ⟨y1, y2, y3⟩ := h3.tin (by omega)
        have mem : ∀ q ∈ [a, b, c], q ∈ a0 :: r0 := fun q hq => by rw [hr]; simp at hq ⊢; rcases hq with rfl | rfl | rfl <;> simp
        have ha := hN a (mem a (by simp))
        have la := txt_le_phi (mem a (by simp))
        have lb := txt_le_phi (mem b (by simp))
        have lc := txt_le_phi (mem c (by simp))
        have next : ¬ sc a b c → ∀ x2 x3 x4, Q2 .next ⟨[some (.obj d), some (.int ((A.length + 1 : Nat) : Int)), x2, x3, x4], m⟩ := fun q x2 x3 x4 =>
          k1 _ ⟨A ++ [a], b, c :: C, _, _, _, _, rfl, by rw [hr]; simp, by rw [List.length_append]; rfl, fun z => hn ⟨q, z⟩⟩
        unfold f_law_slidesB2
        dsimp only [tg_var, St.set, List.set_cons_succ, List.set_cons_zero]
        refine ss_ret fun Q3 n3 r3 => s_ife fun K kt kf => ?_
        dsimp only [r_lit, r_var, r_bin, r_neg, r_not, r_list, r_tup, r_cmp, r_band, r_bor, r_idx, r_slc, r_attr, r_bi, r_call, r_me, r_imeth, r_comp, r_es0, r_es1, r_ch1, r_bo1, r_bo2, r_tnot, r_tband, r_tbor, r_tcmp, r_tvar, r_tcall, r_tme, r_tidx, r_tbi, r_ts0, r_ts1, r_tgs0, r_tgs1, r_sexpr, r_sassign, r_saug, r_sdel, r_sife, r_swhl, r_sfr, r_sret, r_ss0, r_ss1, tg_var, tg_tup, tg_idx, tg_slc, bin_add, bin_sub, bin_mul, bin_div, bin_mod, bin_cat, cmp_eqi, cmp_eqs, cmp_nei, cmp_nes, cmp_lt, cmp_le, cmp_gt, cmp_ge, cmp_isn, cmp_ist, cmp_notn, cmp_nott, tr_none, tr_bool, tr_int, tr_str, tr_tup, ix_str, ix_tup, sl_ii, sl_in, sl_ni, bi_lens, bi_lent, bi_min, bi_max, bi_rng, bi_rng2, me_find, me_find2, ok_find, me_app, ok_app, me_ins, me_pop, me_join, me_ends, me_starts, ok_ins, ok_pop, ok_join, ok_ends, ok_starts, it_str, it_rng, neg_int, aug_addi, aug_adds, aug_subi, St.set, St.setAll, List.map_cons, List.map_nil, List.replicate, List.cons_append, List.nil_append, List.getElem?_cons_succ, List.getElem?_cons_zero, List.set_cons_succ, List.set_cons_zero, List.length_cons, List.length_nil, dreduceIte, retV]
        refine ix_row hm y1 h3.g1 (ix_fst ?_)
        dsimp only [r_lit, r_var, r_bin, r_neg, r_not, r_list, r_tup, r_cmp, r_band, r_bor, r_idx, r_slc, r_attr, r_bi, r_call, r_me, r_imeth, r_comp, r_es0, r_es1, r_ch1, r_bo1, r_bo2, r_tnot, r_tband, r_tbor, r_tcmp, r_tvar, r_tcall, r_tme, r_tidx, r_tbi, r_ts0, r_ts1, r_tgs0, r_tgs1, r_sexpr, r_sassign, r_saug, r_sdel, r_sife, r_swhl, r_sfr, r_sret, r_ss0, r_ss1, tg_var, tg_tup, tg_idx, tg_slc, bin_add, bin_sub, bin_mul, bin_div, bin_mod, bin_cat, cmp_eqi, cmp_eqs, cmp_nei, cmp_nes, cmp_lt, cmp_le, cmp_gt, cmp_ge, cmp_isn, cmp_ist, cmp_notn, cmp_nott, tr_none, tr_bool, tr_int, tr_str, tr_tup, ix_str, ix_tup, sl_ii, sl_in, sl_ni, bi_lens, bi_lent, bi_min, bi_max, bi_rng, bi_rng2, me_find, me_find2, ok_find, me_app, ok_app, me_ins, me_pop, me_join, me_ends, me_starts, ok_ins, ok_pop, ok_join, ok_ends, ok_starts, it_str, it_rng, neg_int, aug_addi, aug_adds, aug_subi, St.set, St.setAll, List.map_cons, List.map_nil, List.replicate, List.cons_append, List.nil_append, List.getElem?_cons_succ, List.getElem?_cons_zero, List.set_cons_succ, List.set_cons_zero, List.length_cons, List.length_nil, dreduceIte, retV]
        by_cases h0 : a.1 = 0
        · rw [decide_eq_true h0, if_pos rfl]
          refine ix_row hm y3 h3.g3 (ix_fst ?_)
          dsimp only [r_lit, r_var, r_bin, r_neg, r_not, r_list, r_tup, r_cmp, r_band, r_bor, r_idx, r_slc, r_attr, r_bi, r_call, r_me, r_imeth, r_comp, r_es0, r_es1, r_ch1, r_bo1, r_bo2, r_tnot, r_tband, r_tbor, r_tcmp, r_tvar, r_tcall, r_tme, r_tidx, r_tbi, r_ts0, r_ts1, r_tgs0, r_tgs1, r_sexpr, r_sassign, r_saug, r_sdel, r_sife, r_swhl, r_sfr, r_sret, r_ss0, r_ss1, tg_var, tg_tup, tg_idx, tg_slc, bin_add, bin_sub, bin_mul, bin_div, bin_mod, bin_cat, cmp_eqi, cmp_eqs, cmp_nei, cmp_nes, cmp_lt, cmp_le, cmp_gt, cmp_ge, cmp_isn, cmp_ist, cmp_notn, cmp_nott, tr_none, tr_bool, tr_int, tr_str, tr_tup, ix_str, ix_tup, sl_ii, sl_in, sl_ni, bi_lens, bi_lent, bi_min, bi_max, bi_rng, bi_rng2, me_find, me_find2, ok_find, me_app, ok_app, me_ins, me_pop, me_join, me_ends, me_starts, ok_ins, ok_pop, ok_join, ok_ends, ok_starts, it_str, it_rng, neg_int, aug_addi, aug_adds, aug_subi, St.set, St.setAll, List.map_cons, List.map_nil, List.replicate, List.cons_append, List.nil_append, List.getElem?_cons_succ, List.getElem?_cons_zero, List.set_cons_succ, List.set_cons_zero, List.length_cons, List.length_nil, dreduceIte, retV]
          by_cases h1 : c.1 = 0
          · rw [decide_eq_true h1, if_pos rfl]
            refine kt _ ?_
            unfold f_law_slidesB1
            refine ss_ret fun Q4 n4 r4 => ?_
            dsimp only [r_lit, r_var, r_bin, r_neg, r_not, r_list, r_tup, r_cmp, r_band, r_bor, r_idx, r_slc, r_attr, r_bi, r_call, r_me, r_imeth, r_comp, r_es0, r_es1, r_ch1, r_bo1, r_bo2, r_tnot, r_tband, r_tbor, r_tcmp, r_tvar, r_tcall, r_tme, r_tidx, r_tbi, r_ts0, r_ts1, r_tgs0, r_tgs1, r_sexpr, r_sassign, r_saug, r_sdel, r_sife, r_swhl, r_sfr, r_sret, r_ss0, r_ss1, tg_var, tg_tup, tg_idx, tg_slc, bin_add, bin_sub, bin_mul, bin_div, bin_mod, bin_cat, cmp_eqi, cmp_eqs, cmp_nei, cmp_nes, cmp_lt, cmp_le, cmp_gt, cmp_ge, cmp_isn, cmp_ist, cmp_notn, cmp_nott, tr_none, tr_bool, tr_int, tr_str, tr_tup, ix_str, ix_tup, sl_ii, sl_in, sl_ni, bi_lens, bi_lent, bi_min, bi_max, bi_rng, bi_rng2, me_find, me_find2, ok_find, me_app, ok_app, me_ins, me_pop, me_join, me_ends, me_starts, ok_ins, ok_pop, ok_join, ok_ends, ok_starts, it_str, it_rng, neg_int, aug_addi, aug_adds, aug_subi, St.set, St.setAll, List.map_cons, List.map_nil, List.replicate, List.cons_append, List.nil_append, List.getElem?_cons_succ, List.getElem?_cons_zero, List.set_cons_succ, List.set_cons_zero, List.length_cons, List.length_nil, dreduceIte, retV]
            refine ix_row hm y1 h3.g1 (ix_snd (ix_row hm y2 h3.g2 (ix_snd (ix_row hm y3 h3.g3 (ix_snd ?_)))))
            refine ⟨rfl, n4 _ (ss_ret fun Q5 n5 r5 => s_ife fun K2 kt2 kf2 => ?_)⟩
            dsimp only [r_lit, r_var, r_bin, r_neg, r_not, r_list, r_tup, r_cmp, r_band, r_bor, r_idx, r_slc, r_attr, r_bi, r_call, r_me, r_imeth, r_comp, r_es0, r_es1, r_ch1, r_bo1, r_bo2, r_tnot, r_tband, r_tbor, r_tcmp, r_tvar, r_tcall, r_tme, r_tidx, r_tbi, r_ts0, r_ts1, r_tgs0, r_tgs1, r_sexpr, r_sassign, r_saug, r_sdel, r_sife, r_swhl, r_sfr, r_sret, r_ss0, r_ss1, tg_var, tg_tup, tg_idx, tg_slc, bin_add, bin_sub, bin_mul, bin_div, bin_mod, bin_cat, cmp_eqi, cmp_eqs, cmp_nei, cmp_nes, cmp_lt, cmp_le, cmp_gt, cmp_ge, cmp_isn, cmp_ist, cmp_notn, cmp_nott, tr_none, tr_bool, tr_int, tr_str, tr_tup, ix_str, ix_tup, sl_ii, sl_in, sl_ni, bi_lens, bi_lent, bi_min, bi_max, bi_rng, bi_rng2, me_find, me_find2, ok_find, me_app, ok_app, me_ins, me_pop, me_join, me_ends, me_starts, ok_ins, ok_pop, ok_join, ok_ends, ok_starts, it_str, it_rng, neg_int, aug_addi, aug_adds, aug_subi, St.set, St.setAll, List.map_cons, List.map_nil, List.replicate, List.cons_append, List.nil_append, List.getElem?_cons_succ, List.getElem?_cons_zero, List.set_cons_succ, List.set_cons_zero, List.length_cons, List.length_nil, dreduceIte, retV]
            refine ⟨sm (by omega), sm (by omega), ?_⟩
            have yes : sc a b c → ∀ σ : St, σ.mem = m → wpSs P [.ret (.lit (.bool true))] Q5 σ := fun g σ hσ => ss_ret fun Q6 n6 r6 => by
              dsimp only [r_lit, r_var, r_bin, r_neg, r_not, r_list, r_tup, r_cmp, r_band, r_bor, r_idx, r_slc, r_attr, r_bi, r_call, r_me, r_imeth, r_comp, r_es0, r_es1, r_ch1, r_bo1, r_bo2, r_tnot, r_tband, r_tbor, r_tcmp, r_tvar, r_tcall, r_tme, r_tidx, r_tbi, r_ts0, r_ts1, r_tgs0, r_tgs1, r_sexpr, r_sassign, r_saug, r_sdel, r_sife, r_swhl, r_sfr, r_sret, r_ss0, r_ss1, tg_var, tg_tup, tg_idx, tg_slc, bin_add, bin_sub, bin_mul, bin_div, bin_mod, bin_cat, cmp_eqi, cmp_eqs, cmp_nei, cmp_nes, cmp_lt, cmp_le, cmp_gt, cmp_ge, cmp_isn, cmp_ist, cmp_notn, cmp_nott, tr_none, tr_bool, tr_int, tr_str, tr_tup, ix_str, ix_tup, sl_ii, sl_in, sl_ni, bi_lens, bi_lent, bi_min, bi_max, bi_rng, bi_rng2, me_find, me_find2, ok_find, me_app, ok_app, me_ins, me_pop, me_join, me_ends, me_starts, ok_ins, ok_pop, ok_join, ok_ends, ok_starts, it_str, it_rng, neg_int, aug_addi, aug_adds, aug_subi, St.set, St.setAll, List.map_cons, List.map_nil, List.replicate, List.cons_append, List.nil_append, List.getElem?_cons_succ, List.getElem?_cons_zero, List.set_cons_succ, List.set_cons_zero, List.length_cons, List.length_nil, dreduceIte, retV]
              refine r6 _ _ (r5 _ _ (r3 _ _ (k2 _ _ (r1 _ _ ?_))))
              show Q (.bool true) σ.mem
              rw [hσ]
              refine h true ⟨fun _ q => ?_, fun _ => rfl⟩
              rw [hr] at q
              exact (noSl_right q).1 g
            by_cases g1 : ends b.2 a.2
            · rw [decide_eq_true ((pySl_ends ha).mpr g1)]
              exact kt2 _ (yes ⟨h0, h1, .inl g1⟩ _ rfl)
            · rw [decide_eq_false (fun q => g1 ((pySl_ends ha).mp q))]
              refine ⟨sm (by omega), sm (by omega), ?_⟩
              by_cases g2 : starts b.2 c.2
              · rw [decide_eq_true (pySl_starts.mpr g2)]
                exact kt2 _ (yes ⟨h0, h1, .inr g2⟩ _ rfl)
              · rw [decide_eq_false (fun q => g2 (pySl_starts.mp q))]
                exact kf2 _ (ss_nil (n5 _ (ss_nil (n3 _ (ss_nil (next (fun q => q.2.2.elim g1 g2) _ _ _))))))
          · rw [decide_eq_false h1]
            exact kf _ (ss_nil (n3 _ (ss_nil (next (fun q => h1 q.2.1) _ _ _))))
        · rw [decide_eq_false h0]
          exact kf _ (ss_nil (n3 _ (ss_nil (next (fun q => h0 q.1) _ _ _))))
    · rintro _ ⟨A, a, rest, x1, x2, x3, x4, rfl, hr, hl, hn⟩
      refine fin (hn ?_) _ rfl
      match rest, hl with
      | [], _ => trivial
      | [b], _ => trivial
      | b :: c :: C, hl => cases hl

theorem w_grouped {d : Addr} {r : Row} (hm : m d = some (.list (rv r))) (hφ : phi r ≤ 1000) (hG : adj gp r) (h : Q (.bool true) m) :
    wpSs P f_law_groupedBody (fun fl σ' => Q (retV fl) σ'.mem) ⟨[V.obj d].map some ++ List.replicate 5 none, m⟩ := by
  have hL := len_le_phi r
  have t1 : tiny 1 := by unfold tiny; omega
  have t0 : tiny 0 := by unfold tiny; omega
  have tm : tiny (-1) := by unfold tiny; omega
  have sm : ∀ {n : Nat}, n ≤ 2000 → small n := fun h => by unfold small; omega
  unfold f_law_groupedBody
  refine ss_ret fun Q1 n1 r1 => ?_
  dsimp only [r_lit, r_var, r_bin, r_neg, r_not, r_list, r_tup, r_cmp, r_band, r_bor, r_idx, r_slc, r_attr, r_bi, r_call, r_me, r_imeth, r_comp, r_es0, r_es1, r_ch1, r_bo1, r_bo2, r_tnot, r_tband, r_tbor, r_tcmp, r_tvar, r_tcall, r_tme, r_tidx, r_tbi, r_ts0, r_ts1, r_tgs0, r_tgs1, r_sexpr, r_sassign, r_saug, r_sdel, r_sife, r_swhl, r_sfr, r_sret, r_ss0, r_ss1, tg_var, tg_tup, tg_idx, tg_slc, bin_add, bin_sub, bin_mul, bin_div, bin_mod, bin_cat, cmp_eqi, cmp_eqs, cmp_nei, cmp_nes, cmp_lt, cmp_le, cmp_gt, cmp_ge, cmp_isn, cmp_ist, cmp_notn, cmp_nott, tr_none, tr_bool, tr_int, tr_str, tr_tup, ix_str, ix_tup, sl_ii, sl_in, sl_ni, bi_lens, bi_lent, bi_min, bi_max, bi_rng, bi_rng2, me_find, me_find2, ok_find, me_app, ok_app, me_ins, me_pop, me_join, me_ends, me_starts, ok_ins, ok_pop, ok_join, ok_ends, ok_starts, it_str, it_rng, neg_int, aug_addi, aug_adds, aug_subi, St.set, St.setAll, List.map_cons, List.map_nil, List.replicate, List.cons_append, List.nil_append, List.getElem?_cons_succ, List.getElem?_cons_zero, List.set_cons_succ, List.set_cons_zero, List.length_cons, List.length_nil, dreduceIte, retV]
  refine len_row hm (sm (by omega)) ?_
  dsimp only [r_lit, r_var, r_bin, r_neg, r_not, r_list, r_tup, r_cmp, r_band, r_bor, r_idx, r_slc, r_attr, r_bi, r_call, r_me, r_imeth, r_comp, r_es0, r_es1, r_ch1, r_bo1, r_bo2, r_tnot, r_tband, r_tbor, r_tcmp, r_tvar, r_tcall, r_tme, r_tidx, r_tbi, r_ts0, r_ts1, r_tgs0, r_tgs1, r_sexpr, r_sassign, r_saug, r_sdel, r_sife, r_swhl, r_sfr, r_sret, r_ss0, r_ss1, tg_var, tg_tup, tg_idx, tg_slc, bin_add, bin_sub, bin_mul, bin_div, bin_mod, bin_cat, cmp_eqi, cmp_eqs, cmp_nei, cmp_nes, cmp_lt, cmp_le, cmp_gt, cmp_ge, cmp_isn, cmp_ist, cmp_notn, cmp_nott, tr_none, tr_bool, tr_int, tr_str, tr_tup, ix_str, ix_tup, sl_ii, sl_in, sl_ni, bi_lens, bi_lent, bi_min, bi_max, bi_rng, bi_rng2, me_find, me_find2, ok_find, me_app, ok_app, me_ins, me_pop, me_join, me_ends, me_starts, ok_ins, ok_pop, ok_join, ok_ends, ok_starts, it_str, it_rng, neg_int, aug_addi, aug_adds, aug_subi, St.set, St.setAll, List.map_cons, List.map_nil, List.replicate, List.cons_append, List.nil_append, List.getElem?_cons_succ, List.getElem?_cons_zero, List.set_cons_succ, List.set_cons_zero, List.length_cons, List.length_nil, dreduceIte, retV]
  have tb : tiny (r.length : Int) := by unfold tiny; omega
  refine ⟨t1, tb, t1, tb, t1, by decide, ?_⟩
  rw [rng_from1 r.length _ rfl]
  refine loop_map (fun j : Nat => V.int j) (fun l σ => ∃ x1 x2 x3 x4 x5, σ = ⟨[some (.obj d), x1, x2, x3, x4, x5], m⟩ ∧ (l = [] ∨ ∃ A a rest, r = A ++ a :: rest ∧ l = List.range' (A.length + 1) rest.length))
      (fun _ _ _ => trivial) ?_ ?_ _ _ ⟨none, none, none, none, none, rfl, ?_⟩
  · rintro p l _ ⟨x1, x2, x3, x4, x5, rfl, hl⟩ Q2 k1 k2
    rcases hl with hl | ⟨A, a, rest, hr, hl⟩
    · cases hl
    cases rest with
    | nil => cases hl
    | cons b C =>
      have hl' : p :: l = List.range' (A.length + 1) (C.length + 1) := hl
      rw [List.range'_succ] at hl'
      cases hl'
      have e2 : r = (A ++ [a]) ++ b :: C := by rw [hr]; simp
      have g1 : pyGet r (((A.length + 1 : Nat) : Int) - 1) = some a := by rw [hr]; exact pyGet_at _ _ _ (by omega)
      have g2 : pyGet r ((A.length + 1 : Nat) : Int) = some b := by rw [e2]; exact pyGet_at _ _ _ (by simp)
      have hl2 : A.length + 1 ≤ 1000 := by rw [hr] at hL; simp at hL; rw [hr] at hφ; omega
      have y1 : tiny (((A.length + 1 : Nat) : Int) - 1) := by unfold tiny; omega
      have y2 : tiny ((A.length + 1 : Nat) : Int) := by unfold tiny; omega
      have next : ∀ x2 x3 x4 x5, Q2 .next ⟨[some (.obj d), some (.int ((A.length + 1 : Nat) : Int)), x2, x3, x4, x5], m⟩ := fun x2 x3 x4 x5 =>
        k1 _ ⟨_, _, _, _, _, rfl, .inr ⟨A ++ [a], b, C, e2, by rw [List.length_append]; rfl⟩⟩
      have hg : gp a b := by rw [hr] at hG; exact (adj_right hG).1
      unfold f_law_groupedB2
      dsimp only [tg_var, St.set, List.set_cons_succ, List.set_cons_zero]
      refine ss_ret fun Q3 n3 r3 => ?_
      dsimp only [r_lit, r_var, r_bin, r_neg, r_not, r_list, r_tup, r_cmp, r_band, r_bor, r_idx, r_slc, r_attr, r_bi, r_call, r_me, r_imeth, r_comp, r_es0, r_es1, r_ch1, r_bo1, r_bo2, r_tnot, r_tband, r_tbor, r_tcmp, r_tvar, r_tcall, r_tme, r_tidx, r_tbi, r_ts0, r_ts1, r_tgs0, r_tgs1, r_sexpr, r_sassign, r_saug, r_sdel, r_sife, r_swhl, r_sfr, r_sret, r_ss0, r_ss1, tg_var, tg_tup, tg_idx, tg_slc, bin_add, bin_sub, bin_mul, bin_div, bin_mod, bin_cat, cmp_eqi, cmp_eqs, cmp_nei, cmp_nes, cmp_lt, cmp_le, cmp_gt, cmp_ge, cmp_isn, cmp_ist, cmp_notn, cmp_nott, tr_none, tr_bool, tr_int, tr_str, tr_tup, ix_str, ix_tup, sl_ii, sl_in, sl_ni, bi_lens, bi_lent, bi_min, bi_max, bi_rng, bi_rng2, me_find, me_find2, ok_find, me_app, ok_app, me_ins, me_pop, me_join, me_ends, me_starts, ok_ins, ok_pop, ok_join, ok_ends, ok_starts, it_str, it_rng, neg_int, aug_addi, aug_adds, aug_subi, St.set, St.setAll, List.map_cons, List.map_nil, List.replicate, List.cons_append, List.nil_append, List.getElem?_cons_succ, List.getElem?_cons_zero, List.set_cons_succ, List.set_cons_zero, List.length_cons, List.length_nil, dreduceIte, retV]
      refine ix_row hm y1 g1 ?_
      dsimp only [pv, r_lit, r_var, r_bin, r_neg, r_not, r_list, r_tup, r_cmp, r_band, r_bor, r_idx, r_slc, r_attr, r_bi, r_call, r_me, r_imeth, r_comp, r_es0, r_es1, r_ch1, r_bo1, r_bo2, r_tnot, r_tband, r_tbor, r_tcmp, r_tvar, r_tcall, r_tme, r_tidx, r_tbi, r_ts0, r_ts1, r_tgs0, r_tgs1, r_sexpr, r_sassign, r_saug, r_sdel, r_sife, r_swhl, r_sfr, r_sret, r_ss0, r_ss1, tg_var, tg_tup, tg_idx, tg_slc, bin_add, bin_sub, bin_mul, bin_div, bin_mod, bin_cat, cmp_eqi, cmp_eqs, cmp_nei, cmp_nes, cmp_lt, cmp_le, cmp_gt, cmp_ge, cmp_isn, cmp_ist, cmp_notn, cmp_nott, tr_none, tr_bool, tr_int, tr_str, tr_tup, ix_str, ix_tup, sl_ii, sl_in, sl_ni, bi_lens, bi_lent, bi_min, bi_max, bi_rng, bi_rng2, me_find, me_find2, ok_find, me_app, ok_app, me_ins, me_pop, me_join, me_ends, me_starts, ok_ins, ok_pop, ok_join, ok_ends, ok_starts, it_str, it_rng, neg_int, aug_addi, aug_adds, aug_subi, St.set, St.setAll, List.map_cons, List.map_nil, List.replicate, List.cons_append, List.nil_append, List.getElem?_cons_succ, List.getElem?_cons_zero, List.set_cons_succ, List.set_cons_zero, List.length_cons, List.length_nil, dreduceIte, retV]
      refine ⟨rfl, n3 _ (ss_ret fun Q4 n4 r4 => ?_)⟩
      dsimp only [r_lit, r_var, r_bin, r_neg, r_not, r_list, r_tup, r_cmp, r_band, r_bor, r_idx, r_slc, r_attr, r_bi, r_call, r_me, r_imeth, r_comp, r_es0, r_es1, r_ch1, r_bo1, r_bo2, r_tnot, r_tband, r_tbor, r_tcmp, r_tvar, r_tcall, r_tme, r_tidx, r_tbi, r_ts0, r_ts1, r_tgs0, r_tgs1, r_sexpr, r_sassign, r_saug, r_sdel, r_sife, r_swhl, r_sfr, r_sret, r_ss0, r_ss1, tg_var, tg_tup, tg_idx, tg_slc, bin_add, bin_sub, bin_mul, bin_div, bin_mod, bin_cat, cmp_eqi, cmp_eqs, cmp_nei, cmp_nes, cmp_lt, cmp_le, cmp_gt, cmp_ge, cmp_isn, cmp_ist, cmp_notn, cmp_nott, tr_none, tr_bool, tr_int, tr_str, tr_tup, ix_str, ix_tup, sl_ii, sl_in, sl_ni, bi_lens, bi_lent, bi_min, bi_max, bi_rng, bi_rng2, me_find, me_find2, ok_find, me_app, ok_app, me_ins, me_pop, me_join, me_ends, me_starts, ok_ins, ok_pop, ok_join, ok_ends, ok_starts, it_str, it_rng, neg_int, aug_addi, aug_adds, aug_subi, St.set, St.setAll, List.map_cons, List.map_nil, List.replicate, List.cons_append, List.nil_append, List.getElem?_cons_succ, List.getElem?_cons_zero, List.set_cons_succ, List.set_cons_zero, List.length_cons, List.length_nil, dreduceIte, retV]
      refine ix_row hm y2 g2 ?_
      dsimp only [pv, r_lit, r_var, r_bin, r_neg, r_not, r_list, r_tup, r_cmp, r_band, r_bor, r_idx, r_slc, r_attr, r_bi, r_call, r_me, r_imeth, r_comp, r_es0, r_es1, r_ch1, r_bo1, r_bo2, r_tnot, r_tband, r_tbor, r_tcmp, r_tvar, r_tcall, r_tme, r_tidx, r_tbi, r_ts0, r_ts1, r_tgs0, r_tgs1, r_sexpr, r_sassign, r_saug, r_sdel, r_sife, r_swhl, r_sfr, r_sret, r_ss0, r_ss1, tg_var, tg_tup, tg_idx, tg_slc, bin_add, bin_sub, bin_mul, bin_div, bin_mod, bin_cat, cmp_eqi, cmp_eqs, cmp_nei, cmp_nes, cmp_lt, cmp_le, cmp_gt, cmp_ge, cmp_isn, cmp_ist, cmp_notn, cmp_nott, tr_none, tr_bool, tr_int, tr_str, tr_tup, ix_str, ix_tup, sl_ii, sl_in, sl_ni, bi_lens, bi_lent, bi_min, bi_max, bi_rng, bi_rng2, me_find, me_find2, ok_find, me_app, ok_app, me_ins, me_pop, me_join, me_ends, me_starts, ok_ins, ok_pop, ok_join, ok_ends, ok_starts, it_str, it_rng, neg_int, aug_addi, aug_adds, aug_subi, St.set, St.setAll, List.map_cons, List.map_nil, List.replicate, List.cons_append, List.nil_append, List.getElem?_cons_succ, List.getElem?_cons_zero, List.set_cons_succ, List.set_cons_zero, List.length_cons, List.length_nil, dreduceIte, retV]
      refine ⟨rfl, n4 _ (ss_ret fun Q5 n5 r5 => s_ife fun K kt kf => ?_)⟩
      dsimp only [r_lit, r_var, r_bin, r_neg, r_not, r_list, r_tup, r_cmp, r_band, r_bor, r_idx, r_slc, r_attr, r_bi, r_call, r_me, r_imeth, r_comp, r_es0, r_es1, r_ch1, r_bo1, r_bo2, r_tnot, r_tband, r_tbor, r_tcmp, r_tvar, r_tcall, r_tme, r_tidx, r_tbi, r_ts0, r_ts1, r_tgs0, r_tgs1, r_sexpr, r_sassign, r_saug, r_sdel, r_sife, r_swhl, r_sfr, r_sret, r_ss0, r_ss1, tg_var, tg_tup, tg_idx, tg_slc, bin_add, bin_sub, bin_mul, bin_div, bin_mod, bin_cat, cmp_eqi, cmp_eqs, cmp_nei, cmp_nes, cmp_lt, cmp_le, cmp_gt, cmp_ge, cmp_isn, cmp_ist, cmp_notn, cmp_nott, tr_none, tr_bool, tr_int, tr_str, tr_tup, ix_str, ix_tup, sl_ii, sl_in, sl_ni, bi_lens, bi_lent, bi_min, bi_max, bi_rng, bi_rng2, me_find, me_find2, ok_find, me_app, ok_app, me_ins, me_pop, me_join, me_ends, me_starts, ok_ins, ok_pop, ok_join, ok_ends, ok_starts, it_str, it_rng, neg_int, aug_addi, aug_adds, aug_subi, St.set, St.setAll, List.map_cons, List.map_nil, List.replicate, List.cons_append, List.nil_append, List.getElem?_cons_succ, List.getElem?_cons_zero, List.set_cons_succ, List.set_cons_zero, List.length_cons, List.length_nil, dreduceIte, retV]
      by_cases h0 : a.1 = 0
      · rw [decide_eq_true h0]
        exact kf _ (ss_nil (n5 _ (ss_nil (next _ _ _ _))))
      · rw [decide_eq_false h0]
        by_cases h1 : b.1 = 0
        · rw [decide_eq_true h1]
          exact kf _ (ss_nil (n5 _ (ss_nil (next _ _ _ _))))
        · rw [decide_eq_false h1]
          obtain ⟨z1, z2, z3, z4, z5⟩ := hg h0 h1
          obtain ⟨ca, ea⟩ : ∃ c, a.2.head? = some c := by cases q : a.2 with | nil => exact absurd q z3 | cons c _ => exact ⟨c, rfl⟩
          obtain ⟨cb, eb⟩ : ∃ c, b.2.head? = some c := by cases q : b.2 with | nil => exact absurd q z4 | cons c _ => exact ⟨c, rfl⟩
          obtain ⟨la, fa⟩ : ∃ c, a.2.getLast? = some c := by cases q : a.2.getLast? with | none => exact absurd (List.getLast?_eq_none_iff.mp q) z3 | some c => exact ⟨c, rfl⟩
          obtain ⟨lb, fb⟩ : ∃ c, b.2.getLast? = some c := by cases q : b.2.getLast? with | none => exact absurd (List.getLast?_eq_none_iff.mp q) z4 | some c => exact ⟨c, rfl⟩
          have d1 : ca ≠ cb := fun q => z5.h (by rw [ea, eb, q])
          have d2 : la ≠ lb := fun q => z5.l (by rw [fa, fb, q])
          refine kt _ ?_
          unfold f_law_groupedB1
          refine ss_ret fun Q6 n6 r6 => s_ife fun K2 kt2 kf2 => ?_
          dsimp only [r_lit, r_var, r_bin, r_neg, r_not, r_list, r_tup, r_cmp, r_band, r_bor, r_idx, r_slc, r_attr, r_bi, r_call, r_me, r_imeth, r_comp, r_es0, r_es1, r_ch1, r_bo1, r_bo2, r_tnot, r_tband, r_tbor, r_tcmp, r_tvar, r_tcall, r_tme, r_tidx, r_tbi, r_ts0, r_ts1, r_tgs0, r_tgs1, r_sexpr, r_sassign, r_saug, r_sdel, r_sife, r_swhl, r_sfr, r_sret, r_ss0, r_ss1, tg_var, tg_tup, tg_idx, tg_slc, bin_add, bin_sub, bin_mul, bin_div, bin_mod, bin_cat, cmp_eqi, cmp_eqs, cmp_nei, cmp_nes, cmp_lt, cmp_le, cmp_gt, cmp_ge, cmp_isn, cmp_ist, cmp_notn, cmp_nott, tr_none, tr_bool, tr_int, tr_str, tr_tup, ix_str, ix_tup, sl_ii, sl_in, sl_ni, bi_lens, bi_lent, bi_min, bi_max, bi_rng, bi_rng2, me_find, me_find2, ok_find, me_app, ok_app, me_ins, me_pop, me_join, me_ends, me_starts, ok_ins, ok_pop, ok_join, ok_ends, ok_starts, it_str, it_rng, neg_int, aug_addi, aug_adds, aug_subi, St.set, St.setAll, List.map_cons, List.map_nil, List.replicate, List.cons_append, List.nil_append, List.getElem?_cons_succ, List.getElem?_cons_zero, List.set_cons_succ, List.set_cons_zero, List.length_cons, List.length_nil, dreduceIte, retV]
          rw [decide_eq_true z1, decide_eq_true z2, decide_eq_false z3, decide_eq_false z4]
          refine kf2 _ (ss_nil (n6 _ (ss_ret fun Q7 n7 r7 => s_ife fun K3 kt3 kf3 => ?_)))
          dsimp only [r_lit, r_var, r_bin, r_neg, r_not, r_list, r_tup, r_cmp, r_band, r_bor, r_idx, r_slc, r_attr, r_bi, r_call, r_me, r_imeth, r_comp, r_es0, r_es1, r_ch1, r_bo1, r_bo2, r_tnot, r_tband, r_tbor, r_tcmp, r_tvar, r_tcall, r_tme, r_tidx, r_tbi, r_ts0, r_ts1, r_tgs0, r_tgs1, r_sexpr, r_sassign, r_saug, r_sdel, r_sife, r_swhl, r_sfr, r_sret, r_ss0, r_ss1, tg_var, tg_tup, tg_idx, tg_slc, bin_add, bin_sub, bin_mul, bin_div, bin_mod, bin_cat, cmp_eqi, cmp_eqs, cmp_nei, cmp_nes, cmp_lt, cmp_le, cmp_gt, cmp_ge, cmp_isn, cmp_ist, cmp_notn, cmp_nott, tr_none, tr_bool, tr_int, tr_str, tr_tup, ix_str, ix_tup, sl_ii, sl_in, sl_ni, bi_lens, bi_lent, bi_min, bi_max, bi_rng, bi_rng2, me_find, me_find2, ok_find, me_app, ok_app, me_ins, me_pop, me_join, me_ends, me_starts, ok_ins, ok_pop, ok_join, ok_ends, ok_starts, it_str, it_rng, neg_int, aug_addi, aug_adds, aug_subi, St.set, St.setAll, List.map_cons, List.map_nil, List.replicate, List.cons_append, List.nil_append, List.getElem?_cons_succ, List.getElem?_cons_zero, List.set_cons_succ, List.set_cons_zero, List.length_cons, List.length_nil, dreduceIte, retV]
          refine ⟨t0, ca, by rw [get_head]; exact ea, t0, cb, by rw [get_head]; exact eb, ?_⟩
          rw [decide_eq_false (show ¬ [ca] = [cb] from fun q => d1 (by simpa using q))]
          refine ⟨tm, la, by rw [get_last z3]; exact fa, tm, lb, by rw [get_last z4]; exact fb, ?_⟩
          rw [decide_eq_false (show ¬ [la] = [lb] from fun q => d2 (by simpa using q))]
          exact kf3 _ (ss_nil (n7 _ (ss_nil (n5 _ (ss_nil (next _ _ _ _))))))
  · rintro _ ⟨x1, x2, x3, x4, x5, rfl, _⟩
    refine n1 _ (ss_ret fun Q2 n2 r2 => ?_)
    dsimp only [r_lit, r_var, r_bin, r_neg, r_not, r_list, r_tup, r_cmp, r_band, r_bor, r_idx, r_slc, r_attr, r_bi, r_call, r_me, r_imeth, r_comp, r_es0, r_es1, r_ch1, r_bo1, r_bo2, r_tnot, r_tband, r_tbor, r_tcmp, r_tvar, r_tcall, r_tme, r_tidx, r_tbi, r_ts0, r_ts1, r_tgs0, r_tgs1, r_sexpr, r_sassign, r_saug, r_sdel, r_sife, r_swhl, r_sfr, r_sret, r_ss0, r_ss1, tg_var, tg_tup, tg_idx, tg_slc, bin_add, bin_sub, bin_mul, bin_div, bin_mod, bin_cat, cmp_eqi, cmp_eqs, cmp_nei, cmp_nes, cmp_lt, cmp_le, cmp_gt, cmp_ge, cmp_isn, cmp_ist, cmp_notn, cmp_nott, tr_none, tr_bool, tr_int, tr_str, tr_tup, ix_str, ix_tup, sl_ii, sl_in, sl_ni, bi_lens, bi_lent, bi_min, bi_max, bi_rng, bi_rng2, me_find, me_find2, ok_find, me_app, ok_app, me_ins, me_pop, me_join, me_ends, me_starts, ok_ins, ok_pop, ok_join, ok_ends, ok_starts, it_str, it_rng, neg_int, aug_addi, aug_adds, aug_subi, St.set, St.setAll, List.map_cons, List.map_nil, List.replicate, List.cons_append, List.nil_append, List.getElem?_cons_succ, List.getElem?_cons_zero, List.set_cons_succ, List.set_cons_zero, List.length_cons, List.length_nil, dreduceIte, retV]
    exact r2 _ _ h
  · cases r with
    | nil => exact .inl rfl
    | cons a r => exact .inr ⟨[], a, r, rfl, by simp⟩
end
end Mine
set_option autoImplicit false
set_option maxRecDepth 10000
set_option linter.unusedVariables false
set_option linter.unusedSimpArgs false
namespace Mine
open PySem PyProof.Rows PySem.W

noncomputable def f_law_plainPs : List PySem.Str := ["parts"]
noncomputable def f_law_plainRest : List PySem.Str := ["kept", "gone", "come", "inside", "kind", "text", "fell", "row", "place", "old", "new"]
noncomputable def f_law_plainNames : List (PySem.Str × NameKind) := [("range", .globalImplicit), ("len", .globalImplicit)]
noncomputable def f_law_plainCells : List PySem.Str := []
noncomputable def f_law_plainB1 : List Sm := [
    .ife (.var 4) [
      .expr (.me (.var 1) .append [.lit (.str [])])] [],
    .assign [.idx (.var 1) (.neg (.lit (.int 1)))] (.bin .Add (.idx (.var 1) (.neg (.lit (.int 1)))) (.var 6))]
noncomputable def f_law_plainB2 : List Sm := [
    .expr (.me (.var 2) .append [.lit (.str [])]),
    .expr (.me (.var 3) .append [.lit (.str [])])]
noncomputable def f_law_plainB3 : List Sm := [
    .ife (.not (.var 4)) f_law_plainB2 [],
    .ife (.cmp (.var 5) [.Eq] [.neg (.lit (.int 1))]) [
      .assign [.idx (.var 2) (.neg (.lit (.int 1)))] (.bin .Add (.idx (.var 2) (.neg (.lit (.int 1)))) (.var 6))] [
      .assign [.idx (.var 3) (.neg (.lit (.int 1)))] (.bin .Add (.idx (.var 3) (.neg (.lit (.int 1)))) (.var 6))]]
noncomputable def f_law_plainB4 : List Sm := [
    .ife (.cmp (.var 5) [.Eq] [.lit (.int 0)]) f_law_plainB1 f_law_plainB3,
    .assign [.var 4] (.cmp (.var 5) [.NotEq] [.lit (.int 0)])]
noncomputable def f_law_plainB5 : List Sm := [
    .assign [.idx (.var 1) (.var 9)] (.bin .Add (.idx (.var 1) (.var 9)) (.idx (.var 10) (.lit (.int 0)))),
    .assign [.tup [10, 11]] (.tup [.slc (.var 10) (.lit (.int 1)) (.lit .none) (.lit .none), .slc (.var 11) (.lit (.int 1)) (.lit .none) (.lit .none)])]
noncomputable def f_law_plainB6 : List Sm := [
    .assign [.idx (.var 1) (.bin .Add (.var 9) (.lit (.int 1)))] (.bin .Add (.idx (.var 10) (.neg (.lit (.int 1)))) (.idx (.var 1) (.bin .Add (.var 9) (.lit (.int 1))))),
    .assign [.tup [10, 11]] (.tup [.slc (.var 10) (.lit .none) (.neg (.lit (.int 1))) (.lit .none), .slc (.var 11) (.lit .none) (.neg (.lit (.int 1))) (.lit .none)])]
noncomputable def f_law_plainB7 : List Sm := [
    .assign [.tup [10, 11]] (.tup [.idx (.var 2) (.var 9), .idx (.var 3) (.var 9)]),
    .whl (.band [.cmp (.var 10) [.NotEq] [.lit (.str [])], .cmp (.var 11) [.NotEq] [.lit (.str [])], .cmp (.idx (.var 10) (.lit (.int 0))) [.Eq] [.idx (.var 11) (.lit (.int 0))]]) f_law_plainB5,
    .whl (.band [.cmp (.var 10) [.NotEq] [.lit (.str [])], .cmp (.var 11) [.NotEq] [.lit (.str [])], .cmp (.idx (.var 10) (.neg (.lit (.int 1)))) [.Eq] [.idx (.var 11) (.neg (.lit (.int 1)))]]) f_law_plainB6,
    .assign [.var 7] (.bor [.var 7, .cmp (.var 10) [.Eq] [.var 11]]),
    .assign [.var 8] (.bin .Add (.var 8) (.list [.tup [.lit (.int 0), .idx (.var 1) (.var 9)], .tup [.neg (.lit (.int 1)), .var 10], .tup [.lit (.int 1), .var 11]]))]
noncomputable def f_law_plainBody : List Sm := [
    .assign [.tup [1, 2, 3]] (.tup [.list [.lit (.str [])], .list [], .list []]),
    .assign [.var 4] (.lit (.bool false)),
    .fr (.tup [5, 6]) (.var 0) f_law_plainB4,
    .ife (.var 4) [
      .expr (.me (.var 1) .append [.lit (.str [])])] [],
    .assign [.var 7] (.lit (.bool false)),
    .assign [.var 8] (.list []),
    .fr (.var 9) (.bi .range [.bi .len [.var 2]]) f_law_plainB7,
    .expr (.me (.var 8) .append [.tup [.lit (.int 0), .idx (.var 1) (.neg (.lit (.int 1)))]]),
    .ret (.tup [.comp (.var 0) true [0] (.var 8) [.cmp (.idx (.var 0) (.lit (.int 1))) [.NotEq] [.lit (.str [])]] 1 [], .var 7])]

/-- texts as a list -/
noncomputable def sv (xs : List Tx) : List V := xs.map V.str
theorem sv_len (xs : List Tx) : (sv xs).length = xs.length := List.length_map ..
theorem sv_get (A : List Tx) (x : Tx) (B : List Tx) {k : Int} (h : k = (A.length : Nat)) : pyGet (sv (A ++ x :: B)) k = some (.str x) := by
  unfold sv; rw [pyGet_map, pyGet_at A x B h]; rfl
theorem sv_ix (A : List Tx) (x : Tx) (B : List Tx) {k : Int} (h : k = (A.length : Nat)) : pyIx (sv (A ++ x :: B)).length k = some A.length := by
  rw [sv_len]; exact pyIx_at _ _ _ h
theorem sv_set (A : List Tx) (x y : Tx) (B : List Tx) : (sv (A ++ x :: B)).set A.length (.str y) = sv (A ++ y :: B) := by
  unfold sv
  rw [List.map_append, List.map_append, List.map_cons, List.map_cons]
  have := set_at (A.map V.str) (V.str x) (V.str y) (B.map V.str)
  rwa [List.length_map] at this
theorem sv_getl (A : List Tx) (x : Tx) : pyGet (sv (A ++ [x])) (-1) = some (.str x) := by
  unfold sv
  rw [pyGet_map, pyGet_last _ (by simp)]
  simp
theorem sv_ixl (A : List Tx) (x : Tx) : pyIx (sv (A ++ [x])).length (-1) = some A.length := by
  rw [sv_len]
  unfold pyIx seqIndex?
  simp
  omega
theorem sv_app (A : List Tx) (x : Tx) : sv A ++ [V.str x] = sv (A ++ [x]) := by unfold sv; simp

section
variable {P : PC} {Q : Fl → St → Prop} {σ : St}
/-- the last text grows -/
theorem add_last {i : Nat} {a : Addr} {t k : Tx} {K : List Tx} (hi : σ.loc[i]? = some (some (.obj a))) (h6 : σ.loc[6]? = some (some (.str t))) (hm : σ.mem a = some (.list (sv (K ++ [k])))) (h1 : small k.length) (h2 : small t.length)
    (h : Q .next ⟨σ.loc, upd σ.mem a (.list (sv (K ++ [k ++ t])))⟩) :
    wpS P (.assign [.idx (.var i) (.neg (.lit (.int 1)))] (.bin .Add (.idx (.var i) (.neg (.lit (.int 1)))) (.var 6))) Q σ := by
  have tm : tiny (-1) := by unfold tiny; omega
  simp only [r_sassign, r_bin, r_idx, r_neg, r_lit, r_var, r_tgs1, r_tgs0, tg_idx, hi, h6]
  refine ⟨tm, _, .str k, hm, sv_getl _ _, ?_⟩
  refine ⟨h1, h2, a, _, _, K.length, rfl, rfl, tm, hm, sv_ixl _ _, ?_⟩
  rw [sv_set]; exact h
theorem app_last {i : Nat} {a : Addr} {K : List Tx} (hi : σ.loc[i]? = some (some (.obj a))) (hm : σ.mem a = some (.list (sv K))) (h1 : small K.length)
    (h : Q .next ⟨σ.loc, upd σ.mem a (.list (sv (K ++ [[]])))⟩) :
    wpS P (.expr (.me (.var i) .append [.lit (.str [])])) Q σ := by
  simp only [r_sexpr, r_me, r_var, r_es1, r_es0, r_lit, hi, ok_app, me_app]
  refine ⟨⟨_, hm⟩, _, hm, by rw [sv_len]; exact h1, ?_⟩
  rw [sv_app]; exact h
end

/-- what the first loop gathers -/
noncomputable def kL (s : Tx × List Seg) : List Tx := s.1 :: s.2.map fun x => x.2.2
noncomputable def gL (s : Tx × List Seg) : List Tx := s.2.map fun x => x.1
noncomputable def cL (s : Tx × List Seg) : List Tx := s.2.map fun x => x.2.1
noncomputable def o1 (run : Row) (x : Tx) : List Tx := if run = [] then [] else [x]
theorem segs_nil (k : Tx) (run : Row) : segs k run [] = if run = [] then (k, []) else (k, [(cat (-1) run, cat 1 run, [])]) := by unfold segs; rfl
theorem segs_keep (k t : Tx) (r : Row) : segs k [] ((0, t) :: r) = segs (k ++ t) [] r := by rw [segs, if_pos rfl, if_pos rfl]
theorem segs_end {run : Row} (h : run ≠ []) (k t : Tx) (r : Row) : segs k run ((0, t) :: r) = (k, (cat (-1) run, cat 1 run, (segs t [] r).1) :: (segs t [] r).2) := by rw [segs, if_pos rfl, if_neg h]
theorem segs_turn {j : Int} (h : j ≠ 0) (k t : Tx) (run r : Row) : segs k run ((j, t) :: r) = segs k (run ++ [(j, t)]) r := by rw [segs, if_neg h]

/-- the three lists stand -/
structure Three (m0 m : Mem) (a b c : Addr) (K G C : List Tx) : Prop where
  gr : Gr m0 m
  na : m0 a = none
  nb : m0 b = none
  nc : m0 c = none
  ab : a ≠ b
  ac : a ≠ c
  bc : b ≠ c
  ha : m a = some (.list (sv K))
  hb : m b = some (.list (sv G))
  hc : m c = some (.list (sv C))
theorem Three.setA {m0 m : Mem} {a b c : Addr} {K G C K' : List Tx} (t : Three m0 m a b c K G C) : Three m0 (upd m a (.list (sv K'))) a b c K' G C :=
  ⟨t.gr.set t.na _, t.na, t.nb, t.nc, t.ab, t.ac, t.bc, upd_self _ _ _, by rw [upd_ne _ _ (Ne.symm t.ab)]; exact t.hb, by rw [upd_ne _ _ (Ne.symm t.ac)]; exact t.hc⟩
theorem Three.setB {m0 m : Mem} {a b c : Addr} {K G C K' : List Tx} (t : Three m0 m a b c K G C) : Three m0 (upd m b (.list (sv K'))) a b c K K' C :=
  ⟨t.gr.set t.nb _, t.na, t.nb, t.nc, t.ab, t.ac, t.bc, by rw [upd_ne _ _ t.ab]; exact t.ha, upd_self _ _ _, by rw [upd_ne _ _ (Ne.symm t.bc)]; exact t.hc⟩
theorem Three.setC {m0 m : Mem} {a b c : Addr} {K G C K' : List Tx} (t : Three m0 m a b c K G C) : Three m0 (upd m c (.list (sv K'))) a b c K G K' :=
  ⟨t.gr.set t.nc _, t.na, t.nb, t.nc, t.ab, t.ac, t.bc, by rw [upd_ne _ _ t.ac]; exact t.ha, by rw [upd_ne _ _ t.bc]; exact t.hb, upd_self _ _ _⟩
theorem Three.new {m0 m : Mem} {a b c x : Addr} {K G C : List Tx} (t : Three m0 m a b c K G C) (h : m x = none) (o : O) : Three m0 (upd m x o) a b c K G C := by
  have n : ∀ y v, m y = some v → upd m x o y = some v := fun y v e => by rw [upd_ne _ _ (fun q => by subst q; rw [h] at e; cases e)]; exact e
  exact ⟨fun y v e => n y v (t.gr y v e), t.na, t.nb, t.nc, t.ab, t.ac, t.bc, n _ _ t.ha, n _ _ t.hb, n _ _ t.hc⟩
section
variable {P : PC} {Q : Fl → St → Prop} {m0 m : Mem} {d a b c : Addr} {x5 x6 x7 x8 x9 x10 x11 : Option V}
noncomputable abbrev plS (d a b c : Addr) (ins : Bool) (x5 x6 x7 x8 x9 x10 x11 : Option V) (m : Mem) : St := ⟨[some (.obj d), some (.obj a), some (.obj b), some (.obj c), some (.bool ins), x5, x6, x7, x8, x9, x10, x11], m⟩
/-- one part gathered -/
theorem pl_b4 {K0 G0 C0 : List Tx} {k t : Tx} {run : Row} {j : Int} (T : Three m0 m a b c (K0 ++ [k]) (G0 ++ o1 run (cat (-1) run)) (C0 ++ o1 run (cat 1 run))) (hj : Kind j) (hk : k.length ≤ 1000) (ht : t.length ≤ 1000) (hr1 : (cat (-1) run).length ≤ 1000) (hr2 : (cat 1 run).length ≤ 1000)
    (hl : K0.length + 1 ≤ 1001) (hl2 : G0.length ≤ 1000) (hl3 : C0.length ≤ 1000)
    (h0 : j = 0 → run = [] → ∀ m', Three m0 m' a b c (K0 ++ [k ++ t]) G0 C0 → Q .next (plS d a b c false (some (.int j)) (some (.str t)) x7 x8 x9 x10 x11 m'))
    (h1 : j = 0 → run ≠ [] → ∀ m', Three m0 m' a b c (K0 ++ [k] ++ [t]) (G0 ++ [cat (-1) run]) (C0 ++ [cat 1 run]) → Q .next (plS d a b c false (some (.int j)) (some (.str t)) x7 x8 x9 x10 x11 m'))
    (h2 : j ≠ 0 → ∀ m', Three m0 m' a b c (K0 ++ [k]) (G0 ++ [cat (-1) (run ++ [(j, t)])]) (C0 ++ [cat 1 (run ++ [(j, t)])]) → Q .next (plS d a b c true (some (.int j)) (some (.str t)) x7 x8 x9 x10 x11 m')) :
    wpSs P f_law_plainB4 Q (plS d a b c (decide (run ≠ [])) (some (.int j)) (some (.str t)) x7 x8 x9 x10 x11 m) := by
  have sm : ∀ {n : Nat}, n ≤ 2000 → small n := fun h => by unfold small; omega
  unfold f_law_plainB4
  refine ss_next fun Q1 n1 => s_ife fun K kt kf => ?_
  dsimp only [r_lit, r_var, r_bin, r_neg, r_not, r_list, r_tup, r_cmp, r_band, r_bor, r_idx, r_slc, r_attr, r_bi, r_call, r_me, r_imeth, r_comp, r_es0, r_es1, r_ch1, r_bo1, r_bo2, r_tnot, r_tband, r_tbor, r_tcmp, r_tvar, r_tcall, r_tme, r_tidx, r_tbi, r_ts0, r_ts1, r_tgs0, r_tgs1, r_sexpr, r_sassign, r_saug, r_sdel, r_sife, r_swhl, r_sfr, r_sret, r_ss0, r_ss1, tg_var, tg_tup, tg_idx, tg_slc, bin_add, bin_sub, bin_mul, bin_div, bin_mod, bin_cat, cmp_eqi, cmp_eqs, cmp_nei, cmp_nes, cmp_lt, cmp_le, cmp_gt, cmp_ge, cmp_isn, cmp_ist, cmp_notn, cmp_nott, tr_none, tr_bool, tr_int, tr_str, tr_tup, ix_str, ix_tup, sl_ii, sl_in, sl_ni, bi_lens, bi_lent, bi_min, bi_max, bi_rng, bi_rng2, me_find, me_find2, ok_find, me_app, ok_app, me_ins, me_pop, me_join, me_ends, me_starts, ok_ins, ok_pop, ok_join, ok_ends, ok_starts, it_str, it_rng, neg_int, aug_addi, aug_adds, aug_subi, St.set, St.setAll, List.map_cons, List.map_nil, List.replicate, List.cons_append, List.nil_append, List.getElem?_cons_succ, List.getElem?_cons_zero, List.set_cons_succ, List.set_cons_zero, List.length_cons, List.length_nil, dreduceIte, retV]
  have tail : ∀ ins m', Q .next (plS d a b c (!decide (j = 0)) (some (.int j)) (some (.str t)) x7 x8 x9 x10 x11 m') → wpSs P [.assign [.var 4] (.cmp (.var 5) [.NotEq] [.lit (.int 0)])] Q (plS d a b c ins (some (.int j)) (some (.str t)) x7 x8 x9 x10 x11 m') := fun ins m' q => by
    refine ss_next fun Q2 n2 => ?_
    dsimp only [r_lit, r_var, r_bin, r_neg, r_not, r_list, r_tup, r_cmp, r_band, r_bor, r_idx, r_slc, r_attr, r_bi, r_call, r_me, r_imeth, r_comp, r_es0, r_es1, r_ch1, r_bo1, r_bo2, r_tnot, r_tband, r_tbor, r_tcmp, r_tvar, r_tcall, r_tme, r_tidx, r_tbi, r_ts0, r_ts1, r_tgs0, r_tgs1, r_sexpr, r_sassign, r_saug, r_sdel, r_sife, r_swhl, r_sfr, r_sret, r_ss0, r_ss1, tg_var, tg_tup, tg_idx, tg_slc, bin_add, bin_sub, bin_mul, bin_div, bin_mod, bin_cat, cmp_eqi, cmp_eqs, cmp_nei, cmp_nes, cmp_lt, cmp_le, cmp_gt, cmp_ge, cmp_isn, cmp_ist, cmp_notn, cmp_nott, tr_none, tr_bool, tr_int, tr_str, tr_tup, ix_str, ix_tup, sl_ii, sl_in, sl_ni, bi_lens, bi_lent, bi_min, bi_max, bi_rng, bi_rng2, me_find, me_find2, ok_find, me_app, ok_app, me_ins, me_pop, me_join, me_ends, me_starts, ok_ins, ok_pop, ok_join, ok_ends, ok_starts, it_str, it_rng, neg_int, aug_addi, aug_adds, aug_subi, St.set, St.setAll, List.map_cons, List.map_nil, List.replicate, List.cons_append, List.nil_append, List.getElem?_cons_succ, List.getElem?_cons_zero, List.set_cons_succ, List.set_cons_zero, List.length_cons, List.length_nil, dreduceIte, retV]
    exact n2 _ (ss_nil q)
  by_cases hj0 : j = 0
  · rw [decide_eq_true hj0] at tail ⊢
    refine kt _ ?_
    unfold f_law_plainB1
    refine ss_next fun Q2 n2 => s_ife fun K2 kt2 kf2 => ?_
    dsimp only [r_lit, r_var, r_bin, r_neg, r_not, r_list, r_tup, r_cmp, r_band, r_bor, r_idx, r_slc, r_attr, r_bi, r_call, r_me, r_imeth, r_comp, r_es0, r_es1, r_ch1, r_bo1, r_bo2, r_tnot, r_tband, r_tbor, r_tcmp, r_tvar, r_tcall, r_tme, r_tidx, r_tbi, r_ts0, r_ts1, r_tgs0, r_tgs1, r_sexpr, r_sassign, r_saug, r_sdel, r_sife, r_swhl, r_sfr, r_sret, r_ss0, r_ss1, tg_var, tg_tup, tg_idx, tg_slc, bin_add, bin_sub, bin_mul, bin_div, bin_mod, bin_cat, cmp_eqi, cmp_eqs, cmp_nei, cmp_nes, cmp_lt, cmp_le, cmp_gt, cmp_ge, cmp_isn, cmp_ist, cmp_notn, cmp_nott, tr_none, tr_bool, tr_int, tr_str, tr_tup, ix_str, ix_tup, sl_ii, sl_in, sl_ni, bi_lens, bi_lent, bi_min, bi_max, bi_rng, bi_rng2, me_find, me_find2, ok_find, me_app, ok_app, me_ins, me_pop, me_join, me_ends, me_starts, ok_ins, ok_pop, ok_join, ok_ends, ok_starts, it_str, it_rng, neg_int, aug_addi, aug_adds, aug_subi, St.set, St.setAll, List.map_cons, List.map_nil, List.replicate, List.cons_append, List.nil_append, List.getElem?_cons_succ, List.getElem?_cons_zero, List.set_cons_succ, List.set_cons_zero, List.length_cons, List.length_nil, dreduceIte, retV]
    by_cases hr : run = []
    · rw [decide_eq_false (fun q => q hr)]
      refine kf2 _ (ss_nil (n2 _ (ss_next fun Q3 n3 => ?_)))
      have T' := T
      rw [hr] at T'
      simp only [o1, if_true, List.append_nil] at T'
      exact add_last rfl rfl T'.ha (sm (by omega)) (sm (by omega)) (n3 _ (ss_nil (n1 _ (tail _ _ (h0 hj0 hr _ T'.setA)))))
    · rw [decide_eq_true hr]
      refine kt2 _ (ss_next fun Q3 n3 => ?_)
      have T' := T
      simp only [o1, if_neg hr] at T'
      refine app_last rfl T'.ha (sm (by simp; omega)) (n3 _ (ss_nil (n2 _ (ss_next fun Q4 n4 => ?_))))
      exact add_last rfl rfl (T'.setA (K' := K0 ++ [k] ++ [[]])).ha (sm (by simp)) (sm (by omega)) (n4 _ (ss_nil (n1 _ (tail _ _ (h1 hj0 hr _ T'.setA.setA)))))
  · rw [decide_eq_false hj0] at tail ⊢
    refine kf _ ?_
    have s2 : ∀ m' ins, Three m0 m' a b c (K0 ++ [k]) (G0 ++ [cat (-1) run]) (C0 ++ [cat 1 run]) → wpSs P [.ife (.cmp (.var 5) [.Eq] [.neg (.lit (.int 1))]) [.assign [.idx (.var 2) (.neg (.lit (.int 1)))] (.bin .Add (.idx (.var 2) (.neg (.lit (.int 1)))) (.var 6))] [
        .assign [.idx (.var 3) (.neg (.lit (.int 1)))] (.bin .Add (.idx (.var 3) (.neg (.lit (.int 1)))) (.var 6))]] Q1 (plS d a b c ins (some (.int j)) (some (.str t)) x7 x8 x9 x10 x11 m') := fun m' ins T' => by
      refine ss_next fun Q3 n3 => s_ife fun K3 kt3 kf3 => ?_
      dsimp only [r_lit, r_var, r_bin, r_neg, r_not, r_list, r_tup, r_cmp, r_band, r_bor, r_idx, r_slc, r_attr, r_bi, r_call, r_me, r_imeth, r_comp, r_es0, r_es1, r_ch1, r_bo1, r_bo2, r_tnot, r_tband, r_tbor, r_tcmp, r_tvar, r_tcall, r_tme, r_tidx, r_tbi, r_ts0, r_ts1, r_tgs0, r_tgs1, r_sexpr, r_sassign, r_saug, r_sdel, r_sife, r_swhl, r_sfr, r_sret, r_ss0, r_ss1, tg_var, tg_tup, tg_idx, tg_slc, bin_add, bin_sub, bin_mul, bin_div, bin_mod, bin_cat, cmp_eqi, cmp_eqs, cmp_nei, cmp_nes, cmp_lt, cmp_le, cmp_gt, cmp_ge, cmp_isn, cmp_ist, cmp_notn, cmp_nott, tr_none, tr_bool, tr_int, tr_str, tr_tup, ix_str, ix_tup, sl_ii, sl_in, sl_ni, bi_lens, bi_lent, bi_min, bi_max, bi_rng, bi_rng2, me_find, me_find2, ok_find, me_app, ok_app, me_ins, me_pop, me_join, me_ends, me_starts, ok_ins, ok_pop, ok_join, ok_ends, ok_starts, it_str, it_rng, neg_int, aug_addi, aug_adds, aug_subi, St.set, St.setAll, List.map_cons, List.map_nil, List.replicate, List.cons_append, List.nil_append, List.getElem?_cons_succ, List.getElem?_cons_zero, List.set_cons_succ, List.set_cons_zero, List.length_cons, List.length_nil, dreduceIte, retV]
      by_cases hm : j = -1
      · rw [decide_eq_true hm]
        refine kt3 _ (ss_next fun Q4 n4 => ?_)
        refine add_last rfl rfl T'.hb (sm (by omega)) (sm (by omega)) (n4 _ (ss_nil (n3 _ (ss_nil (n1 _ (tail _ _ (h2 hj0 _ ?_)))))))
        have z := T'.setB (K' := G0 ++ [cat (-1) run ++ t])
        rw [cat_append, cat_append, cat_one, cat_one, if_pos hm, if_neg (show ¬ j = 1 by omega), List.append_nil]
        exact z
      · rw [decide_eq_false hm]
        have hp : j = 1 := by rcases hj with e | e | e; exact absurd e hm; exact absurd e hj0; exact e
        refine kf3 _ (ss_next fun Q4 n4 => ?_)
        refine add_last rfl rfl T'.hc (sm (by omega)) (sm (by omega)) (n4 _ (ss_nil (n3 _ (ss_nil (n1 _ (tail _ _ (h2 hj0 _ ?_)))))))
        have z := T'.setC (K' := C0 ++ [cat 1 run ++ t])
        rw [cat_append, cat_append, cat_one, cat_one, if_pos hp, if_neg hm, List.append_nil]
        exact z
    unfold f_law_plainB3
    refine ss_next fun Q2 n2 => s_ife fun K2 kt2 kf2 => ?_
    dsimp only [r_lit, r_var, r_bin, r_neg, r_not, r_list, r_tup, r_cmp, r_band, r_bor, r_idx, r_slc, r_attr, r_bi, r_call, r_me, r_imeth, r_comp, r_es0, r_es1, r_ch1, r_bo1, r_bo2, r_tnot, r_tband, r_tbor, r_tcmp, r_tvar, r_tcall, r_tme, r_tidx, r_tbi, r_ts0, r_ts1, r_tgs0, r_tgs1, r_sexpr, r_sassign, r_saug, r_sdel, r_sife, r_swhl, r_sfr, r_sret, r_ss0, r_ss1, tg_var, tg_tup, tg_idx, tg_slc, bin_add, bin_sub, bin_mul, bin_div, bin_mod, bin_cat, cmp_eqi, cmp_eqs, cmp_nei, cmp_nes, cmp_lt, cmp_le, cmp_gt, cmp_ge, cmp_isn, cmp_ist, cmp_notn, cmp_nott, tr_none, tr_bool, tr_int, tr_str, tr_tup, ix_str, ix_tup, sl_ii, sl_in, sl_ni, bi_lens, bi_lent, bi_min, bi_max, bi_rng, bi_rng2, me_find, me_find2, ok_find, me_app, ok_app, me_ins, me_pop, me_join, me_ends, me_starts, ok_ins, ok_pop, ok_join, ok_ends, ok_starts, it_str, it_rng, neg_int, aug_addi, aug_adds, aug_subi, St.set, St.setAll, List.map_cons, List.map_nil, List.replicate, List.cons_append, List.nil_append, List.getElem?_cons_succ, List.getElem?_cons_zero, List.set_cons_succ, List.set_cons_zero, List.length_cons, List.length_nil, dreduceIte, retV]
    by_cases hr : run = []
    · rw [decide_eq_false (fun q => q hr)]
      refine kt2 _ ?_
      have T' := T
      rw [hr] at T'
      simp only [o1, if_true, List.append_nil] at T'
      unfold f_law_plainB2
      refine ss_next fun Q3 n3 => app_last rfl T'.hb (sm (by omega)) (n3 _ (ss_next fun Q4 n4 => app_last rfl T'.setB.hc (sm (by omega)) (n4 _ (ss_nil (n2 _ (s2 _ _ ?_))))))
      rw [hr]
      exact T'.setB.setC
    · rw [decide_eq_true hr]
      have T' := T
      simp only [o1, if_neg hr] at T'
      exact kf2 _ (ss_nil (n2 _ (s2 _ _ T')))
/-- the first loop -/
theorem pl_loop1 {r : Row} (hm : m d = some (.list (rv r))) (hK : Kinds r) (hφ : phi r ≤ 1000) (hd : m0 d = some (.list (rv r))) (T : Three m0 m a b c [[]] [] [])
    (h : ∀ m' x5 x6 ins K, Three m0 m' a b c K (gL (segs [] [] r)) (cL (segs [] [] r)) → (ins = true → K ++ [[]] = kL (segs [] [] r)) → (ins = false → K = kL (segs [] [] r)) → Q .next (plS d a b c ins x5 x6 x7 x8 x9 x10 x11 m')) :
    wpS P (.fr (.tup [5, 6]) (.var 0) f_law_plainB4) Q (plS d a b c false x5 x6 x7 x8 x9 x10 x11 m) := by
  have hL := len_le_phi r
  dsimp only [r_lit, r_var, r_bin, r_neg, r_not, r_list, r_tup, r_cmp, r_band, r_bor, r_idx, r_slc, r_attr, r_bi, r_call, r_me, r_imeth, r_comp, r_es0, r_es1, r_ch1, r_bo1, r_bo2, r_tnot, r_tband, r_tbor, r_tcmp, r_tvar, r_tcall, r_tme, r_tidx, r_tbi, r_ts0, r_ts1, r_tgs0, r_tgs1, r_sexpr, r_sassign, r_saug, r_sdel, r_sife, r_swhl, r_sfr, r_sret, r_ss0, r_ss1, tg_var, tg_tup, tg_idx, tg_slc, bin_add, bin_sub, bin_mul, bin_div, bin_mod, bin_cat, cmp_eqi, cmp_eqs, cmp_nei, cmp_nes, cmp_lt, cmp_le, cmp_gt, cmp_ge, cmp_isn, cmp_ist, cmp_notn, cmp_nott, tr_none, tr_bool, tr_int, tr_str, tr_tup, ix_str, ix_tup, sl_ii, sl_in, sl_ni, bi_lens, bi_lent, bi_min, bi_max, bi_rng, bi_rng2, me_find, me_find2, ok_find, me_app, ok_app, me_ins, me_pop, me_join, me_ends, me_starts, ok_ins, ok_pop, ok_join, ok_ends, ok_starts, it_str, it_rng, neg_int, aug_addi, aug_adds, aug_subi, St.set, St.setAll, List.map_cons, List.map_nil, List.replicate, List.cons_append, List.nil_append, List.getElem?_cons_succ, List.getElem?_cons_zero, List.set_cons_succ, List.set_cons_zero, List.length_cons, List.length_nil, dreduceIte, retV]
  refine it_row hm (by omega) ?_
  refine loop_map pv (fun l σ => ∃ k run K0 G0 C0 x5 x6 m', σ = plS d a b c (decide (run ≠ [])) x5 x6 x7 x8 x9 x10 x11 m' ∧ Three m0 m' a b c (K0 ++ [k]) (G0 ++ o1 run (cat (-1) run)) (C0 ++ o1 run (cat 1 run)) ∧ Run run ∧ Kinds l ∧ k.length + turned run + phi l ≤ 1000 ∧ K0.length + l.length ≤ 1000 ∧ G0.length + run.length + l.length ≤ 1000 ∧ C0.length + run.length + l.length ≤ 1000 ∧
      K0 ++ kL (segs k run l) = kL (segs [] [] r) ∧ G0 ++ gL (segs k run l) = gL (segs [] [] r) ∧ C0 ++ cL (segs k run l) = cL (segs [] [] r)) ?_ ?_ ?_ r _ ⟨[], [], [], [], [], x5, x6, m, rfl, T, .nil, hK, by simp [turned]; omega, by simp; omega, by simp; omega, by simp; omega, rfl, rfl, rfl⟩
  · rintro l _ ⟨k, run, K0, G0, C0, x5, x6, m', rfl, T, _⟩
    exact T.gr _ _ hd
  · rintro ⟨j, t⟩ l _ ⟨k, run, K0, G0, C0, y5, y6, m', rfl, T, hr, hKl, hb, l1, l2, l3, s1, s2, s3⟩ Q1 k1 k2
    refine ⟨rfl, ?_⟩
    dsimp only [St.set, St.setAll, List.set_cons_succ, List.set_cons_zero]
    have tr := turned_run hr
    rw [phi_cons] at hb
    simp only [List.length_cons] at l1 l2 l3
    dsimp only at hb
    refine pl_b4 T hKl.head (by omega) (by omega) (by omega) (by omega) (by omega) (by omega) (by omega) (fun hj hrun m'' T' => ?_) (fun hj hrun m'' T' => ?_) (fun hj m'' T' => ?_)
    · subst hj; subst hrun
      rw [segs_keep] at s1 s2 s3
      exact k1 _ ⟨k ++ t, [], K0, G0, C0, _, _, m'', rfl, by simpa [o1] using T', .nil, hKl.tail, by simp [turned] at hb ⊢; omega, by omega, by simp at l2 ⊢; omega, by simp at l3 ⊢; omega, s1, s2, s3⟩
    · subst hj
      rw [segs_end hrun] at s1 s2 s3
      have hrl : 1 ≤ run.length := List.length_pos_iff.mpr hrun
      refine k1 _ ⟨t, [], K0 ++ [k], G0 ++ [cat (-1) run], C0 ++ [cat 1 run], _, _, m'', rfl, by simpa [o1] using T', .nil, hKl.tail, by simp [turned]; omega, by simp; omega, by simp; omega, by simp; omega, ?_, ?_, ?_⟩
      · rw [← s1]; simp [kL]
      · rw [← s2]; simp [gL]
      · rw [← s3]; simp [cL]
    · rw [segs_turn hj] at s1 s2 s3
      refine k1 _ ⟨k, run ++ [(j, t)], K0, G0, C0, some (.int j), some (.str t), m'', by simp, by simpa [o1] using T', hr.snoc (kind_run hKl.head hj), hKl.tail, ?_, by omega, by simp; omega, by simp; omega, s1, s2, s3⟩
      rw [turned_append]
      have : turned [(j, t)] = t.length := by simp [turned, hj]
      omega
  · rintro _ ⟨k, run, K0, G0, C0, y5, y6, m', rfl, T, hr, hKl, hb, l1, l2, l3, s1, s2, s3⟩
    rw [segs_nil] at s1 s2 s3
    by_cases hrun : run = []
    · subst hrun
      simp only [if_true, kL, gL, cL, List.map_nil, List.append_nil, o1] at s1 s2 s3 T
      refine h m' y5 y6 _ _ (by rw [← show G0 = gL (segs [] [] r) from s2, ← show C0 = cL (segs [] [] r) from s3]; exact T) (fun q => by simp at q) (fun _ => s1)
    · simp only [if_neg hrun, o1] at s1 s2 s3 T
      refine h m' y5 y6 _ _ (by rw [← s2, ← s3]; exact T) (fun _ => by rw [← s1]; simp [kL]) (fun q => by simp [hrun] at q)
end
end Mine
set_option autoImplicit false
set_option maxRecDepth 10000
set_option linter.unusedVariables false
set_option linter.unusedSimpArgs false
namespace Mine
open PySem PyProof.Rows PySem.W

theorem s_whl {P : PC} {c : Ex} {b : List Sm} {Q : Fl → St → Prop} {σ : St} (I : Nat → St → Prop) (i : ∃ n, I n σ) (step : ∀ n σ', I n σ' → ∀ (K : Bool → St → Prop) (Q1 : Fl → St → Prop), (∀ σ₂, wpSs P b Q1 σ₂ → K true σ₂) → (∀ k σ₂, k < n → I k σ₂ → Q1 .next σ₂) → (∀ σ₂, Q .next σ₂ → K false σ₂) → wpT P c (wpE P c) K σ') : wpS P (.whl c b) Q σ :=
  ⟨I, i, fun n σ' h => step n σ' h _ _ (fun _ q => q) (fun k _ hk hi => ⟨k, hk, hi⟩) fun _ q => q⟩
theorem lcp_app (a b : Tx) : ∀ c : Tx, lcp (c ++ a) (c ++ b) = c.length + lcp a b
  | [] => by simp
  | x :: c => by rw [List.cons_append, List.cons_append, lcp, if_pos rfl, lcp_app a b c, List.length_cons]; omega
theorem lcs_app (a b c : Tx) : lcs (a ++ c) (b ++ c) = c.length + lcs a b := by
  unfold lcs
  rw [List.reverse_append, List.reverse_append, lcp_app, List.length_reverse]
theorem head_exit {o n c x y : Tx} (ho : o = c ++ x) (hn : n = c ++ y) (h : lcp y x = 0) : pre o n = c ∧ mo o n = x ∧ mn o n = y := by
  have e : lcp n o = c.length := by rw [ho, hn, lcp_app, h, Nat.add_zero]
  unfold pre mo mn
  rw [e, ho, hn]
  exact ⟨List.take_left' rfl, List.drop_left' rfl, List.drop_left' rfl⟩
theorem tail_exit {o n c x y : Tx} (ho : mo o n = x ++ c) (hn : mn o n = y ++ c) (h : lcs y x = 0) : su o n = c ∧ ro o n = x ∧ rn o n = y := by
  have e : ms o n = c.length := by unfold ms; rw [ho, hn, lcs_app, h, Nat.add_zero]
  unfold su ro rn
  rw [e, ho, hn]
  refine ⟨?_, ?_, ?_⟩
  · exact List.drop_left' (by simp)
  · exact List.take_left' (by simp)
  · exact List.take_left' (by simp)
theorem bin_cato {m : Mem} {a b : Addr} {Q : V → Mem → Prop} : wpBin m .Add (.obj a) (.obj b) Q = (∃ xs ys, m a = some (.list xs) ∧ m b = some (.list ys) ∧ small xs.length ∧ small ys.length ∧ ∀ c, m c = none → Q (.obj c) (upd m c (.list (xs ++ ys)))) := rfl
theorem Three.ext {m0 m m' : Mem} {a b c : Addr} {K G C K' : List Tx} (t : Three m0 m a b c K G C) (x : Ext a m m') (h : m' a = some (.list (sv K'))) : Three m0 m' a b c K' G C :=
  ⟨fun y v e => x y v (fun q => by subst q; rw [t.na] at e; cases e) (t.gr y v e), t.na, t.nb, t.nc, t.ab, t.ac, t.bc, h, x b _ (Ne.symm t.ab) t.hb, x c _ (Ne.symm t.ac) t.hc⟩

section
variable {P : PC} {Q : Fl → St → Prop} {m : Mem} {a : Addr} {x0 x2 x3 x4 x5 x6 x7 x8 : Option V}
noncomputable abbrev pmS (x0 : Option V) (a : Addr) (x2 x3 x4 x5 x6 x7 x8 : Option V) (p : Int) (old new : Tx) (m : Mem) : St := ⟨[x0, some (.obj a), x2, x3, x4, x5, x6, x7, x8, some (.int p), some (.str old), some (.str new)], m⟩
theorem pl_w1 {KA KR : List Tx} {k o n : Tx} {p : Int} (hm : m a = some (.list (sv (KA ++ k :: KR)))) (hp : p = (KA.length : Nat)) (h1 : k.length + o.length ≤ 1000) (h2 : n.length ≤ 1000) (h3 : KA.length ≤ 1000)
    (h : ∀ m', m' a = some (.list (sv (KA ++ (k ++ pre o n) :: KR))) → Ext a m m' → Q .next (pmS x0 a x2 x3 x4 x5 x6 x7 x8 p (mo o n) (mn o n) m')) :
    wpS P (.whl (.band [.cmp (.var 10) [.NotEq] [.lit (.str [])], .cmp (.var 11) [.NotEq] [.lit (.str [])], .cmp (.idx (.var 10) (.lit (.int 0))) [.Eq] [.idx (.var 11) (.lit (.int 0))]]) f_law_plainB5) Q (pmS x0 a x2 x3 x4 x5 x6 x7 x8 p o n m) := by
  have sm : ∀ {n : Nat}, n ≤ 2000 → small n := fun h => by unfold small; omega
  have t0 : tiny 0 := by unfold tiny; omega
  have tp : tiny p := by unfold tiny; omega
  refine s_whl (fun z σ => ∃ c old new m', σ = pmS x0 a x2 x3 x4 x5 x6 x7 x8 p old new m' ∧ z = old.length ∧ o = c ++ old ∧ n = c ++ new ∧ m' a = some (.list (sv (KA ++ (k ++ c) :: KR))) ∧ Ext a m m') ⟨_, [], o, n, m, rfl, rfl, rfl, rfl, by rw [List.append_nil]; exact hm, .refl _ _⟩ ?_
  rintro z _ ⟨c, old, new, m', rfl, rfl, ho, hn, hm', hx⟩ K Q1 kt k1 kf
  have exit : lcp new old = 0 → K false (pmS x0 a x2 x3 x4 x5 x6 x7 x8 p old new m') := fun q => by
    obtain ⟨e1, e2, e3⟩ := head_exit ho hn q
    have := h m' (by rw [e1]; exact hm') hx
    rw [e2, e3] at this
    exact kf _ this
  dsimp only [r_lit, r_var, r_bin, r_neg, r_not, r_list, r_tup, r_cmp, r_band, r_bor, r_idx, r_slc, r_attr, r_bi, r_call, r_me, r_imeth, r_comp, r_es0, r_es1, r_ch1, r_bo1, r_bo2, r_tnot, r_tband, r_tbor, r_tcmp, r_tvar, r_tcall, r_tme, r_tidx, r_tbi, r_ts0, r_ts1, r_tgs0, r_tgs1, r_sexpr, r_sassign, r_saug, r_sdel, r_sife, r_swhl, r_sfr, r_sret, r_ss0, r_ss1, tg_var, tg_tup, tg_idx, tg_slc, bin_add, bin_sub, bin_mul, bin_div, bin_mod, bin_cat, cmp_eqi, cmp_eqs, cmp_nei, cmp_nes, cmp_lt, cmp_le, cmp_gt, cmp_ge, cmp_isn, cmp_ist, cmp_notn, cmp_nott, tr_none, tr_bool, tr_int, tr_str, tr_tup, ix_str, ix_tup, sl_ii, sl_in, sl_ni, bi_lens, bi_lent, bi_min, bi_max, bi_rng, bi_rng2, me_find, me_find2, ok_find, me_app, ok_app, me_ins, me_pop, me_join, me_ends, me_starts, ok_ins, ok_pop, ok_join, ok_ends, ok_starts, it_str, it_rng, neg_int, aug_addi, aug_adds, aug_subi, St.set, St.setAll, List.map_cons, List.map_nil, List.replicate, List.cons_append, List.nil_append, List.getElem?_cons_succ, List.getElem?_cons_zero, List.set_cons_succ, List.set_cons_zero, List.length_cons, List.length_nil, dreduceIte, retV]
  cases old with
  | nil => exact exit (lcp_nil_r _)
  | cons x old =>
    cases new with
    | nil => exact exit (lcp_nil_l _)
    | cons y new =>
      rw [decide_eq_false (by simp), decide_eq_false (by simp)]
      refine ⟨t0, x, get_head, t0, y, get_head, ?_⟩
      by_cases q : x = y
      · subst q
        rw [decide_eq_true rfl]
        refine kt _ ?_
        have lo := congrArg List.length ho
        have ln := congrArg List.length hn
        simp only [List.length_append, List.length_cons] at lo ln
        unfold f_law_plainB5
        refine ss_next fun Q2 n2 => ?_
        dsimp only [r_lit, r_var, r_bin, r_neg, r_not, r_list, r_tup, r_cmp, r_band, r_bor, r_idx, r_slc, r_attr, r_bi, r_call, r_me, r_imeth, r_comp, r_es0, r_es1, r_ch1, r_bo1, r_bo2, r_tnot, r_tband, r_tbor, r_tcmp, r_tvar, r_tcall, r_tme, r_tidx, r_tbi, r_ts0, r_ts1, r_tgs0, r_tgs1, r_sexpr, r_sassign, r_saug, r_sdel, r_sife, r_swhl, r_sfr, r_sret, r_ss0, r_ss1, tg_var, tg_tup, tg_idx, tg_slc, bin_add, bin_sub, bin_mul, bin_div, bin_mod, bin_cat, cmp_eqi, cmp_eqs, cmp_nei, cmp_nes, cmp_lt, cmp_le, cmp_gt, cmp_ge, cmp_isn, cmp_ist, cmp_notn, cmp_nott, tr_none, tr_bool, tr_int, tr_str, tr_tup, ix_str, ix_tup, sl_ii, sl_in, sl_ni, bi_lens, bi_lent, bi_min, bi_max, bi_rng, bi_rng2, me_find, me_find2, ok_find, me_app, ok_app, me_ins, me_pop, me_join, me_ends, me_starts, ok_ins, ok_pop, ok_join, ok_ends, ok_starts, it_str, it_rng, neg_int, aug_addi, aug_adds, aug_subi, St.set, St.setAll, List.map_cons, List.map_nil, List.replicate, List.cons_append, List.nil_append, List.getElem?_cons_succ, List.getElem?_cons_zero, List.set_cons_succ, List.set_cons_zero, List.length_cons, List.length_nil, dreduceIte, retV]
        refine ⟨tp, _, .str (k ++ c), hm', sv_get _ _ _ hp, t0, x, get_head, ?_⟩
        refine ⟨sm (by simp; omega), sm (by simp), a, _, _, KA.length, rfl, rfl, tp, hm', sv_ix _ _ _ hp, n2 _ (ss_next fun Q3 n3 => ?_)⟩
        dsimp only [r_lit, r_var, r_bin, r_neg, r_not, r_list, r_tup, r_cmp, r_band, r_bor, r_idx, r_slc, r_attr, r_bi, r_call, r_me, r_imeth, r_comp, r_es0, r_es1, r_ch1, r_bo1, r_bo2, r_tnot, r_tband, r_tbor, r_tcmp, r_tvar, r_tcall, r_tme, r_tidx, r_tbi, r_ts0, r_ts1, r_tgs0, r_tgs1, r_sexpr, r_sassign, r_saug, r_sdel, r_sife, r_swhl, r_sfr, r_sret, r_ss0, r_ss1, tg_var, tg_tup, tg_idx, tg_slc, bin_add, bin_sub, bin_mul, bin_div, bin_mod, bin_cat, cmp_eqi, cmp_eqs, cmp_nei, cmp_nes, cmp_lt, cmp_le, cmp_gt, cmp_ge, cmp_isn, cmp_ist, cmp_notn, cmp_nott, tr_none, tr_bool, tr_int, tr_str, tr_tup, ix_str, ix_tup, sl_ii, sl_in, sl_ni, bi_lens, bi_lent, bi_min, bi_max, bi_rng, bi_rng2, me_find, me_find2, ok_find, me_app, ok_app, me_ins, me_pop, me_join, me_ends, me_starts, ok_ins, ok_pop, ok_join, ok_ends, ok_starts, it_str, it_rng, neg_int, aug_addi, aug_adds, aug_subi, St.set, St.setAll, List.map_cons, List.map_nil, List.replicate, List.cons_append, List.nil_append, List.getElem?_cons_succ, List.getElem?_cons_zero, List.set_cons_succ, List.set_cons_zero, List.length_cons, List.length_nil, dreduceIte, retV]
        have e1 : ∀ u : Tx, pySl (x :: u) (some 1) none = u := fun u => pySl_from (x :: u) (a := 1) (by simp)
        rw [e1, e1]
        refine ⟨sm (by simp; omega), sm (by simp; omega), rfl, n3 _ (ss_nil (k1 old.length _ (by simp) ⟨c ++ [x], old, new, _, rfl, rfl, by rw [ho]; simp, by rw [hn]; simp, ?_, hx.trans (.upd _ _ _)⟩))⟩
        rw [upd_self, sv_set]; simp
      · rw [decide_eq_false (show ¬ [x] = [y] from fun z => q (by simpa using z))]
        exact exit (lcp_heads (by simpa using q))
theorem pl_w2 {KA KR : List Tx} {k k' o n : Tx} {p : Int} (hm : m a = some (.list (sv (KA ++ k :: k' :: KR)))) (hp : p = (KA.length : Nat)) (h1 : k'.length + (mo o n).length ≤ 1000) (h2 : (mn o n).length ≤ 1000) (h3 : KA.length ≤ 1000)
    (h : ∀ m', m' a = some (.list (sv (KA ++ k :: (su o n ++ k') :: KR))) → Ext a m m' → Q .next (pmS x0 a x2 x3 x4 x5 x6 x7 x8 p (ro o n) (rn o n) m')) :
    wpS P (.whl (.band [.cmp (.var 10) [.NotEq] [.lit (.str [])], .cmp (.var 11) [.NotEq] [.lit (.str [])], .cmp (.idx (.var 10) (.neg (.lit (.int 1)))) [.Eq] [.idx (.var 11) (.neg (.lit (.int 1)))]]) f_law_plainB6) Q (pmS x0 a x2 x3 x4 x5 x6 x7 x8 p (mo o n) (mn o n) m) := by
  have sm : ∀ {n : Nat}, n ≤ 2000 → small n := fun h => by unfold small; omega
  have tm : tiny (-1) := by unfold tiny; omega
  have tp : tiny (p + 1) := by unfold tiny; omega
  refine s_whl (fun z σ => ∃ c old new m', σ = pmS x0 a x2 x3 x4 x5 x6 x7 x8 p old new m' ∧ z = old.length ∧ mo o n = old ++ c ∧ mn o n = new ++ c ∧ m' a = some (.list (sv (KA ++ k :: (c ++ k') :: KR))) ∧ Ext a m m') ⟨_, [], _, _, m, rfl, rfl, by simp, by simp, hm, .refl _ _⟩ ?_
  rintro z _ ⟨c, old, new, m', rfl, rfl, ho, hn, hm', hx⟩ K Q1 kt k1 kf
  have exit : lcs new old = 0 → K false (pmS x0 a x2 x3 x4 x5 x6 x7 x8 p old new m') := fun q => by
    obtain ⟨e1, e2, e3⟩ := tail_exit ho hn q
    have := h m' (by rw [e1]; exact hm') hx
    rw [e2, e3] at this
    exact kf _ this
  dsimp only [r_lit, r_var, r_bin, r_neg, r_not, r_list, r_tup, r_cmp, r_band, r_bor, r_idx, r_slc, r_attr, r_bi, r_call, r_me, r_imeth, r_comp, r_es0, r_es1, r_ch1, r_bo1, r_bo2, r_tnot, r_tband, r_tbor, r_tcmp, r_tvar, r_tcall, r_tme, r_tidx, r_tbi, r_ts0, r_ts1, r_tgs0, r_tgs1, r_sexpr, r_sassign, r_saug, r_sdel, r_sife, r_swhl, r_sfr, r_sret, r_ss0, r_ss1, tg_var, tg_tup, tg_idx, tg_slc, bin_add, bin_sub, bin_mul, bin_div, bin_mod, bin_cat, cmp_eqi, cmp_eqs, cmp_nei, cmp_nes, cmp_lt, cmp_le, cmp_gt, cmp_ge, cmp_isn, cmp_ist, cmp_notn, cmp_nott, tr_none, tr_bool, tr_int, tr_str, tr_tup, ix_str, ix_tup, sl_ii, sl_in, sl_ni, bi_lens, bi_lent, bi_min, bi_max, bi_rng, bi_rng2, me_find, me_find2, ok_find, me_app, ok_app, me_ins, me_pop, me_join, me_ends, me_starts, ok_ins, ok_pop, ok_join, ok_ends, ok_starts, it_str, it_rng, neg_int, aug_addi, aug_adds, aug_subi, St.set, St.setAll, List.map_cons, List.map_nil, List.replicate, List.cons_append, List.nil_append, List.getElem?_cons_succ, List.getElem?_cons_zero, List.set_cons_succ, List.set_cons_zero, List.length_cons, List.length_nil, dreduceIte, retV]
  rcases List.eq_nil_or_concat old with rfl | ⟨oA, x, rfl⟩
  · exact exit (by unfold lcs; exact lcp_nil_r _)
  · rcases List.eq_nil_or_concat new with rfl | ⟨nA, y, rfl⟩
    · rw [decide_eq_false (by simp)]
      exact exit (by unfold lcs; exact lcp_nil_l _)
    · rw [List.concat_eq_append, List.concat_eq_append] at *
      rw [decide_eq_false (by simp), decide_eq_false (by simp)]
      have gl : ∀ (u : Tx) (v : Char), pyGet (u ++ [v]) (-1) = some v := fun u v => by rw [get_last (by simp)]; simp
      refine ⟨tm, x, gl _ _, tm, y, gl _ _, ?_⟩
      by_cases q : x = y
      · subst q
        rw [decide_eq_true rfl]
        refine kt _ ?_
        have lo := congrArg List.length ho
        have ln := congrArg List.length hn
        simp only [List.length_append, List.length_cons, List.length_nil] at lo ln
        have e0 : ∀ w : Tx, KA ++ k :: w :: KR = (KA ++ [k]) ++ w :: KR := fun w => by simp
        rw [e0] at hm'
        have hp1 : p + 1 = ((KA ++ [k]).length : Nat) := by rw [hp]; simp
        unfold f_law_plainB6
        refine ss_next fun Q2 n2 => ?_
        dsimp only [r_lit, r_var, r_bin, r_neg, r_not, r_list, r_tup, r_cmp, r_band, r_bor, r_idx, r_slc, r_attr, r_bi, r_call, r_me, r_imeth, r_comp, r_es0, r_es1, r_ch1, r_bo1, r_bo2, r_tnot, r_tband, r_tbor, r_tcmp, r_tvar, r_tcall, r_tme, r_tidx, r_tbi, r_ts0, r_ts1, r_tgs0, r_tgs1, r_sexpr, r_sassign, r_saug, r_sdel, r_sife, r_swhl, r_sfr, r_sret, r_ss0, r_ss1, tg_var, tg_tup, tg_idx, tg_slc, bin_add, bin_sub, bin_mul, bin_div, bin_mod, bin_cat, cmp_eqi, cmp_eqs, cmp_nei, cmp_nes, cmp_lt, cmp_le, cmp_gt, cmp_ge, cmp_isn, cmp_ist, cmp_notn, cmp_nott, tr_none, tr_bool, tr_int, tr_str, tr_tup, ix_str, ix_tup, sl_ii, sl_in, sl_ni, bi_lens, bi_lent, bi_min, bi_max, bi_rng, bi_rng2, me_find, me_find2, ok_find, me_app, ok_app, me_ins, me_pop, me_join, me_ends, me_starts, ok_ins, ok_pop, ok_join, ok_ends, ok_starts, it_str, it_rng, neg_int, aug_addi, aug_adds, aug_subi, St.set, St.setAll, List.map_cons, List.map_nil, List.replicate, List.cons_append, List.nil_append, List.getElem?_cons_succ, List.getElem?_cons_zero, List.set_cons_succ, List.set_cons_zero, List.length_cons, List.length_nil, dreduceIte, retV]
        refine ⟨tm, x, gl _ _, tp, _, .str (c ++ k'), hm', sv_get _ _ _ hp1, ?_⟩
        refine ⟨sm (by simp), sm (by simp; omega), a, _, _, (KA ++ [k]).length, rfl, rfl, tp, hm', sv_ix _ _ _ hp1, n2 _ (ss_next fun Q3 n3 => ?_)⟩
        dsimp only [r_lit, r_var, r_bin, r_neg, r_not, r_list, r_tup, r_cmp, r_band, r_bor, r_idx, r_slc, r_attr, r_bi, r_call, r_me, r_imeth, r_comp, r_es0, r_es1, r_ch1, r_bo1, r_bo2, r_tnot, r_tband, r_tbor, r_tcmp, r_tvar, r_tcall, r_tme, r_tidx, r_tbi, r_ts0, r_ts1, r_tgs0, r_tgs1, r_sexpr, r_sassign, r_saug, r_sdel, r_sife, r_swhl, r_sfr, r_sret, r_ss0, r_ss1, tg_var, tg_tup, tg_idx, tg_slc, bin_add, bin_sub, bin_mul, bin_div, bin_mod, bin_cat, cmp_eqi, cmp_eqs, cmp_nei, cmp_nes, cmp_lt, cmp_le, cmp_gt, cmp_ge, cmp_isn, cmp_ist, cmp_notn, cmp_nott, tr_none, tr_bool, tr_int, tr_str, tr_tup, ix_str, ix_tup, sl_ii, sl_in, sl_ni, bi_lens, bi_lent, bi_min, bi_max, bi_rng, bi_rng2, me_find, me_find2, ok_find, me_app, ok_app, me_ins, me_pop, me_join, me_ends, me_starts, ok_ins, ok_pop, ok_join, ok_ends, ok_starts, it_str, it_rng, neg_int, aug_addi, aug_adds, aug_subi, St.set, St.setAll, List.map_cons, List.map_nil, List.replicate, List.cons_append, List.nil_append, List.getElem?_cons_succ, List.getElem?_cons_zero, List.set_cons_succ, List.set_cons_zero, List.length_cons, List.length_nil, dreduceIte, retV]
        have e1 : ∀ u : Tx, pySl (u ++ [x]) none (some (-1)) = u := fun u => by
          have := pySl_nto (x := u ++ [x]) (k := 1) (by omega) (by simp)
          refine this.trans ?_
          exact List.take_left' (by simp)
        rw [e1, e1]
        refine ⟨sm (by simp; omega), sm (by simp; omega), rfl, n3 _ (ss_nil (k1 oA.length _ (by simp) ⟨x :: c, oA, nA, _, rfl, rfl, by rw [ho]; simp, by rw [hn]; simp, ?_, hx.trans (.upd _ _ _)⟩))⟩
        rw [upd_self, sv_set]; simp
      · rw [decide_eq_false (show ¬ [x] = [y] from fun z => q (by simpa using z))]
        exact exit (by unfold lcs; rw [List.reverse_append, List.reverse_append]; exact lcp_heads (by simpa using q))
end
end Mine
set_option autoImplicit false
set_option maxRecDepth 10000
set_option linter.unusedVariables false
set_option linter.unusedSimpArgs false
namespace Mine
open PySem PyProof.Rows PySem.W

theorem bindIs_one {i : Nat} {v : V} {Q : St → Prop} {σ : St} : bindIs true [i] v Q σ = Q (σ.set i v) := rfl
section
variable {P : PC} {Q : Fl → St → Prop} {m0 m : Mem} {d a b c a8 : Addr} {ins fl : Bool} {x5 x6 x10 x11 : Option V}
noncomputable abbrev plT (d a b c : Addr) (ins : Bool) (x5 x6 : Option V) (fl : Bool) (a8 : Addr) (x9 x10 x11 : Option V) (m : Mem) : St :=
  ⟨[some (.obj d), some (.obj a), some (.obj b), some (.obj c), some (.bool ins), x5, x6, some (.bool fl), some (.obj a8), x9, x10, x11], m⟩
/-- the growing row beside the three lists -/
structure RowAt (m0 m : Mem) (a b c a8 : Addr) (R : Row) : Prop where
  h : m a8 = some (.list (rv R))
  n : m0 a8 = none
  na : a8 ≠ a
  nb : a8 ≠ b
  nc : a8 ≠ c
theorem RowAt.ext {m' : Mem} {R : Row} (r : RowAt m0 m a b c a8 R) (x : Ext a m m') : RowAt m0 m' a b c a8 R := ⟨x _ _ r.na r.h, r.n, r.na, r.nb, r.nc⟩
theorem pl_b7 {KA KR GA GR CA CR : List Tx} {k k' o n : Tx} {R : Row} {p : Int} (T : Three m0 m a b c (KA ++ k :: k' :: KR) (GA ++ o :: GR) (CA ++ n :: CR)) (hR : RowAt m0 m a b c a8 R) (hp : p = (KA.length : Nat)) (hp2 : p = (GA.length : Nat)) (hp3 : p = (CA.length : Nat))
    (h1 : k.length + o.length ≤ 1000) (h2 : n.length ≤ 1000) (h3 : KA.length ≤ 1000) (h4 : k'.length + o.length ≤ 1000) (h5 : R.length ≤ 3000)
    (h : ∀ m' a8', Three m0 m' a b c (KA ++ (k ++ pre o n) :: (su o n ++ k') :: KR) (GA ++ o :: GR) (CA ++ n :: CR) → RowAt m0 m' a b c a8' (R ++ [(0, k ++ pre o n), (-1, ro o n), (1, rn o n)]) →
      Q .next (plT d a b c ins x5 x6 (fl || decide (ro o n = rn o n)) a8' (some (.int p)) (some (.str (ro o n))) (some (.str (rn o n))) m')) :
    wpSs P f_law_plainB7 Q (plT d a b c ins x5 x6 fl a8 (some (.int p)) x10 x11 m) := by
  have tp : tiny p := by unfold tiny; omega
  unfold f_law_plainB7
  refine ss_next fun Q1 n1 => ?_
  dsimp only [r_lit, r_var, r_bin, r_neg, r_not, r_list, r_tup, r_cmp, r_band, r_bor, r_idx, r_slc, r_attr, r_bi, r_call, r_me, r_imeth, r_comp, r_es0, r_es1, r_ch1, r_bo1, r_bo2, r_tnot, r_tband, r_tbor, r_tcmp, r_tvar, r_tcall, r_tme, r_tidx, r_tbi, r_ts0, r_ts1, r_tgs0, r_tgs1, r_sexpr, r_sassign, r_saug, r_sdel, r_sife, r_swhl, r_sfr, r_sret, r_ss0, r_ss1, tg_var, tg_tup, tg_idx, tg_slc, bin_add, bin_sub, bin_mul, bin_div, bin_mod, bin_cat, cmp_eqi, cmp_eqs, cmp_nei, cmp_nes, cmp_lt, cmp_le, cmp_gt, cmp_ge, cmp_isn, cmp_ist, cmp_notn, cmp_nott, tr_none, tr_bool, tr_int, tr_str, tr_tup, ix_str, ix_tup, sl_ii, sl_in, sl_ni, bi_lens, bi_lent, bi_min, bi_max, bi_rng, bi_rng2, me_find, me_find2, ok_find, me_app, ok_app, me_ins, me_pop, me_join, me_ends, me_starts, ok_ins, ok_pop, ok_join, ok_ends, ok_starts, it_str, it_rng, neg_int, aug_addi, aug_adds, aug_subi, St.set, St.setAll, List.map_cons, List.map_nil, List.replicate, List.cons_append, List.nil_append, List.getElem?_cons_succ, List.getElem?_cons_zero, List.set_cons_succ, List.set_cons_zero, List.length_cons, List.length_nil, dreduceIte, retV]
  refine ⟨tp, _, _, T.hb, sv_get _ _ _ hp2, tp, _, _, T.hc, sv_get _ _ _ hp3, rfl, n1 _ (ss_next fun Q2 n2 => ?_)⟩
  have so := congrArg List.length (split_o o n)
  refine pl_w1 T.ha hp h1 h2 h3 fun m1 g1 x1 => n2 _ (ss_next fun Q3 n3 => ?_)
  have T1 := T.ext x1 g1
  have R1 := hR.ext x1
  refine pl_w2 g1 hp ?_ ?_ h3 fun m2 g2 x2 => n3 _ (ss_next fun Q4 n4 => ?_)
  · unfold mo; rw [List.length_drop]; omega
  · unfold mn; rw [List.length_drop]; omega
  have T2 := T1.ext x2 g2
  have R2 := R1.ext x2
  dsimp only [r_lit, r_var, r_bin, r_neg, r_not, r_list, r_tup, r_cmp, r_band, r_bor, r_idx, r_slc, r_attr, r_bi, r_call, r_me, r_imeth, r_comp, r_es0, r_es1, r_ch1, r_bo1, r_bo2, r_tnot, r_tband, r_tbor, r_tcmp, r_tvar, r_tcall, r_tme, r_tidx, r_tbi, r_ts0, r_ts1, r_tgs0, r_tgs1, r_sexpr, r_sassign, r_saug, r_sdel, r_sife, r_swhl, r_sfr, r_sret, r_ss0, r_ss1, tg_var, tg_tup, tg_idx, tg_slc, bin_add, bin_sub, bin_mul, bin_div, bin_mod, bin_cat, cmp_eqi, cmp_eqs, cmp_nei, cmp_nes, cmp_lt, cmp_le, cmp_gt, cmp_ge, cmp_isn, cmp_ist, cmp_notn, cmp_nott, tr_none, tr_bool, tr_int, tr_str, tr_tup, ix_str, ix_tup, sl_ii, sl_in, sl_ni, bi_lens, bi_lent, bi_min, bi_max, bi_rng, bi_rng2, me_find, me_find2, ok_find, me_app, ok_app, me_ins, me_pop, me_join, me_ends, me_starts, ok_ins, ok_pop, ok_join, ok_ends, ok_starts, it_str, it_rng, neg_int, aug_addi, aug_adds, aug_subi, St.set, St.setAll, List.map_cons, List.map_nil, List.replicate, List.cons_append, List.nil_append, List.getElem?_cons_succ, List.getElem?_cons_zero, List.set_cons_succ, List.set_cons_zero, List.length_cons, List.length_nil, dreduceIte, retV]
  have fe : ∀ X : Bool → Prop, X (fl || decide (ro o n = rn o n)) → (if fl = false then X (decide (ro o n = rn o n)) else X fl) := fun X q => by
    cases fl
    · exact q
    · exact q
  refine fe (fun z => Q4 .next (plT d a b c ins x5 x6 z a8 (some (.int p)) (some (.str (ro o n))) (some (.str (rn o n))) m2)) (n4 _ (ss_next fun Q5 n5 => ?_))
  dsimp only [r_lit, r_var, r_bin, r_neg, r_not, r_list, r_tup, r_cmp, r_band, r_bor, r_idx, r_slc, r_attr, r_bi, r_call, r_me, r_imeth, r_comp, r_es0, r_es1, r_ch1, r_bo1, r_bo2, r_tnot, r_tband, r_tbor, r_tcmp, r_tvar, r_tcall, r_tme, r_tidx, r_tbi, r_ts0, r_ts1, r_tgs0, r_tgs1, r_sexpr, r_sassign, r_saug, r_sdel, r_sife, r_swhl, r_sfr, r_sret, r_ss0, r_ss1, tg_var, tg_tup, tg_idx, tg_slc, bin_add, bin_sub, bin_mul, bin_div, bin_mod, bin_cat, cmp_eqi, cmp_eqs, cmp_nei, cmp_nes, cmp_lt, cmp_le, cmp_gt, cmp_ge, cmp_isn, cmp_ist, cmp_notn, cmp_nott, tr_none, tr_bool, tr_int, tr_str, tr_tup, ix_str, ix_tup, sl_ii, sl_in, sl_ni, bi_lens, bi_lent, bi_min, bi_max, bi_rng, bi_rng2, me_find, me_find2, ok_find, me_app, ok_app, me_ins, me_pop, me_join, me_ends, me_starts, ok_ins, ok_pop, ok_join, ok_ends, ok_starts, it_str, it_rng, neg_int, aug_addi, aug_adds, aug_subi, St.set, St.setAll, List.map_cons, List.map_nil, List.replicate, List.cons_append, List.nil_append, List.getElem?_cons_succ, List.getElem?_cons_zero, List.set_cons_succ, List.set_cons_zero, List.length_cons, List.length_nil, dreduceIte, retV]
  refine ⟨tp, _, _, g2, sv_get _ _ _ hp, fun y hy => ?_⟩
  rw [bin_cato]
  have hne : a8 ≠ y := fun q => by subst q; rw [R2.h] at hy; cases hy
  refine ⟨rv R, _, by rw [upd_ne _ _ hne]; exact R2.h, upd_self _ _ _, by rw [rv_len]; unfold small; omega, by unfold small; simp, fun w hw => n5 _ (ss_nil ?_)⟩
  have T3 := T2.new hy (.list [.tup [.int 0, .str (k ++ pre o n)], .tup [.int (-1), .str (ro o n)], .tup [.int 1, .str (rn o n)]])
  have T4 := T3.new hw (.list (rv R ++ [.tup [.int 0, .str (k ++ pre o n)], .tup [.int (-1), .str (ro o n)], .tup [.int 1, .str (rn o n)]]))
  refine h _ w T4 ⟨?_, ?_, ?_, ?_, ?_⟩
  · rw [upd_self, rv_append]; rfl
  · cases q : m0 w with
    | none => rfl
    | some v => rw [T3.gr _ _ q] at hw; cases hw
  · intro q; subst q; rw [T3.ha] at hw; cases hw
  · intro q; subst q; rw [T3.hb] at hw; cases hw
  · intro q; subst q; rw [T3.hc] at hw; cases hw

/-- all the letters of the segments -/
noncomputable def wa : List Seg → Nat
  | [] => 0
  | (o, n, k) :: l => o.length + n.length + k.length + wa l
/-- the second loop -/
theorem pl_loop2 {k : Tx} {ls : List Seg} {x9 : Option V} (T : Three m0 m a b c (kL (k, ls)) (gL (k, ls)) (cL (k, ls))) (hR : RowAt m0 m a b c a8 []) (hw : k.length + wa ls ≤ 1000) (hl : ls.length ≤ 900)
    (h : ∀ m' a8' x9 x10 x11 KA kz R, Three m0 m' a b c (KA ++ [kz]) (gL (k, ls)) (cL (k, ls)) → RowAt m0 m' a b c a8' R → R.length ≤ 3000 → R ++ [(0, kz)] = (plainGo k ls).1 → KA.length ≤ 1000 → Q .next (plT d a b c ins x5 x6 (plainGo k ls).2 a8' x9 x10 x11 m')) :
    wpS P (.fr (.var 9) (.bi .range [.bi .len [.var 2]]) f_law_plainB7) Q (plT d a b c ins x5 x6 false a8 x9 x10 x11 m) := by
  have t0 : tiny 0 := by unfold tiny; omega
  have t1 : tiny 1 := by unfold tiny; omega
  have gl : (gL (k, ls)).length = ls.length := by simp [gL]
  dsimp only [r_lit, r_var, r_bin, r_neg, r_not, r_list, r_tup, r_cmp, r_band, r_bor, r_idx, r_slc, r_attr, r_bi, r_call, r_me, r_imeth, r_comp, r_es0, r_es1, r_ch1, r_bo1, r_bo2, r_tnot, r_tband, r_tbor, r_tcmp, r_tvar, r_tcall, r_tme, r_tidx, r_tbi, r_ts0, r_ts1, r_tgs0, r_tgs1, r_sexpr, r_sassign, r_saug, r_sdel, r_sife, r_swhl, r_sfr, r_sret, r_ss0, r_ss1, tg_var, tg_tup, tg_idx, tg_slc, bin_add, bin_sub, bin_mul, bin_div, bin_mod, bin_cat, cmp_eqi, cmp_eqs, cmp_nei, cmp_nes, cmp_lt, cmp_le, cmp_gt, cmp_ge, cmp_isn, cmp_ist, cmp_notn, cmp_nott, tr_none, tr_bool, tr_int, tr_str, tr_tup, ix_str, ix_tup, sl_ii, sl_in, sl_ni, bi_lens, bi_lent, bi_min, bi_max, bi_rng, bi_rng2, me_find, me_find2, ok_find, me_app, ok_app, me_ins, me_pop, me_join, me_ends, me_starts, ok_ins, ok_pop, ok_join, ok_ends, ok_starts, it_str, it_rng, neg_int, aug_addi, aug_adds, aug_subi, St.set, St.setAll, List.map_cons, List.map_nil, List.replicate, List.cons_append, List.nil_append, List.getElem?_cons_succ, List.getElem?_cons_zero, List.set_cons_succ, List.set_cons_zero, List.length_cons, List.length_nil, dreduceIte, retV]
  rw [bi_leno]
  refine ⟨_, .inl T.hb, by rw [sv_len, gl]; unfold small; omega, ?_⟩
  dsimp only [r_lit, r_var, r_bin, r_neg, r_not, r_list, r_tup, r_cmp, r_band, r_bor, r_idx, r_slc, r_attr, r_bi, r_call, r_me, r_imeth, r_comp, r_es0, r_es1, r_ch1, r_bo1, r_bo2, r_tnot, r_tband, r_tbor, r_tcmp, r_tvar, r_tcall, r_tme, r_tidx, r_tbi, r_ts0, r_ts1, r_tgs0, r_tgs1, r_sexpr, r_sassign, r_saug, r_sdel, r_sife, r_swhl, r_sfr, r_sret, r_ss0, r_ss1, tg_var, tg_tup, tg_idx, tg_slc, bin_add, bin_sub, bin_mul, bin_div, bin_mod, bin_cat, cmp_eqi, cmp_eqs, cmp_nei, cmp_nes, cmp_lt, cmp_le, cmp_gt, cmp_ge, cmp_isn, cmp_ist, cmp_notn, cmp_nott, tr_none, tr_bool, tr_int, tr_str, tr_tup, ix_str, ix_tup, sl_ii, sl_in, sl_ni, bi_lens, bi_lent, bi_min, bi_max, bi_rng, bi_rng2, me_find, me_find2, ok_find, me_app, ok_app, me_ins, me_pop, me_join, me_ends, me_starts, ok_ins, ok_pop, ok_join, ok_ends, ok_starts, it_str, it_rng, neg_int, aug_addi, aug_adds, aug_subi, St.set, St.setAll, List.map_cons, List.map_nil, List.replicate, List.cons_append, List.nil_append, List.getElem?_cons_succ, List.getElem?_cons_zero, List.set_cons_succ, List.set_cons_zero, List.length_cons, List.length_nil, dreduceIte, retV]
  have tb : tiny ((sv (gL (k, ls))).length : Int) := by rw [sv_len, gl]; unfold tiny; omega
  refine ⟨tb, t0, tb, t1, by decide, ?_⟩
  rw [sv_len, gl, show rngL 0 (ls.length : Int) 1 = _ from rng_two 0 ls.length]
  refine loop_map (fun j : Nat => V.int j) (fun l σ => ∃ KA kz l' GA CA R f a8' y9 y10 y11 m', σ = plT d a b c ins x5 x6 f a8' y9 y10 y11 m' ∧ l = List.range' KA.length l'.length ∧ GA.length = KA.length ∧ CA.length = KA.length ∧
      Three m0 m' a b c (KA ++ kL (kz, l')) (GA ++ gL (kz, l')) (CA ++ cL (kz, l')) ∧ GA ++ gL (kz, l') = gL (k, ls) ∧ CA ++ cL (kz, l') = cL (k, ls) ∧ RowAt m0 m' a b c a8' R ∧ R.length ≤ 3 * KA.length ∧ KA.length + l'.length ≤ 900 ∧ kz.length + wa l' ≤ 1000 ∧
      R ++ (plainGo kz l').1 = (plainGo k ls).1 ∧ (f || (plainGo kz l').2) = (plainGo k ls).2) (fun _ _ _ => trivial) ?_ ?_ _ _
      ⟨[], k, ls, [], [], [], false, a8, x9, x10, x11, m, rfl, rfl, rfl, rfl, T, rfl, rfl, hR, by simp, by simp; omega, hw, rfl, by simp⟩
  · rintro p l _ ⟨KA, kz, l', GA, CA, R, f, a8', y9, y10, y11, m', rfl, hl', e1, e2, T', s1, s2, R', b1, b2, b3, s3, s4⟩ Q1 k1 k2
    cases l' with
    | nil => cases hl'
    | cons sg l' =>
      obtain ⟨o, n, k'⟩ := sg
      rw [List.length_cons, List.range'_succ] at hl'
      cases hl'
      simp only [wa, List.length_cons] at b2 b3
      dsimp only [tg_var, St.set, List.set_cons_succ, List.set_cons_zero]
      refine pl_b7 (KA := KA) (KR := l'.map fun x => x.2.2) (GA := GA) (GR := l'.map fun x => x.1) (CA := CA) (CR := l'.map fun x => x.2.1) (k := kz) (k' := k') (o := o) (n := n) T' R' rfl (by rw [e1]) (by rw [e2]) (by omega) (by omega) (by omega) (by omega) (by omega) fun m'' a8'' T'' R'' => k1 _ ?_
      have so := congrArg List.length (split_o o n)
      simp only [List.length_append] at so
      have pg : plainGo kz ((o, n, k') :: l') = ((0, kz ++ pre o n) :: (-1, ro o n) :: (1, rn o n) :: (plainGo (su o n ++ k') l').1, decide (ro o n = rn o n) || (plainGo (su o n ++ k') l').2) := by rw [plainGo]
      rw [pg] at s3 s4
      refine ⟨KA ++ [kz ++ pre o n], su o n ++ k', l', GA ++ [o], CA ++ [n], _, _, a8'', _, _, _, m'', rfl, by simp, by simp [e1], by simp [e2], ?_, ?_, ?_, R'', by simp; omega, by simp; omega, by simp; omega, ?_, ?_⟩
      · simpa [kL, gL, cL] using T''
      · rw [← s1]; simp [gL]
      · rw [← s2]; simp [cL]
      · rw [← s3]; simp
      · rw [← s4]; simp [Bool.or_assoc]
  · rintro _ ⟨KA, kz, l', GA, CA, R, f, a8', y9, y10, y11, m', rfl, hl', e1, e2, T', s1, s2, R', b1, b2, b3, s3, s4⟩
    cases l' with
    | cons _ _ => cases hl'
    | nil =>
      rw [s1, s2] at T'
      rw [show (plainGo kz []).2 = false from rfl, Bool.or_false] at s4
      rw [s4]
      exact h m' a8' _ _ _ KA kz R T' R' (by omega) s3 (by omega)
theorem segs_wa : ∀ (r run : Row) (k : Tx), Run run → Kinds r → (segs k run r).1.length + wa (segs k run r).2 ≤ k.length + turned run + phi r ∧ (segs k run r).2.length ≤ run.length + r.length
  | [], run, k, hr, _ => by
    rw [segs_nil]
    have := turned_run hr
    by_cases h : run = []
    · rw [if_pos h]; simp [wa]; omega
    · rw [if_neg h]
      have := List.length_pos_iff.mpr h
      simp [wa]; omega
  | (j, t) :: r, run, k, hr, hK => by
    have tr := turned_run hr
    rw [phi_cons]
    by_cases hj : j = 0
    · subst hj
      by_cases h : run = []
      · subst h
        rw [segs_keep]
        obtain ⟨a, b⟩ := segs_wa r [] (k ++ t) .nil hK.tail
        simp only [List.length_append, turned, List.length_cons, List.length_nil] at a b ⊢
        omega
      · rw [segs_end h]
        obtain ⟨a, b⟩ := segs_wa r [] t .nil hK.tail
        have := List.length_pos_iff.mpr h
        simp only [wa, turned, List.length_cons, List.length_nil] at a b ⊢
        omega
    · rw [segs_turn hj]
      obtain ⟨a, b⟩ := segs_wa r (run ++ [(j, t)]) k (hr.snoc (kind_run hK.head hj)) hK.tail
      rw [turned_append] at a
      have z : turned [(j, t)] = t.length := by simp [turned, hj]
      simp only [List.length_append, List.length_cons, List.length_nil] at a b ⊢
      omega
noncomputable def neT (p : Part) : Option V := if p.2 = [] then none else some (pv p)
theorem ne_list (r : Row) : r.filterMap neT = rv (ne r) := by
  induction r with
  | nil => rfl
  | cons p r ih =>
    rw [ne_cons]
    by_cases h : p.2 = []
    · rw [List.filterMap_cons_none (show neT p = none from if_pos h), ih, if_pos h]; rfl
    · rw [List.filterMap_cons_some (show neT p = some (pv p) from if_neg h), ih, if_neg h]; rfl
end
section
variable {P : PC} {Q : V → Mem → Prop} {m : Mem}
theorem w_plain {d : Addr} {r : Row} (hm : m d = some (.list (rv r))) (hK : Kinds r) (hφ : phi r ≤ 800) (h : ∀ m' a, Gr m m' → m' a = some (.list (rv (plainR r))) → Q (.tup [.obj a, .bool (fell r)]) m') :
    wpSs P f_law_plainBody (fun fl σ' => Q (retV fl) σ'.mem) ⟨[V.obj d].map some ++ List.replicate 11 none, m⟩ := by
  obtain ⟨z1, z2⟩ := segs_wa r [] [] .nil hK
  have hL := len_le_phi r
  unfold f_law_plainBody
  refine ss_next fun Q1 n1 => ?_
  dsimp only [r_lit, r_var, r_bin, r_neg, r_not, r_list, r_tup, r_cmp, r_band, r_bor, r_idx, r_slc, r_attr, r_bi, r_call, r_me, r_imeth, r_comp, r_es0, r_es1, r_ch1, r_bo1, r_bo2, r_tnot, r_tband, r_tbor, r_tcmp, r_tvar, r_tcall, r_tme, r_tidx, r_tbi, r_ts0, r_ts1, r_tgs0, r_tgs1, r_sexpr, r_sassign, r_saug, r_sdel, r_sife, r_swhl, r_sfr, r_sret, r_ss0, r_ss1, tg_var, tg_tup, tg_idx, tg_slc, bin_add, bin_sub, bin_mul, bin_div, bin_mod, bin_cat, cmp_eqi, cmp_eqs, cmp_nei, cmp_nes, cmp_lt, cmp_le, cmp_gt, cmp_ge, cmp_isn, cmp_ist, cmp_notn, cmp_nott, tr_none, tr_bool, tr_int, tr_str, tr_tup, ix_str, ix_tup, sl_ii, sl_in, sl_ni, bi_lens, bi_lent, bi_min, bi_max, bi_rng, bi_rng2, me_find, me_find2, ok_find, me_app, ok_app, me_ins, me_pop, me_join, me_ends, me_starts, ok_ins, ok_pop, ok_join, ok_ends, ok_starts, it_str, it_rng, neg_int, aug_addi, aug_adds, aug_subi, St.set, St.setAll, List.map_cons, List.map_nil, List.replicate, List.cons_append, List.nil_append, List.getElem?_cons_succ, List.getElem?_cons_zero, List.set_cons_succ, List.set_cons_zero, List.length_cons, List.length_nil, dreduceIte, retV]
  intro a ha b hb c hc
  refine ⟨rfl, n1 _ ?_⟩
  have ab : a ≠ b := fun q => by subst q; rw [upd_self] at hb; cases hb
  have ac : a ≠ c := fun q => by subst q; rw [upd_ne _ _ ab, upd_self] at hc; cases hc
  have bc : b ≠ c := fun q => by subst q; rw [upd_self] at hc; cases hc
  have nb : m b = none := by rw [upd_ne _ _ (Ne.symm ab)] at hb; exact hb
  have nc : m c = none := by rw [upd_ne _ _ (Ne.symm bc), upd_ne _ _ (Ne.symm ac)] at hc; exact hc
  have T : Three m (upd (upd (upd m a (.list [.str []])) b (.list [])) c (.list [])) a b c [[]] [] [] :=
    ⟨((Gr.new ha _).trans (.new hb _)).trans (.new hc _), ha, nb, nc, ab, ac, bc, by rw [upd_ne _ _ ac, upd_ne _ _ ab, upd_self]; rfl, by rw [upd_ne _ _ bc, upd_self]; rfl, by rw [upd_self]; rfl⟩
  clear n1
  generalize upd (upd (upd m a (.list [.str []])) b (.list [])) c (.list []) = m1 at T
  refine ss_next fun Q2 n2 => ?_
  dsimp only [r_lit, r_var, r_bin, r_neg, r_not, r_list, r_tup, r_cmp, r_band, r_bor, r_idx, r_slc, r_attr, r_bi, r_call, r_me, r_imeth, r_comp, r_es0, r_es1, r_ch1, r_bo1, r_bo2, r_tnot, r_tband, r_tbor, r_tcmp, r_tvar, r_tcall, r_tme, r_tidx, r_tbi, r_ts0, r_ts1, r_tgs0, r_tgs1, r_sexpr, r_sassign, r_saug, r_sdel, r_sife, r_swhl, r_sfr, r_sret, r_ss0, r_ss1, tg_var, tg_tup, tg_idx, tg_slc, bin_add, bin_sub, bin_mul, bin_div, bin_mod, bin_cat, cmp_eqi, cmp_eqs, cmp_nei, cmp_nes, cmp_lt, cmp_le, cmp_gt, cmp_ge, cmp_isn, cmp_ist, cmp_notn, cmp_nott, tr_none, tr_bool, tr_int, tr_str, tr_tup, ix_str, ix_tup, sl_ii, sl_in, sl_ni, bi_lens, bi_lent, bi_min, bi_max, bi_rng, bi_rng2, me_find, me_find2, ok_find, me_app, ok_app, me_ins, me_pop, me_join, me_ends, me_starts, ok_ins, ok_pop, ok_join, ok_ends, ok_starts, it_str, it_rng, neg_int, aug_addi, aug_adds, aug_subi, St.set, St.setAll, List.map_cons, List.map_nil, List.replicate, List.cons_append, List.nil_append, List.getElem?_cons_succ, List.getElem?_cons_zero, List.set_cons_succ, List.set_cons_zero, List.length_cons, List.length_nil, dreduceIte, retV]
  refine n2 _ (ss_next fun Q3 n3 => pl_loop1 (T.gr _ _ hm) hK (by omega) hm T fun m2 x5 x6 ins K T2 i1 i2 => n3 _ (ss_next fun Q4 n4 => s_ife fun K2 kt kf => ?_))
  have rest : ∀ m3, Three m m3 a b c (kL (segs [] [] r)) (gL (segs [] [] r)) (cL (segs [] [] r)) → Q4 .next (plS d a b c ins x5 x6 none none none none none m3) := fun m3 T3 => n4 _ (ss_next fun Q5 n5 => by
    dsimp only [r_lit, r_var, r_bin, r_neg, r_not, r_list, r_tup, r_cmp, r_band, r_bor, r_idx, r_slc, r_attr, r_bi, r_call, r_me, r_imeth, r_comp, r_es0, r_es1, r_ch1, r_bo1, r_bo2, r_tnot, r_tband, r_tbor, r_tcmp, r_tvar, r_tcall, r_tme, r_tidx, r_tbi, r_ts0, r_ts1, r_tgs0, r_tgs1, r_sexpr, r_sassign, r_saug, r_sdel, r_sife, r_swhl, r_sfr, r_sret, r_ss0, r_ss1, tg_var, tg_tup, tg_idx, tg_slc, bin_add, bin_sub, bin_mul, bin_div, bin_mod, bin_cat, cmp_eqi, cmp_eqs, cmp_nei, cmp_nes, cmp_lt, cmp_le, cmp_gt, cmp_ge, cmp_isn, cmp_ist, cmp_notn, cmp_nott, tr_none, tr_bool, tr_int, tr_str, tr_tup, ix_str, ix_tup, sl_ii, sl_in, sl_ni, bi_lens, bi_lent, bi_min, bi_max, bi_rng, bi_rng2, me_find, me_find2, ok_find, me_app, ok_app, me_ins, me_pop, me_join, me_ends, me_starts, ok_ins, ok_pop, ok_join, ok_ends, ok_starts, it_str, it_rng, neg_int, aug_addi, aug_adds, aug_subi, St.set, St.setAll, List.map_cons, List.map_nil, List.replicate, List.cons_append, List.nil_append, List.getElem?_cons_succ, List.getElem?_cons_zero, List.set_cons_succ, List.set_cons_zero, List.length_cons, List.length_nil, dreduceIte, retV]
    refine n5 _ (ss_next fun Q6 n6 => ?_)
    dsimp only [r_lit, r_var, r_bin, r_neg, r_not, r_list, r_tup, r_cmp, r_band, r_bor, r_idx, r_slc, r_attr, r_bi, r_call, r_me, r_imeth, r_comp, r_es0, r_es1, r_ch1, r_bo1, r_bo2, r_tnot, r_tband, r_tbor, r_tcmp, r_tvar, r_tcall, r_tme, r_tidx, r_tbi, r_ts0, r_ts1, r_tgs0, r_tgs1, r_sexpr, r_sassign, r_saug, r_sdel, r_sife, r_swhl, r_sfr, r_sret, r_ss0, r_ss1, tg_var, tg_tup, tg_idx, tg_slc, bin_add, bin_sub, bin_mul, bin_div, bin_mod, bin_cat, cmp_eqi, cmp_eqs, cmp_nei, cmp_nes, cmp_lt, cmp_le, cmp_gt, cmp_ge, cmp_isn, cmp_ist, cmp_notn, cmp_nott, tr_none, tr_bool, tr_int, tr_str, tr_tup, ix_str, ix_tup, sl_ii, sl_in, sl_ni, bi_lens, bi_lent, bi_min, bi_max, bi_rng, bi_rng2, me_find, me_find2, ok_find, me_app, ok_app, me_ins, me_pop, me_join, me_ends, me_starts, ok_ins, ok_pop, ok_join, ok_ends, ok_starts, it_str, it_rng, neg_int, aug_addi, aug_adds, aug_subi, St.set, St.setAll, List.map_cons, List.map_nil, List.replicate, List.cons_append, List.nil_append, List.getElem?_cons_succ, List.getElem?_cons_zero, List.set_cons_succ, List.set_cons_zero, List.length_cons, List.length_nil, dreduceIte, retV]
    intro a8 h8
    have T4 := T3.new h8 (.list [])
    have n8 : m a8 = none := by
      cases q : m a8 with
      | none => rfl
      | some v => rw [T3.gr _ _ q] at h8; cases h8
    have R4 : RowAt m (upd m3 a8 (.list [])) a b c a8 [] := ⟨upd_self _ _ _, n8, fun q => (by subst q; rw [T3.ha] at h8; cases h8), fun q => (by subst q; rw [T3.hb] at h8; cases h8), fun q => (by subst q; rw [T3.hc] at h8; cases h8)⟩
    refine n6 _ (ss_next fun Q7 n7 => pl_loop2 (k := (segs [] [] r).1) (ls := (segs [] [] r).2) T4 R4 (by simp [turned] at z1; omega) (by simp at z2; omega) fun m5 a8' x9 x10 x11 KA kz R T5 R5 hRl hRe hKA => n7 _ (ss_next fun Q8 n8 => ?_))
    dsimp only [r_lit, r_var, r_bin, r_neg, r_not, r_list, r_tup, r_cmp, r_band, r_bor, r_idx, r_slc, r_attr, r_bi, r_call, r_me, r_imeth, r_comp, r_es0, r_es1, r_ch1, r_bo1, r_bo2, r_tnot, r_tband, r_tbor, r_tcmp, r_tvar, r_tcall, r_tme, r_tidx, r_tbi, r_ts0, r_ts1, r_tgs0, r_tgs1, r_sexpr, r_sassign, r_saug, r_sdel, r_sife, r_swhl, r_sfr, r_sret, r_ss0, r_ss1, tg_var, tg_tup, tg_idx, tg_slc, bin_add, bin_sub, bin_mul, bin_div, bin_mod, bin_cat, cmp_eqi, cmp_eqs, cmp_nei, cmp_nes, cmp_lt, cmp_le, cmp_gt, cmp_ge, cmp_isn, cmp_ist, cmp_notn, cmp_nott, tr_none, tr_bool, tr_int, tr_str, tr_tup, ix_str, ix_tup, sl_ii, sl_in, sl_ni, bi_lens, bi_lent, bi_min, bi_max, bi_rng, bi_rng2, me_find, me_find2, ok_find, me_app, ok_app, me_ins, me_pop, me_join, me_ends, me_starts, ok_ins, ok_pop, ok_join, ok_ends, ok_starts, it_str, it_rng, neg_int, aug_addi, aug_adds, aug_subi, St.set, St.setAll, List.map_cons, List.map_nil, List.replicate, List.cons_append, List.nil_append, List.getElem?_cons_succ, List.getElem?_cons_zero, List.set_cons_succ, List.set_cons_zero, List.length_cons, List.length_nil, dreduceIte, retV]
    refine ⟨⟨_, R5.h⟩, by unfold tiny; omega, _, _, T5.ha, sv_getl _ _, ?_⟩
    dsimp only [r_lit, r_var, r_bin, r_neg, r_not, r_list, r_tup, r_cmp, r_band, r_bor, r_idx, r_slc, r_attr, r_bi, r_call, r_me, r_imeth, r_comp, r_es0, r_es1, r_ch1, r_bo1, r_bo2, r_tnot, r_tband, r_tbor, r_tcmp, r_tvar, r_tcall, r_tme, r_tidx, r_tbi, r_ts0, r_ts1, r_tgs0, r_tgs1, r_sexpr, r_sassign, r_saug, r_sdel, r_sife, r_swhl, r_sfr, r_sret, r_ss0, r_ss1, tg_var, tg_tup, tg_idx, tg_slc, bin_add, bin_sub, bin_mul, bin_div, bin_mod, bin_cat, cmp_eqi, cmp_eqs, cmp_nei, cmp_nes, cmp_lt, cmp_le, cmp_gt, cmp_ge, cmp_isn, cmp_ist, cmp_notn, cmp_nott, tr_none, tr_bool, tr_int, tr_str, tr_tup, ix_str, ix_tup, sl_ii, sl_in, sl_ni, bi_lens, bi_lent, bi_min, bi_max, bi_rng, bi_rng2, me_find, me_find2, ok_find, me_app, ok_app, me_ins, me_pop, me_join, me_ends, me_starts, ok_ins, ok_pop, ok_join, ok_ends, ok_starts, it_str, it_rng, neg_int, aug_addi, aug_adds, aug_subi, St.set, St.setAll, List.map_cons, List.map_nil, List.replicate, List.cons_append, List.nil_append, List.getElem?_cons_succ, List.getElem?_cons_zero, List.set_cons_succ, List.set_cons_zero, List.length_cons, List.length_nil, dreduceIte, retV]
    refine ⟨_, R5.h, by rw [rv_len]; unfold small; omega, n8 _ (ss_ret fun Q9 n9 r9 => ?_)⟩
    have e5 : upd m5 a8' (.list (rv R ++ [.tup [.int 0, .str kz]])) a8' = some (.list (rv (plainGo (segs [] [] r).1 (segs [] [] r).2).1)) := by rw [upd_self, ← hRe, rv_append]; rfl
    have g5 : Gr m (upd m5 a8' (.list (rv R ++ [.tup [.int 0, .str kz]]))) := T5.gr.set R5.n _
    have l5 := congrArg List.length hRe
    clear n8
    generalize upd m5 a8' (.list (rv R ++ [.tup [.int 0, .str kz]])) = m6 at e5 g5
    generalize hX : (plainGo (segs [] [] r).1 (segs [] [] r).2).1 = X at e5 l5
    dsimp only [r_lit, r_var, r_bin, r_neg, r_not, r_list, r_tup, r_cmp, r_band, r_bor, r_idx, r_slc, r_attr, r_bi, r_call, r_me, r_imeth, r_comp, r_es0, r_es1, r_ch1, r_bo1, r_bo2, r_tnot, r_tband, r_tbor, r_tcmp, r_tvar, r_tcall, r_tme, r_tidx, r_tbi, r_ts0, r_ts1, r_tgs0, r_tgs1, r_sexpr, r_sassign, r_saug, r_sdel, r_sife, r_swhl, r_sfr, r_sret, r_ss0, r_ss1, tg_var, tg_tup, tg_idx, tg_slc, bin_add, bin_sub, bin_mul, bin_div, bin_mod, bin_cat, cmp_eqi, cmp_eqs, cmp_nei, cmp_nes, cmp_lt, cmp_le, cmp_gt, cmp_ge, cmp_isn, cmp_ist, cmp_notn, cmp_nott, tr_none, tr_bool, tr_int, tr_str, tr_tup, ix_str, ix_tup, sl_ii, sl_in, sl_ni, bi_lens, bi_lent, bi_min, bi_max, bi_rng, bi_rng2, me_find, me_find2, ok_find, me_app, ok_app, me_ins, me_pop, me_join, me_ends, me_starts, ok_ins, ok_pop, ok_join, ok_ends, ok_starts, it_str, it_rng, neg_int, aug_addi, aug_adds, aug_subi, St.set, St.setAll, List.map_cons, List.map_nil, List.replicate, List.cons_append, List.nil_append, List.getElem?_cons_succ, List.getElem?_cons_zero, List.set_cons_succ, List.set_cons_zero, List.length_cons, List.length_nil, dreduceIte, retV]
    refine ⟨_, e5, by rw [rv_len, ← l5]; unfold small; simp; omega, by rw [rv_len, ← l5]; unfold small; simp; omega, ?_⟩
    refine wpComp_map (fun σ => ∃ x, σ = ⟨[x], m6⟩) pv neT X [] _ ⟨none, rfl⟩ (by rintro _ ⟨x, rfl⟩; exact e5) ?_ ?_
    · rintro p _ _ ⟨x, rfl⟩ K K' h1 h2
      have g1 : p.2 = [] → ∀ σ', (∃ x, σ' = ⟨[x], m6⟩) → K' σ' := fun q => h1 (if_pos q)
      have g2 : ¬ p.2 = [] → ∀ σ', (∃ x, σ' = ⟨[x], m6⟩) → K (pv p) σ' := fun q => h2 _ (if_neg q)
      rw [bindIs_one]
      dsimp only [r_lit, r_var, r_bin, r_neg, r_not, r_list, r_tup, r_cmp, r_band, r_bor, r_idx, r_slc, r_attr, r_bi, r_call, r_me, r_imeth, r_comp, r_es0, r_es1, r_ch1, r_bo1, r_bo2, r_tnot, r_tband, r_tbor, r_tcmp, r_tvar, r_tcall, r_tme, r_tidx, r_tbi, r_ts0, r_ts1, r_tgs0, r_tgs1, r_sexpr, r_sassign, r_saug, r_sdel, r_sife, r_swhl, r_sfr, r_sret, r_ss0, r_ss1, tg_var, tg_tup, tg_idx, tg_slc, bin_add, bin_sub, bin_mul, bin_div, bin_mod, bin_cat, cmp_eqi, cmp_eqs, cmp_nei, cmp_nes, cmp_lt, cmp_le, cmp_gt, cmp_ge, cmp_isn, cmp_ist, cmp_notn, cmp_nott, tr_none, tr_bool, tr_int, tr_str, tr_tup, ix_str, ix_tup, sl_ii, sl_in, sl_ni, bi_lens, bi_lent, bi_min, bi_max, bi_rng, bi_rng2, me_find, me_find2, ok_find, me_app, ok_app, me_ins, me_pop, me_join, me_ends, me_starts, ok_ins, ok_pop, ok_join, ok_ends, ok_starts, it_str, it_rng, neg_int, aug_addi, aug_adds, aug_subi, St.set, St.setAll, List.map_cons, List.map_nil, List.replicate, List.cons_append, List.nil_append, List.getElem?_cons_succ, List.getElem?_cons_zero, List.set_cons_succ, List.set_cons_zero, List.length_cons, List.length_nil, dreduceIte, retV]
      refine ix_snd ?_
      dsimp only [r_lit, r_var, r_bin, r_neg, r_not, r_list, r_tup, r_cmp, r_band, r_bor, r_idx, r_slc, r_attr, r_bi, r_call, r_me, r_imeth, r_comp, r_es0, r_es1, r_ch1, r_bo1, r_bo2, r_tnot, r_tband, r_tbor, r_tcmp, r_tvar, r_tcall, r_tme, r_tidx, r_tbi, r_ts0, r_ts1, r_tgs0, r_tgs1, r_sexpr, r_sassign, r_saug, r_sdel, r_sife, r_swhl, r_sfr, r_sret, r_ss0, r_ss1, tg_var, tg_tup, tg_idx, tg_slc, bin_add, bin_sub, bin_mul, bin_div, bin_mod, bin_cat, cmp_eqi, cmp_eqs, cmp_nei, cmp_nes, cmp_lt, cmp_le, cmp_gt, cmp_ge, cmp_isn, cmp_ist, cmp_notn, cmp_nott, tr_none, tr_bool, tr_int, tr_str, tr_tup, ix_str, ix_tup, sl_ii, sl_in, sl_ni, bi_lens, bi_lent, bi_min, bi_max, bi_rng, bi_rng2, me_find, me_find2, ok_find, me_app, ok_app, me_ins, me_pop, me_join, me_ends, me_starts, ok_ins, ok_pop, ok_join, ok_ends, ok_starts, it_str, it_rng, neg_int, aug_addi, aug_adds, aug_subi, St.set, St.setAll, List.map_cons, List.map_nil, List.replicate, List.cons_append, List.nil_append, List.getElem?_cons_succ, List.getElem?_cons_zero, List.set_cons_succ, List.set_cons_zero, List.length_cons, List.length_nil, dreduceIte, retV]
      by_cases q : p.2 = []
      · rw [decide_eq_true q]; exact g1 q _ ⟨_, rfl⟩
      · rw [decide_eq_false q]; exact g2 q _ ⟨_, rfl⟩
    · rintro _ ⟨x, rfl⟩ w hw
      dsimp only [r_lit, r_var, r_bin, r_neg, r_not, r_list, r_tup, r_cmp, r_band, r_bor, r_idx, r_slc, r_attr, r_bi, r_call, r_me, r_imeth, r_comp, r_es0, r_es1, r_ch1, r_bo1, r_bo2, r_tnot, r_tband, r_tbor, r_tcmp, r_tvar, r_tcall, r_tme, r_tidx, r_tbi, r_ts0, r_ts1, r_tgs0, r_tgs1, r_sexpr, r_sassign, r_saug, r_sdel, r_sife, r_swhl, r_sfr, r_sret, r_ss0, r_ss1, tg_var, tg_tup, tg_idx, tg_slc, bin_add, bin_sub, bin_mul, bin_div, bin_mod, bin_cat, cmp_eqi, cmp_eqs, cmp_nei, cmp_nes, cmp_lt, cmp_le, cmp_gt, cmp_ge, cmp_isn, cmp_ist, cmp_notn, cmp_nott, tr_none, tr_bool, tr_int, tr_str, tr_tup, ix_str, ix_tup, sl_ii, sl_in, sl_ni, bi_lens, bi_lent, bi_min, bi_max, bi_rng, bi_rng2, me_find, me_find2, ok_find, me_app, ok_app, me_ins, me_pop, me_join, me_ends, me_starts, ok_ins, ok_pop, ok_join, ok_ends, ok_starts, it_str, it_rng, neg_int, aug_addi, aug_adds, aug_subi, St.set, St.setAll, List.map_cons, List.map_nil, List.replicate, List.cons_append, List.nil_append, List.getElem?_cons_succ, List.getElem?_cons_zero, List.set_cons_succ, List.set_cons_zero, List.length_cons, List.length_nil, dreduceIte, retV]
      refine r9 _ _ (h _ w (g5.trans (.new hw _)) ?_)
      show upd m6 w _ w = _
      rw [upd_self, ne_list, ← hX]; rfl)
  dsimp only [r_lit, r_var, r_bin, r_neg, r_not, r_list, r_tup, r_cmp, r_band, r_bor, r_idx, r_slc, r_attr, r_bi, r_call, r_me, r_imeth, r_comp, r_es0, r_es1, r_ch1, r_bo1, r_bo2, r_tnot, r_tband, r_tbor, r_tcmp, r_tvar, r_tcall, r_tme, r_tidx, r_tbi, r_ts0, r_ts1, r_tgs0, r_tgs1, r_sexpr, r_sassign, r_saug, r_sdel, r_sife, r_swhl, r_sfr, r_sret, r_ss0, r_ss1, tg_var, tg_tup, tg_idx, tg_slc, bin_add, bin_sub, bin_mul, bin_div, bin_mod, bin_cat, cmp_eqi, cmp_eqs, cmp_nei, cmp_nes, cmp_lt, cmp_le, cmp_gt, cmp_ge, cmp_isn, cmp_ist, cmp_notn, cmp_nott, tr_none, tr_bool, tr_int, tr_str, tr_tup, ix_str, ix_tup, sl_ii, sl_in, sl_ni, bi_lens, bi_lent, bi_min, bi_max, bi_rng, bi_rng2, me_find, me_find2, ok_find, me_app, ok_app, me_ins, me_pop, me_join, me_ends, me_starts, ok_ins, ok_pop, ok_join, ok_ends, ok_starts, it_str, it_rng, neg_int, aug_addi, aug_adds, aug_subi, St.set, St.setAll, List.map_cons, List.map_nil, List.replicate, List.cons_append, List.nil_append, List.getElem?_cons_succ, List.getElem?_cons_zero, List.set_cons_succ, List.set_cons_zero, List.length_cons, List.length_nil, dreduceIte, retV]
  cases ins with
  | true =>
    refine kt _ (ss_next fun Q5 n5 => app_last rfl T2.ha ?_ (n5 _ (ss_nil (rest _ ?_))))
    · have := congrArg List.length (i1 rfl)
      simp [kL] at this z2
      unfold small; omega
    · rw [← i1 rfl]; exact T2.setA
  | false =>
    refine kf _ (ss_nil (rest _ ?_))
    rw [← i2 rfl]; exact T2
end
end Mine
set_option autoImplicit false
set_option maxRecDepth 10000
set_option linter.unusedVariables false
set_option linter.unusedSimpArgs false
namespace Mine
open PySem PyProof.Rows PySem.W

noncomputable def m_initPs : List PySem.Str := ["self"]
noncomputable def m_initRest : List PySem.Str := []
noncomputable def m_initNames : List (PySem.Str × NameKind) := []
noncomputable def m_initCells : List PySem.Str := []
noncomputable def m_initBody : List Sm := [
    .assign [.attr (.var 0) "Diff_Timeout"] (.lit (.flt 4607182418800017408)),
    .assign [.attr (.var 0) "Diff_EditCost"] (.lit (.int 4)),
    .assign [.attr (.var 0) "Match_Threshold"] (.lit (.flt 4602678819172646912)),
    .assign [.attr (.var 0) "Match_Distance"] (.lit (.int 1000)),
    .assign [.attr (.var 0) "Patch_DeleteThreshold"] (.lit (.flt 4602678819172646912)),
    .assign [.attr (.var 0) "Patch_Margin"] (.lit (.int 4)),
    .assign [.attr (.var 0) "Match_MaxBits"] (.lit (.int 32))]
noncomputable def f_lawPs : List PySem.Str := ["script"]
noncomputable def f_lawRest : List PySem.Str := ["row", "first", "second", "tool", "mixed", "parts", "turn", "plain", "fell", "cleaned", "slides", "alike", "again", "saved"]
noncomputable def f_lawNames : List (PySem.Str × NameKind) := [("_law_side", .globalImplicit), ("diff_match_patch", .globalImplicit), ("list", .globalImplicit), ("_law_grouped", .globalImplicit), ("range", .globalImplicit), ("_law_plain", .globalImplicit), ("_law_slides", .globalImplicit), ("len", .globalImplicit), ("_law_turned", .globalImplicit)]
noncomputable def f_lawCells : List PySem.Str := ["cleaned"]
noncomputable def f_lawB1 : List Sm := [
    .assign [.var 13] (.bi .list [.var 10]),
    .expr (.imeth (.var 4) "diff_cleanupMerge" [.var 13]),
    .ife (.bor [.cmp (.var 13) [.NotEq] [.var 10], .call "_law_slides" [.var 10]]) [
      .ret (.lit (.bool false))] []]
noncomputable def f_lawB2 : List Sm := [
    .assign [.tup [8, 9]] (.call "_law_plain" [.var 6]),
    .assign [.var 10] (.bi .list [.var 6]),
    .expr (.imeth (.var 4) "diff_cleanupMerge" [.var 10]),
    .ife (.bor [.cmp (.call "_law_side" [.var 10, .neg (.lit (.int 1))]) [.NotEq] [.var 2], .cmp (.call "_law_side" [.var 10, .lit (.int 1)]) [.NotEq] [.var 3]]) [
      .ret (.lit (.bool false))] [],
    .ife (.bor [.not (.call "_law_grouped" [.var 10]), .cmp (.lit (.str [])) [.In] [.comp (.var 1) false [0, 1] (.var 10) [] 2 []]]) [
      .ret (.lit (.bool false))] [],
    .assign [.var 11] (.call "_law_slides" [.var 8]),
    .ife (.band [.not (.var 9), .not (.var 11), .cmp (.var 10) [.NotEq] [.var 8]]) [
      .ret (.lit (.bool false))] [],
    .assign [.var 12] (.comp (.var 0) true [0] (.bi .range [.lit (.int 1), .bi .len [.var 10]]) [.cmp (.idx (.idx (.var 1) (.var 0)) (.lit (.int 0))) [.Eq] [.idx (.idx (.var 1) (.bin .Sub (.var 0) (.lit (.int 1)))) (.lit (.int 0))]] 1 [10]),
    .ife (.cmp (.var 12) [.Eq] [.list []]) f_lawB1 [],
    .assign [.var 14] (.bin .Sub (.call "_law_turned" [.var 8]) (.call "_law_turned" [.var 10])),
    .ife (.cmp (.var 14) [.Lt] [.lit (.int 0)]) [
      .ret (.lit (.bool false))] [],
    .ife (.band [.cmp (.var 14) [.Eq] [.lit (.int 0)], .cmp (.call "_law_side" [.var 10, .lit (.int 0)]) [.NotEq] [.call "_law_side" [.var 8, .lit (.int 0)]]]) [
      .ret (.lit (.bool false))] [],
    .ife (.band [.not (.var 9), .cmp (.var 14) [.Eq] [.lit (.int 0)]]) [
      .ret (.band [.cmp (.var 12) [.Eq] [.list []], .bor [.not (.var 11), .cmp (.bi .len [.var 10]) [.Lt] [.bi .len [.var 8]]]])] [],
    .assign [.var 6] (.var 10)]
noncomputable def f_lawBody : List Sm := [
    .assign [.var 1] (.comp (.tup [.bin .Sub (.bin .Mod (.var 0) (.lit (.int 3))) (.lit (.int 1)), .idx (.call "_law_TEXTS" []) (.bin .Mod (.bin .FloorDiv (.var 0) (.lit (.int 3))) (.lit (.int 15)))]) true [0] (.slc (.var 0) (.lit .none) (.lit (.int 12)) (.lit .none)) [] 1 []),
    .assign [.tup [2, 3]] (.tup [.call "_law_side" [.var 1, .neg (.lit (.int 1))], .call "_law_side" [.var 1, .lit (.int 1)]]),
    .assign [.var 4] (.call "diff_match_patch" []),
    .assign [.var 5] (.bi .list [.var 1]),
    .expr (.imeth (.var 4) "diff_cleanupMerge" [.var 5]),
    .ife (.bor [.cmp (.call "_law_side" [.var 5, .neg (.lit (.int 1))]) [.NotEq] [.var 2], .cmp (.call "_law_side" [.var 5, .lit (.int 1)]) [.NotEq] [.var 3], .not (.call "_law_grouped" [.var 5])]) [
      .ret (.lit (.bool false))] [],
    .assign [.var 6] (.comp (.var 0) true [0] (.var 1) [.cmp (.idx (.var 0) (.lit (.int 1))) [.NotEq] [.lit (.str [])]] 1 []),
    .fr (.var 7) (.bi .range [.lit (.int 2)]) f_lawB2,
    .ret (.lit (.bool false))]


noncomputable def toolFs : List (PySem.Str × V) := [("Diff_Timeout", .flt 4607182418800017408), ("Diff_EditCost", .int 4), ("Match_Threshold", .flt 4602678819172646912), ("Match_Distance", .int 1000), ("Patch_DeleteThreshold", .flt 4602678819172646912), ("Patch_Margin", .int 4), ("Match_MaxBits", .int 32)]
theorem setF_new {n : String} {v : V} : ∀ {fs : List (PySem.Str × V)}, (fs.map (·.1)).contains (PySem.Str.ofString n) = false → setF n v fs = fs ++ [(PySem.Str.ofString n, v)]
  | [], _ => rfl
  | (x, u) :: r, h => by
    simp only [List.map_cons, List.contains_cons, Bool.or_eq_false_iff, beq_eq_false_iff_ne] at h
    unfold setF
    rw [if_neg (Ne.symm h.1), setF_new h.2]; rfl
theorem lookF_none {n : String} : ∀ {fs : List (PySem.Str × V)}, (fs.map (·.1)).contains (PySem.Str.ofString n) = false → lookF n fs = none
  | [], _ => rfl
  | (x, u) :: r, h => by
    simp only [List.map_cons, List.contains_cons, Bool.or_eq_false_iff, beq_eq_false_iff_ne] at h
    unfold lookF
    rw [if_neg (Ne.symm h.1), lookF_none h.2]
noncomputable def toolNames : List PySem.Str := ["Diff_Timeout", "Diff_EditCost", "Match_Threshold", "Match_Distance", "Patch_DeleteThreshold", "Patch_Margin", "Match_MaxBits"]
theorem tool_names : toolFs.map (·.1) = toolNames := rfl
theorem no_names : ∀ n ∈ ["DIFF_DELETE", "DIFF_INSERT", "DIFF_EQUAL", "diff_commonPrefix", "diff_commonSuffix", "diff_cleanupMerge"], toolNames.contains (PySem.Str.ofString n) = false := by decide +kernel
theorem tool_no (n : String) (h : noFld n = true) : lookF n toolFs = none := lookF_none (by rw [tool_names]; exact no_names n (List.contains_iff_mem.mp h))
theorem tg_attr {P : PC} {σ : St} {o : Ex} {n : String} {v : V} {Q : St → Prop} : wpTg P (.attr o n) v Q σ = wpE P o (fun ov σ₁ => ∃ a d fs, ov = .obj a ∧ σ₁.mem a = some (.inst P.cls d) ∧ σ₁.mem d = some (.dict fs) ∧ fs.length ≤ 100 ∧ P.fld n = true ∧
      Q { σ₁ with mem := upd σ₁.mem d (.dict (setF n v fs)) }) σ := rfl
theorem fld_ok (cls : Addr) (n : String) (h : ["Diff_Timeout", "Diff_EditCost", "Match_Threshold", "Match_Distance", "Patch_DeleteThreshold", "Patch_Margin", "Match_MaxBits"].contains n = true) : (pcOf cls).fld n = true := h
theorem w_init (cls t d : Addr) (m : Mem) (hI : m t = some (.inst cls d)) (hD : m d = some (.dict [])) (Q : V → Mem → Prop) (q : ∀ m', m' t = some (.inst cls d) → m' d = some (.dict toolFs) → (∀ a o, a ≠ d → m a = some o → m' a = some o) → Q .none m') :
    wpSs (pcOf cls) m_initBody (fun fl σ' => Q (retV fl) σ'.mem) ⟨[V.obj t].map some ++ List.replicate 0 none, m⟩ := by
  have hne : t ≠ d := fun e => by subst e; rw [hI] at hD; cases hD
  have one : ∀ (n : String) (v : V) (k : Nat) (m : Mem) (ss : List Sm) (Q : Fl → St → Prop), m t = some (.inst cls d) → m d = some (.dict (toolFs.take k)) → (pcOf cls).fld n = true → setF n v (toolFs.take k) = toolFs.take (k + 1) →
      (∀ m', m' = upd m d (.dict (toolFs.take (k + 1))) → m' t = some (.inst cls d) → m' d = some (.dict (toolFs.take (k + 1))) → wpSs (pcOf cls) ss Q ⟨[some (.obj t)], m'⟩) → wpSs (pcOf cls) (.assign [.attr (.var 0) n] (.lit v) :: ss) Q ⟨[some (.obj t)], m⟩ := fun n v k m ss Q h1 h2 h3 h4 h5 => by
    refine ss_next fun Q1 n1 => ?_
    dsimp only [r_lit, r_var, r_bin, r_neg, r_not, r_list, r_tup, r_cmp, r_band, r_bor, r_idx, r_slc, r_attr, r_bi, r_call, r_me, r_imeth, r_comp, r_es0, r_es1, r_ch1, r_bo1, r_bo2, r_tnot, r_tband, r_tbor, r_tcmp, r_tvar, r_tcall, r_tme, r_tidx, r_tbi, r_ts0, r_ts1, r_tgs0, r_tgs1, r_sexpr, r_sassign, r_saug, r_sdel, r_sife, r_swhl, r_sfr, r_sret, r_ss0, r_ss1, tg_var, tg_tup, tg_idx, tg_slc, bin_add, bin_sub, bin_mul, bin_div, bin_mod, bin_cat, cmp_eqi, cmp_eqs, cmp_nei, cmp_nes, cmp_lt, cmp_le, cmp_gt, cmp_ge, cmp_isn, cmp_ist, cmp_notn, cmp_nott, tr_none, tr_bool, tr_int, tr_str, tr_tup, ix_str, ix_tup, sl_ii, sl_in, sl_ni, bi_lens, bi_lent, bi_min, bi_max, bi_rng, bi_rng2, me_find, me_find2, ok_find, me_app, ok_app, me_ins, me_pop, me_join, me_ends, me_starts, ok_ins, ok_pop, ok_join, ok_ends, ok_starts, it_str, it_rng, neg_int, aug_addi, aug_adds, aug_subi, St.set, St.setAll, List.map_cons, List.map_nil, List.replicate, List.cons_append, List.nil_append, List.getElem?_cons_succ, List.getElem?_cons_zero, List.set_cons_succ, List.set_cons_zero, List.length_cons, List.length_nil, dreduceIte, retV, tg_attr]
    refine ⟨t, d, _, rfl, h1, h2, by simp [toolFs]; omega, h3, n1 _ ?_⟩
    rw [h4]
    exact h5 _ rfl (by rw [upd_ne _ _ hne]; exact h1) (upd_self _ _ _)
  unfold m_initBody
  refine one _ _ 0 m _ _ hI hD (fld_ok _ _ (by decide +kernel)) rfl fun m1 e1 i1 d1 => ?_
  refine one _ _ 1 m1 _ _ i1 d1 (fld_ok _ _ (by decide +kernel)) (by rw [setF_new (by decide +kernel)]; rfl) fun m2 e2 i2 d2 => ?_
  refine one _ _ 2 m2 _ _ i2 d2 (fld_ok _ _ (by decide +kernel)) (by rw [setF_new (by decide +kernel)]; rfl) fun m3 e3 i3 d3 => ?_
  refine one _ _ 3 m3 _ _ i3 d3 (fld_ok _ _ (by decide +kernel)) (by rw [setF_new (by decide +kernel)]; rfl) fun m4 e4 i4 d4 => ?_
  refine one _ _ 4 m4 _ _ i4 d4 (fld_ok _ _ (by decide +kernel)) (by rw [setF_new (by decide +kernel)]; rfl) fun m5 e5 i5 d5 => ?_
  refine one _ _ 5 m5 _ _ i5 d5 (fld_ok _ _ (by decide +kernel)) (by rw [setF_new (by decide +kernel)]; rfl) fun m6 e6 i6 d6 => ?_
  refine one _ _ 6 m6 _ _ i6 d6 (fld_ok _ _ (by decide +kernel)) (by rw [setF_new (by decide +kernel)]; rfl) fun m7 e7 i7 d7 => ?_
  refine ss_nil (q m7 i7 d7 fun a o ha h => ?_)
  rw [e7, upd_ne _ _ ha, e6, upd_ne _ _ ha, e5, upd_ne _ _ ha, e4, upd_ne _ _ ha, e3, upd_ne _ _ ha, e2, upd_ne _ _ ha, e1, upd_ne _ _ ha]; exact h

/-- what the law's text calls -/
noncomputable def lawCall (cls : Addr) (f : String) (vs : List V) (Q : V → Mem → Prop) (m : Mem) : Prop :=
  (f = "_law_TEXTS" ∧ vs = [] ∧ ∀ m' a, Gr m m' → m' a = some (.list (texts.map V.str)) → Q (.obj a) m') ∨
  (f = "_law_side" ∧ ∃ d k r, vs = [.obj d, .int k] ∧ m d = some (.list (rv r)) ∧ phi r ≤ 800 ∧ ∀ m', Gr m m' → Q (.str (side k r)) m') ∨
  (f = "_law_plain" ∧ ∃ d r, vs = [.obj d] ∧ m d = some (.list (rv r)) ∧ Kinds r ∧ phi r ≤ 800 ∧ ∀ m' a, Gr m m' → m' a = some (.list (rv (plainR r))) → Q (.tup [.obj a, .bool (fell r)]) m') ∨
  (f = "_law_slides" ∧ ∃ d r, vs = [.obj d] ∧ m d = some (.list (rv r)) ∧ NE r ∧ phi r ≤ 800 ∧ ∀ b, (b = true ↔ ¬ noSl r) → Q (.bool b) m) ∨
  (f = "_law_turned" ∧ ∃ d r, vs = [.obj d] ∧ m d = some (.list (rv r)) ∧ phi r ≤ 800 ∧ ∀ m', Gr m m' → Q (.int (turned r)) m') ∨
  (f = "_law_grouped" ∧ ∃ d r, vs = [.obj d] ∧ m d = some (.list (rv r)) ∧ adj gp r ∧ phi r ≤ 800 ∧ Q (.bool true) m) ∨
  (f = "diff_match_patch" ∧ vs = [] ∧ ∀ t m', Gr m m' → Tool (pcOf cls) m' t → Q (.obj t) m')
noncomputable def pcL (cls : Addr) : PC := { pcOf cls with call := lawCall cls, meth := cmMeth cls 100 }
section
variable {cls : Addr} {m : Mem} {Q : V → Mem → Prop} {d : Addr} {r : Row} {k : Int}
theorem l_texts (h : ∀ m' a, Gr m m' → m' a = some (.list (texts.map V.str)) → Q (.obj a) m') : (pcL cls).call "_law_TEXTS" [] Q m := .inl ⟨rfl, rfl, h⟩
theorem l_side (hm : m d = some (.list (rv r))) (hφ : phi r ≤ 800) (h : ∀ m', Gr m m' → Q (.str (side k r)) m') : (pcL cls).call "_law_side" [.obj d, .int k] Q m := .inr (.inl ⟨rfl, d, k, r, rfl, hm, hφ, h⟩)
theorem l_plain (hm : m d = some (.list (rv r))) (hK : Kinds r) (hφ : phi r ≤ 800) (h : ∀ m' a, Gr m m' → m' a = some (.list (rv (plainR r))) → Q (.tup [.obj a, .bool (fell r)]) m') : (pcL cls).call "_law_plain" [.obj d] Q m := .inr (.inr (.inl ⟨rfl, d, r, rfl, hm, hK, hφ, h⟩))
theorem l_slides (hm : m d = some (.list (rv r))) (hN : NE r) (hφ : phi r ≤ 800) (h : ∀ b, (b = true ↔ ¬ noSl r) → Q (.bool b) m) : (pcL cls).call "_law_slides" [.obj d] Q m := .inr (.inr (.inr (.inl ⟨rfl, d, r, rfl, hm, hN, hφ, h⟩)))
theorem l_turned (hm : m d = some (.list (rv r))) (hφ : phi r ≤ 800) (h : ∀ m', Gr m m' → Q (.int (turned r)) m') : (pcL cls).call "_law_turned" [.obj d] Q m := .inr (.inr (.inr (.inr (.inl ⟨rfl, d, r, rfl, hm, hφ, h⟩))))
theorem l_grouped (hm : m d = some (.list (rv r))) (hG : adj gp r) (hφ : phi r ≤ 800) (h : Q (.bool true) m) : (pcL cls).call "_law_grouped" [.obj d] Q m := .inr (.inr (.inr (.inr (.inr (.inl ⟨rfl, d, r, rfl, hm, hG, hφ, h⟩)))))
theorem l_tool (h : ∀ t m', Gr m m' → Tool (pcOf cls) m' t → Q (.obj t) m') : (pcL cls).call "diff_match_patch" [] Q m := .inr (.inr (.inr (.inr (.inr (.inr ⟨rfl, rfl, h⟩)))))
theorem l_clean {t : Addr} (hT : Tool (pcOf cls) m t) (hm : m d = some (.list (rv r))) (hK : Kinds r) (hφ : phi r < 100) (h : ∀ m', m' d = some (.list (rv (cleanN 100 r))) → Ext d m m' → Q .none m') : (pcL cls).meth "diff_cleanupMerge" [.obj t, .obj d] Q m :=
  .inr (.inr ⟨rfl, t, d, r, rfl, hT, hm, hK, hφ, by omega, h⟩)
end
theorem Tool.gr {P : PC} {m m' : Mem} {t : Addr} (h : Tool P m t) (g : Gr m m') : Tool P m' t := by
  obtain ⟨dd, fs, h1, h2, h3⟩ := h
  exact ⟨dd, fs, g _ _ h1, g _ _ h2, h3⟩

/-- rows as data -/
noncomputable def pd (p : Part) : PyData := .tuple [.int p.1, .str (mkS p.2)]
theorem rd_row {m : Mem} {a : Addr} {r : Row} (h : m a = some (.list (rv r))) : rd 8 m (.obj a) = some (.list (r.map pd)) := by
  have e : ∀ ys : Row, (rv ys).mapM (rd 7 m) = some (ys.map pd) := fun ys => by
    induction ys with
    | nil => rfl
    | cons y ys ih =>
      show ((pv y) :: rv ys).mapM (rd 7 m) = _
      rw [List.mapM_cons, ih]; rfl
  rw [rd_obj h, e]; rfl
theorem eqv_row (r : Row) : PyData.eqv (.list (r.map pd)) (.list (r.map pd)) = true := by
  show PyData.eqvAll _ _ = true
  induction r with
  | nil => rfl
  | cons p r ih =>
    rw [List.map_cons]
    show (PyData.eqv (pd p) (pd p) && PyData.eqvAll (r.map pd) (r.map pd)) = true
    rw [ih, Bool.and_true]
    show (decide ((p.1 : Int) = p.1) && (mkS p.2 == mkS p.2 && true)) = true
    simp
theorem rd_ints {m : Mem} {a : Addr} {ns : List Int} (h : m a = some (.list (ns.map V.int))) : rd 8 m (.obj a) = some (.list (ns.map PyData.int)) := by
  have e : ∀ ys : List Int, (ys.map V.int).mapM (rd 7 m) = some (ys.map PyData.int) := fun ys => by
    induction ys with
    | nil => rfl
    | cons y ys ih => rw [List.map_cons, List.mapM_cons, ih]; rfl
  rw [rd_obj h, e]; rfl
theorem eqv_nil (ns : List Int) : PyData.eqv (.list (ns.map PyData.int)) (.list []) = decide (ns = []) := by
  cases ns with
  | nil => rfl
  | cons n ns => rfl
theorem rd_texts {m : Mem} (xs : List Tx) : (xs.map V.str).mapM (rd 7 m) = some (xs.map fun x => .str (mkS x)) := by
  induction xs with
  | nil => rfl
  | cons y ys ih => rw [List.map_cons, List.mapM_cons, ih]; rfl
theorem no_empty {r : Row} (h : NE r) : ((r.map (·.2)).map fun x => PyData.str (mkS x)).any (fun e => PyData.eqv e (.str (mkS []))) = false := by
  rw [List.any_eq_false]
  intro e he
  rw [List.mem_map] at he
  obtain ⟨x, hx, rfl⟩ := he
  rw [List.mem_map] at hx
  obtain ⟨p, hp, rfl⟩ := hx
  show ¬ (mkS p.2 == mkS []) = true
  rw [beq_iff_eq]
  exact fun q => h p hp (mkS_inj q)
end Mine
set_option autoImplicit false
set_option maxRecDepth 10000
set_option linter.unusedVariables false
set_option linter.unusedSimpArgs false
namespace Mine
open PySem PyProof.Rows PySem.W

theorem bi_lsto {m : Mem} {a : Addr} {Q : V → Mem → Prop} : wpBi m .list [.obj a] Q = (∃ vs, m a = some (.list vs) ∧ small vs.length ∧ ∀ c, m c = none → Q (.obj c) (upd m c (.list vs))) := rfl
theorem cmp_ino {m : Mem} {v : V} {l : Addr} {Q : Bool → Prop} : wpCmp m .In v (.obj l) Q = (∃ vs d ds, m l = some (.list vs) ∧ small vs.length ∧ rd 7 m v = some d ∧ vs.mapM (rd 7 m) = some ds ∧ Q (ds.any fun e => PyData.eqv e d)) := rfl
theorem adj_idx {R : Part → Part → Prop} : ∀ {r : Row}, adj R r ↔ ∀ (j : Nat) a b, r[j]? = some a → r[j + 1]? = some b → R a b
  | [] => ⟨fun _ j a b h _ => by simp at h, fun _ => trivial⟩
  | [p] => ⟨fun _ j a b h h2 => by simp at h2, fun _ => trivial⟩
  | p :: q :: r => by
    have ih := adj_idx (R := R) (r := q :: r)
    constructor
    · rintro ⟨h1, h2⟩ j a b ha hb
      cases j with
      | zero => simp at ha hb; subst ha; subst hb; exact h1
      | succ j => exact ih.mp h2 j a b (by simpa using ha) (by simpa using hb)
    · intro h
      exact ⟨h 0 p q rfl rfl, ih.mpr fun j a b ha hb => h (j + 1) a b (by simpa using ha) (by simpa using hb)⟩
/-- places alike with the one before -/
noncomputable def alk (C : Row) (j : Nat) : Option Int := if (C[j]?.map (·.1)) = (C[j - 1]?.map (·.1)) then some (j : Int) else none
noncomputable def alks (C : Row) : List Int := (List.range' 1 (C.length - 1)).filterMap (alk C)
theorem alks_nil {C : Row} : alks C = [] ↔ adj kd C := by
  unfold alks
  rw [adj_idx, List.filterMap_eq_nil_iff]
  constructor
  · intro h j a b ha hb e
    obtain ⟨hj, _⟩ := List.getElem?_eq_some_iff.mp hb
    have := h (j + 1) (by rw [List.mem_range'_1]; omega)
    unfold alk at this
    rw [Nat.add_sub_cancel, ha, hb, if_pos (by show some b.1 = some a.1; rw [e])] at this
    cases this
  · intro h j hj
    rw [List.mem_range'_1] at hj
    unfold alk
    refine if_neg fun e => ?_
    obtain ⟨b, hb⟩ : ∃ b, C[j]? = some b := ⟨_, List.getElem?_eq_getElem (by omega)⟩
    obtain ⟨a, ha⟩ : ∃ a, C[j - 1]? = some a := ⟨_, List.getElem?_eq_getElem (by omega)⟩
    rw [ha, hb] at e
    have e2 : b.1 = a.1 := by simpa using e
    exact h (j - 1) a b ha (by rw [Nat.sub_add_cancel hj.1]; exact hb) e2.symm

/-- what stands in a turn -/
structure LW (cls sc : Addr) (oS : Obj) (LS : List V) (t a8 : Addr) (R : Row) (c : Addr) (C : Row) (m : Mem) : Prop where
  T : Tool (pcOf cls) m t
  S : m sc = some (.ro oS LS)
  r : m a8 = some (.list (rv R))
  c : m c = some (.list (rv C))
theorem LW.gr {cls sc : Addr} {oS : Obj} {LS : List V} {t a8 : Addr} {R : Row} {c : Addr} {C : Row} {m m' : Mem} (w : LW cls sc oS LS t a8 R c C m) (g : Gr m m') : LW cls sc oS LS t a8 R c C m' :=
  ⟨w.T.gr g, g _ _ w.S, g _ _ w.r, g _ _ w.c⟩

section
variable {cls sc t a8 c a12 : Addr} {oS : Obj} {LS : List V} {Q : Fl → St → Prop} {m : Mem} {x1 x2 x3 x5 x6 x7 x11 x12 x13 x14 : Option V} {fl sl : Bool} {R C : Row} {first second : Tx}
noncomputable abbrev lwS (sc : Addr) (x1 x2 x3 : Option V) (t : Addr) (x5 x6 x7 x8 x9 x10 x11 x12 x13 x14 : Option V) (m : Mem) : St := ⟨[some (.obj sc), x1, x2, x3, some (.obj t), x5, x6, x7, x8, x9, x10, x11, x12, x13, x14], m⟩
/-- the turn's last part -/
theorem law_end {ns : List Int} (w : LW cls sc oS LS t a8 R c C m) (h12 : m a12 = some (.list (ns.map V.int))) (fR : phi R ≤ 100) (fC : phi C ≤ 100) (ht : turned C ≤ turned R) (hs0 : turned C = turned R → side 0 C = side 0 R)
    (hfin : fl = false → turned C = turned R → ns = [] ∧ (sl = true → C.length < R.length))
    (ret : ∀ σ' : St, σ'.mem sc = some (.ro oS LS) → Q (.ret (.bool true)) σ')
    (next : ¬ (fl = false ∧ turned C = turned R) → ∀ x14 m', LW cls sc oS LS t a8 R c C m' → Q .next (lwS sc x1 x2 x3 t x5 (some (.obj c)) x7 (some (.obj a8)) (some (.bool fl)) (some (.obj c)) (some (.bool sl)) (some (.obj a12)) x13 x14 m')) :
    wpSs (pcL cls) [.assign [.var 14] (.bin .Sub (.call "_law_turned" [.var 8]) (.call "_law_turned" [.var 10])),
      .ife (.cmp (.var 14) [.Lt] [.lit (.int 0)]) [.ret (.lit (.bool false))] [],
      .ife (.band [.cmp (.var 14) [.Eq] [.lit (.int 0)], .cmp (.call "_law_side" [.var 10, .lit (.int 0)]) [.NotEq] [.call "_law_side" [.var 8, .lit (.int 0)]]]) [.ret (.lit (.bool false))] [],
      .ife (.band [.not (.var 9), .cmp (.var 14) [.Eq] [.lit (.int 0)]]) [
        .ret (.band [.cmp (.var 12) [.Eq] [.list []], .bor [.not (.var 11), .cmp (.bi .len [.var 10]) [.Lt] [.bi .len [.var 8]]]])] [],
      .assign [.var 6] (.var 10)] Q (lwS sc x1 x2 x3 t x5 x6 x7 (some (.obj a8)) (some (.bool fl)) (some (.obj c)) (some (.bool sl)) (some (.obj a12)) x13 x14 m) := by
  have lR := len_le_phi R
  have lC := len_le_phi C
  refine ss_ret fun Q1 n1 r1 => ?_
  dsimp only [r_lit, r_var, r_bin, r_neg, r_not, r_list, r_tup, r_cmp, r_band, r_bor, r_idx, r_slc, r_attr, r_bi, r_call, r_me, r_imeth, r_comp, r_es0, r_es1, r_ch1, r_bo1, r_bo2, r_tnot, r_tband, r_tbor, r_tcmp, r_tvar, r_tcall, r_tme, r_tidx, r_tbi, r_ts0, r_ts1, r_tgs0, r_tgs1, r_sexpr, r_sassign, r_saug, r_sdel, r_sife, r_swhl, r_sfr, r_sret, r_ss0, r_ss1, tg_var, tg_tup, tg_idx, tg_slc, bin_add, bin_sub, bin_mul, bin_div, bin_mod, bin_cat, cmp_eqi, cmp_eqs, cmp_nei, cmp_nes, cmp_lt, cmp_le, cmp_gt, cmp_ge, cmp_isn, cmp_ist, cmp_notn, cmp_nott, tr_none, tr_bool, tr_int, tr_str, tr_tup, ix_str, ix_tup, sl_ii, sl_in, sl_ni, bi_lens, bi_lent, bi_min, bi_max, bi_rng, bi_rng2, me_find, me_find2, ok_find, me_app, ok_app, me_ins, me_pop, me_join, me_ends, me_starts, ok_ins, ok_pop, ok_join, ok_ends, ok_starts, it_str, it_rng, neg_int, aug_addi, aug_adds, aug_subi, St.set, St.setAll, List.map_cons, List.map_nil, List.replicate, List.cons_append, List.nil_append, List.getElem?_cons_succ, List.getElem?_cons_zero, List.set_cons_succ, List.set_cons_zero, List.length_cons, List.length_nil, dreduceIte, retV]
  refine l_turned w.r (by omega) fun m1 g1 => l_turned (w.gr g1).c (by omega) fun m2 g2 => n1 _ (ss_ret fun Q2 n2 r2 => s_ife fun K2 kt2 kf2 => ?_)
  have w2 := (w.gr g1).gr g2
  have h12' := g2 _ _ (g1 _ _ h12)
  dsimp only [r_lit, r_var, r_bin, r_neg, r_not, r_list, r_tup, r_cmp, r_band, r_bor, r_idx, r_slc, r_attr, r_bi, r_call, r_me, r_imeth, r_comp, r_es0, r_es1, r_ch1, r_bo1, r_bo2, r_tnot, r_tband, r_tbor, r_tcmp, r_tvar, r_tcall, r_tme, r_tidx, r_tbi, r_ts0, r_ts1, r_tgs0, r_tgs1, r_sexpr, r_sassign, r_saug, r_sdel, r_sife, r_swhl, r_sfr, r_sret, r_ss0, r_ss1, tg_var, tg_tup, tg_idx, tg_slc, bin_add, bin_sub, bin_mul, bin_div, bin_mod, bin_cat, cmp_eqi, cmp_eqs, cmp_nei, cmp_nes, cmp_lt, cmp_le, cmp_gt, cmp_ge, cmp_isn, cmp_ist, cmp_notn, cmp_nott, tr_none, tr_bool, tr_int, tr_str, tr_tup, ix_str, ix_tup, sl_ii, sl_in, sl_ni, bi_lens, bi_lent, bi_min, bi_max, bi_rng, bi_rng2, me_find, me_find2, ok_find, me_app, ok_app, me_ins, me_pop, me_join, me_ends, me_starts, ok_ins, ok_pop, ok_join, ok_ends, ok_starts, it_str, it_rng, neg_int, aug_addi, aug_adds, aug_subi, St.set, St.setAll, List.map_cons, List.map_nil, List.replicate, List.cons_append, List.nil_append, List.getElem?_cons_succ, List.getElem?_cons_zero, List.set_cons_succ, List.set_cons_zero, List.length_cons, List.length_nil, dreduceIte, retV]
  rw [decide_eq_false (by omega)]
  refine kf2 _ (ss_nil (n2 _ (ss_ret fun Q3 n3 r3 => s_ife fun K3 kt3 kf3 => ?_)))
  dsimp only [r_lit, r_var, r_bin, r_neg, r_not, r_list, r_tup, r_cmp, r_band, r_bor, r_idx, r_slc, r_attr, r_bi, r_call, r_me, r_imeth, r_comp, r_es0, r_es1, r_ch1, r_bo1, r_bo2, r_tnot, r_tband, r_tbor, r_tcmp, r_tvar, r_tcall, r_tme, r_tidx, r_tbi, r_ts0, r_ts1, r_tgs0, r_tgs1, r_sexpr, r_sassign, r_saug, r_sdel, r_sife, r_swhl, r_sfr, r_sret, r_ss0, r_ss1, tg_var, tg_tup, tg_idx, tg_slc, bin_add, bin_sub, bin_mul, bin_div, bin_mod, bin_cat, cmp_eqi, cmp_eqs, cmp_nei, cmp_nes, cmp_lt, cmp_le, cmp_gt, cmp_ge, cmp_isn, cmp_ist, cmp_notn, cmp_nott, tr_none, tr_bool, tr_int, tr_str, tr_tup, ix_str, ix_tup, sl_ii, sl_in, sl_ni, bi_lens, bi_lent, bi_min, bi_max, bi_rng, bi_rng2, me_find, me_find2, ok_find, me_app, ok_app, me_ins, me_pop, me_join, me_ends, me_starts, ok_ins, ok_pop, ok_join, ok_ends, ok_starts, it_str, it_rng, neg_int, aug_addi, aug_adds, aug_subi, St.set, St.setAll, List.map_cons, List.map_nil, List.replicate, List.cons_append, List.nil_append, List.getElem?_cons_succ, List.getElem?_cons_zero, List.set_cons_succ, List.set_cons_zero, List.length_cons, List.length_nil, dreduceIte, retV]
  have tail : ∀ m3, Gr m2 m3 → wpSs (pcL cls) [.ife (.band [.not (.var 9), .cmp (.var 14) [.Eq] [.lit (.int 0)]]) [
        .ret (.band [.cmp (.var 12) [.Eq] [.list []], .bor [.not (.var 11), .cmp (.bi .len [.var 10]) [.Lt] [.bi .len [.var 8]]]])] [],
      .assign [.var 6] (.var 10)] Q (lwS sc x1 x2 x3 t x5 x6 x7 (some (.obj a8)) (some (.bool fl)) (some (.obj c)) (some (.bool sl)) (some (.obj a12)) x13 (some (.int ((turned R : Int) - (turned C : Int)))) m3) := fun m3 g3 => by
    have w3 := w2.gr g3
    have h12'' := g3 _ _ h12'
    have nx : ¬ (fl = false ∧ turned C = turned R) → wpSs (pcL cls) [.assign [.var 6] (.var 10)] Q (lwS sc x1 x2 x3 t x5 x6 x7 (some (.obj a8)) (some (.bool fl)) (some (.obj c)) (some (.bool sl)) (some (.obj a12)) x13 (some (.int ((turned R : Int) - (turned C : Int)))) m3) := fun q => by
      refine ss_next fun Q4 n4 => ?_
      dsimp only [r_lit, r_var, r_bin, r_neg, r_not, r_list, r_tup, r_cmp, r_band, r_bor, r_idx, r_slc, r_attr, r_bi, r_call, r_me, r_imeth, r_comp, r_es0, r_es1, r_ch1, r_bo1, r_bo2, r_tnot, r_tband, r_tbor, r_tcmp, r_tvar, r_tcall, r_tme, r_tidx, r_tbi, r_ts0, r_ts1, r_tgs0, r_tgs1, r_sexpr, r_sassign, r_saug, r_sdel, r_sife, r_swhl, r_sfr, r_sret, r_ss0, r_ss1, tg_var, tg_tup, tg_idx, tg_slc, bin_add, bin_sub, bin_mul, bin_div, bin_mod, bin_cat, cmp_eqi, cmp_eqs, cmp_nei, cmp_nes, cmp_lt, cmp_le, cmp_gt, cmp_ge, cmp_isn, cmp_ist, cmp_notn, cmp_nott, tr_none, tr_bool, tr_int, tr_str, tr_tup, ix_str, ix_tup, sl_ii, sl_in, sl_ni, bi_lens, bi_lent, bi_min, bi_max, bi_rng, bi_rng2, me_find, me_find2, ok_find, me_app, ok_app, me_ins, me_pop, me_join, me_ends, me_starts, ok_ins, ok_pop, ok_join, ok_ends, ok_starts, it_str, it_rng, neg_int, aug_addi, aug_adds, aug_subi, St.set, St.setAll, List.map_cons, List.map_nil, List.replicate, List.cons_append, List.nil_append, List.getElem?_cons_succ, List.getElem?_cons_zero, List.set_cons_succ, List.set_cons_zero, List.length_cons, List.length_nil, dreduceIte, retV]
      exact n4 _ (ss_nil (next q _ _ w3))
    refine ss_ret fun Q4 n4 r4 => s_ife fun K4 kt4 kf4 => ?_
    dsimp only [r_lit, r_var, r_bin, r_neg, r_not, r_list, r_tup, r_cmp, r_band, r_bor, r_idx, r_slc, r_attr, r_bi, r_call, r_me, r_imeth, r_comp, r_es0, r_es1, r_ch1, r_bo1, r_bo2, r_tnot, r_tband, r_tbor, r_tcmp, r_tvar, r_tcall, r_tme, r_tidx, r_tbi, r_ts0, r_ts1, r_tgs0, r_tgs1, r_sexpr, r_sassign, r_saug, r_sdel, r_sife, r_swhl, r_sfr, r_sret, r_ss0, r_ss1, tg_var, tg_tup, tg_idx, tg_slc, bin_add, bin_sub, bin_mul, bin_div, bin_mod, bin_cat, cmp_eqi, cmp_eqs, cmp_nei, cmp_nes, cmp_lt, cmp_le, cmp_gt, cmp_ge, cmp_isn, cmp_ist, cmp_notn, cmp_nott, tr_none, tr_bool, tr_int, tr_str, tr_tup, ix_str, ix_tup, sl_ii, sl_in, sl_ni, bi_lens, bi_lent, bi_min, bi_max, bi_rng, bi_rng2, me_find, me_find2, ok_find, me_app, ok_app, me_ins, me_pop, me_join, me_ends, me_starts, ok_ins, ok_pop, ok_join, ok_ends, ok_starts, it_str, it_rng, neg_int, aug_addi, aug_adds, aug_subi, St.set, St.setAll, List.map_cons, List.map_nil, List.replicate, List.cons_append, List.nil_append, List.getElem?_cons_succ, List.getElem?_cons_zero, List.set_cons_succ, List.set_cons_zero, List.length_cons, List.length_nil, dreduceIte, retV]
    cases hfl : fl with
    | true => exact kf4 _ (ss_nil (n4 _ (by rw [← hfl]; exact nx fun q => by rw [hfl] at q; cases q.1)))
    | false =>
      by_cases he : turned C = turned R
      · rw [Bool.not_false, if_pos rfl, decide_eq_true (show (turned R : Int) - (turned C : Int) = 0 by omega)]
        obtain ⟨hn, hl⟩ := hfin hfl he
        refine kt4 _ (ss_ret fun Q5 n5 r5 => ?_)
        dsimp only [r_lit, r_var, r_bin, r_neg, r_not, r_list, r_tup, r_cmp, r_band, r_bor, r_idx, r_slc, r_attr, r_bi, r_call, r_me, r_imeth, r_comp, r_es0, r_es1, r_ch1, r_bo1, r_bo2, r_tnot, r_tband, r_tbor, r_tcmp, r_tvar, r_tcall, r_tme, r_tidx, r_tbi, r_ts0, r_ts1, r_tgs0, r_tgs1, r_sexpr, r_sassign, r_saug, r_sdel, r_sife, r_swhl, r_sfr, r_sret, r_ss0, r_ss1, tg_var, tg_tup, tg_idx, tg_slc, bin_add, bin_sub, bin_mul, bin_div, bin_mod, bin_cat, cmp_eqi, cmp_eqs, cmp_nei, cmp_nes, cmp_lt, cmp_le, cmp_gt, cmp_ge, cmp_isn, cmp_ist, cmp_notn, cmp_nott, tr_none, tr_bool, tr_int, tr_str, tr_tup, ix_str, ix_tup, sl_ii, sl_in, sl_ni, bi_lens, bi_lent, bi_min, bi_max, bi_rng, bi_rng2, me_find, me_find2, ok_find, me_app, ok_app, me_ins, me_pop, me_join, me_ends, me_starts, ok_ins, ok_pop, ok_join, ok_ends, ok_starts, it_str, it_rng, neg_int, aug_addi, aug_adds, aug_subi, St.set, St.setAll, List.map_cons, List.map_nil, List.replicate, List.cons_append, List.nil_append, List.getElem?_cons_succ, List.getElem?_cons_zero, List.set_cons_succ, List.set_cons_zero, List.length_cons, List.length_nil, dreduceIte, retV]
        intro e hE
        have w4 := w3.gr (Gr.new hE (.list []))
        have h13 := Gr.new hE (.list []) _ _ h12''
        rw [cmp_eqo]
        refine ⟨_, _, rd_ints h13, rd_ints (ns := []) (upd_self _ _ _), ?_⟩
        rw [show ([] : List Int).map PyData.int = [] from rfl, eqv_nil, decide_eq_true hn]
        cases hsl : sl with
        | false => exact r5 _ _ (r4 _ _ (ret _ w4.S))
        | true =>
          rw [if_pos rfl, Bool.not_true, if_pos rfl]
          refine len_row w4.c (by unfold small; omega) ?_
          refine len_row w4.r (by unfold small; omega) ?_
          dsimp only [r_lit, r_var, r_bin, r_neg, r_not, r_list, r_tup, r_cmp, r_band, r_bor, r_idx, r_slc, r_attr, r_bi, r_call, r_me, r_imeth, r_comp, r_es0, r_es1, r_ch1, r_bo1, r_bo2, r_tnot, r_tband, r_tbor, r_tcmp, r_tvar, r_tcall, r_tme, r_tidx, r_tbi, r_ts0, r_ts1, r_tgs0, r_tgs1, r_sexpr, r_sassign, r_saug, r_sdel, r_sife, r_swhl, r_sfr, r_sret, r_ss0, r_ss1, tg_var, tg_tup, tg_idx, tg_slc, bin_add, bin_sub, bin_mul, bin_div, bin_mod, bin_cat, cmp_eqi, cmp_eqs, cmp_nei, cmp_nes, cmp_lt, cmp_le, cmp_gt, cmp_ge, cmp_isn, cmp_ist, cmp_notn, cmp_nott, tr_none, tr_bool, tr_int, tr_str, tr_tup, ix_str, ix_tup, sl_ii, sl_in, sl_ni, bi_lens, bi_lent, bi_min, bi_max, bi_rng, bi_rng2, me_find, me_find2, ok_find, me_app, ok_app, me_ins, me_pop, me_join, me_ends, me_starts, ok_ins, ok_pop, ok_join, ok_ends, ok_starts, it_str, it_rng, neg_int, aug_addi, aug_adds, aug_subi, St.set, St.setAll, List.map_cons, List.map_nil, List.replicate, List.cons_append, List.nil_append, List.getElem?_cons_succ, List.getElem?_cons_zero, List.set_cons_succ, List.set_cons_zero, List.length_cons, List.length_nil, dreduceIte, retV]
          rw [decide_eq_true (show (C.length : Int) < (R.length : Int) by have := hl hsl; omega)]
          exact r5 _ _ (r4 _ _ (ret _ w4.S))
      · rw [Bool.not_false, if_pos rfl, decide_eq_false (show ¬ (turned R : Int) - (turned C : Int) = 0 by omega)]
        exact kf4 _ (ss_nil (n4 _ (by rw [← hfl]; exact nx fun q => he q.2)))
  by_cases he : turned C = turned R
  · rw [decide_eq_true (show (turned R : Int) - (turned C : Int) = 0 by omega), if_pos rfl]
    refine l_side w2.c (by omega) fun m3 g3 => ?_
    refine l_side (w2.gr g3).r (by omega) fun m4 g4 => ?_
    dsimp only [r_lit, r_var, r_bin, r_neg, r_not, r_list, r_tup, r_cmp, r_band, r_bor, r_idx, r_slc, r_attr, r_bi, r_call, r_me, r_imeth, r_comp, r_es0, r_es1, r_ch1, r_bo1, r_bo2, r_tnot, r_tband, r_tbor, r_tcmp, r_tvar, r_tcall, r_tme, r_tidx, r_tbi, r_ts0, r_ts1, r_tgs0, r_tgs1, r_sexpr, r_sassign, r_saug, r_sdel, r_sife, r_swhl, r_sfr, r_sret, r_ss0, r_ss1, tg_var, tg_tup, tg_idx, tg_slc, bin_add, bin_sub, bin_mul, bin_div, bin_mod, bin_cat, cmp_eqi, cmp_eqs, cmp_nei, cmp_nes, cmp_lt, cmp_le, cmp_gt, cmp_ge, cmp_isn, cmp_ist, cmp_notn, cmp_nott, tr_none, tr_bool, tr_int, tr_str, tr_tup, ix_str, ix_tup, sl_ii, sl_in, sl_ni, bi_lens, bi_lent, bi_min, bi_max, bi_rng, bi_rng2, me_find, me_find2, ok_find, me_app, ok_app, me_ins, me_pop, me_join, me_ends, me_starts, ok_ins, ok_pop, ok_join, ok_ends, ok_starts, it_str, it_rng, neg_int, aug_addi, aug_adds, aug_subi, St.set, St.setAll, List.map_cons, List.map_nil, List.replicate, List.cons_append, List.nil_append, List.getElem?_cons_succ, List.getElem?_cons_zero, List.set_cons_succ, List.set_cons_zero, List.length_cons, List.length_nil, dreduceIte, retV]
    rw [decide_eq_true (hs0 he)]
    exact kf3 _ (ss_nil (n3 _ (tail _ (g3.trans g4))))
  · rw [decide_eq_false (show ¬ (turned R : Int) - (turned C : Int) = 0 by omega)]
    exact kf3 _ (ss_nil (n3 _ (tail _ (.refl _))))
/-- the row without alike neighbours again -/
theorem law_b1 (w : LW cls sc oS LS t a8 R c C m) {al : List V} (h12 : m a12 = some (.list al)) (fC : phi C < 100) (hN : NE C) (hK : Kinds C) (hG : adj gp C) (hS : noSl C) (hk : adj kd C)
    (next : ∀ x13 m', LW cls sc oS LS t a8 R c C m' → m' a12 = some (.list al) → Q .next (lwS sc x1 x2 x3 t x5 x6 x7 (some (.obj a8)) (some (.bool fl)) (some (.obj c)) x11 x12 x13 x14 m')) :
    wpSs (pcL cls) f_lawB1 Q (lwS sc x1 x2 x3 t x5 x6 x7 (some (.obj a8)) (some (.bool fl)) (some (.obj c)) x11 x12 x13 x14 m) := by
  have lC := len_le_phi C
  unfold f_lawB1
  refine ss_ret fun Q1 n1 r1 => ?_
  dsimp only [r_lit, r_var, r_bin, r_neg, r_not, r_list, r_tup, r_cmp, r_band, r_bor, r_idx, r_slc, r_attr, r_bi, r_call, r_me, r_imeth, r_comp, r_es0, r_es1, r_ch1, r_bo1, r_bo2, r_tnot, r_tband, r_tbor, r_tcmp, r_tvar, r_tcall, r_tme, r_tidx, r_tbi, r_ts0, r_ts1, r_tgs0, r_tgs1, r_sexpr, r_sassign, r_saug, r_sdel, r_sife, r_swhl, r_sfr, r_sret, r_ss0, r_ss1, tg_var, tg_tup, tg_idx, tg_slc, bin_add, bin_sub, bin_mul, bin_div, bin_mod, bin_cat, cmp_eqi, cmp_eqs, cmp_nei, cmp_nes, cmp_lt, cmp_le, cmp_gt, cmp_ge, cmp_isn, cmp_ist, cmp_notn, cmp_nott, tr_none, tr_bool, tr_int, tr_str, tr_tup, ix_str, ix_tup, sl_ii, sl_in, sl_ni, bi_lens, bi_lent, bi_min, bi_max, bi_rng, bi_rng2, me_find, me_find2, ok_find, me_app, ok_app, me_ins, me_pop, me_join, me_ends, me_starts, ok_ins, ok_pop, ok_join, ok_ends, ok_starts, it_str, it_rng, neg_int, aug_addi, aug_adds, aug_subi, St.set, St.setAll, List.map_cons, List.map_nil, List.replicate, List.cons_append, List.nil_append, List.getElem?_cons_succ, List.getElem?_cons_zero, List.set_cons_succ, List.set_cons_zero, List.length_cons, List.length_nil, dreduceIte, retV]
  rw [bi_lsto]
  refine ⟨_, w.c, by rw [rv_len]; unfold small; omega, fun e he => n1 _ (ss_ret fun Q2 n2 r2 => ?_)⟩
  have g1 := Gr.new he (.list (rv C))
  have w1 := w.gr g1
  have h1 := g1 _ _ h12
  have hE : upd m e (.list (rv C)) e = some (.list (rv C)) := upd_self _ _ _
  have ne : ∀ a o, m a = some o → a ≠ e := fun a o z q => by subst q; rw [he] at z; cases z
  have n_c := ne _ _ w.c
  have n_r := ne _ _ w.r
  have n_s := ne _ _ w.S
  have n_12 := ne _ _ h12
  clear n1
  generalize upd m e (.list (rv C)) = m1 at *
  dsimp only [r_lit, r_var, r_bin, r_neg, r_not, r_list, r_tup, r_cmp, r_band, r_bor, r_idx, r_slc, r_attr, r_bi, r_call, r_me, r_imeth, r_comp, r_es0, r_es1, r_ch1, r_bo1, r_bo2, r_tnot, r_tband, r_tbor, r_tcmp, r_tvar, r_tcall, r_tme, r_tidx, r_tbi, r_ts0, r_ts1, r_tgs0, r_tgs1, r_sexpr, r_sassign, r_saug, r_sdel, r_sife, r_swhl, r_sfr, r_sret, r_ss0, r_ss1, tg_var, tg_tup, tg_idx, tg_slc, bin_add, bin_sub, bin_mul, bin_div, bin_mod, bin_cat, cmp_eqi, cmp_eqs, cmp_nei, cmp_nes, cmp_lt, cmp_le, cmp_gt, cmp_ge, cmp_isn, cmp_ist, cmp_notn, cmp_nott, tr_none, tr_bool, tr_int, tr_str, tr_tup, ix_str, ix_tup, sl_ii, sl_in, sl_ni, bi_lens, bi_lent, bi_min, bi_max, bi_rng, bi_rng2, me_find, me_find2, ok_find, me_app, ok_app, me_ins, me_pop, me_join, me_ends, me_starts, ok_ins, ok_pop, ok_join, ok_ends, ok_starts, it_str, it_rng, neg_int, aug_addi, aug_adds, aug_subi, St.set, St.setAll, List.map_cons, List.map_nil, List.replicate, List.cons_append, List.nil_append, List.getElem?_cons_succ, List.getElem?_cons_zero, List.set_cons_succ, List.set_cons_zero, List.length_cons, List.length_nil, dreduceIte, retV]
  refine ⟨im_ok (show Tool (pcL cls) m1 t from w1.T) rfl, l_clean w1.T hE hK fC fun m2 h2 x2 => n2 _ (ss_ret fun Q3 n3 r3 => s_ife fun K kt kf => ?_)⟩
  rw [clean_again hN hK hG hS hk fC] at h2
  have w2 : LW cls sc oS LS t a8 R c C m2 := ⟨w1.T.ext ⟨_, hE⟩ x2, x2 _ _ n_s w1.S, x2 _ _ n_r w1.r, x2 _ _ n_c w1.c⟩
  dsimp only [r_lit, r_var, r_bin, r_neg, r_not, r_list, r_tup, r_cmp, r_band, r_bor, r_idx, r_slc, r_attr, r_bi, r_call, r_me, r_imeth, r_comp, r_es0, r_es1, r_ch1, r_bo1, r_bo2, r_tnot, r_tband, r_tbor, r_tcmp, r_tvar, r_tcall, r_tme, r_tidx, r_tbi, r_ts0, r_ts1, r_tgs0, r_tgs1, r_sexpr, r_sassign, r_saug, r_sdel, r_sife, r_swhl, r_sfr, r_sret, r_ss0, r_ss1, tg_var, tg_tup, tg_idx, tg_slc, bin_add, bin_sub, bin_mul, bin_div, bin_mod, bin_cat, cmp_eqi, cmp_eqs, cmp_nei, cmp_nes, cmp_lt, cmp_le, cmp_gt, cmp_ge, cmp_isn, cmp_ist, cmp_notn, cmp_nott, tr_none, tr_bool, tr_int, tr_str, tr_tup, ix_str, ix_tup, sl_ii, sl_in, sl_ni, bi_lens, bi_lent, bi_min, bi_max, bi_rng, bi_rng2, me_find, me_find2, ok_find, me_app, ok_app, me_ins, me_pop, me_join, me_ends, me_starts, ok_ins, ok_pop, ok_join, ok_ends, ok_starts, it_str, it_rng, neg_int, aug_addi, aug_adds, aug_subi, St.set, St.setAll, List.map_cons, List.map_nil, List.replicate, List.cons_append, List.nil_append, List.getElem?_cons_succ, List.getElem?_cons_zero, List.set_cons_succ, List.set_cons_zero, List.length_cons, List.length_nil, dreduceIte, retV]
  rw [cmp_neo]
  refine ⟨_, _, rd_row h2, rd_row w2.c, ?_⟩
  rw [eqv_row]
  refine l_slides w2.c hN (by omega) fun b hb => ?_
  dsimp only [r_lit, r_var, r_bin, r_neg, r_not, r_list, r_tup, r_cmp, r_band, r_bor, r_idx, r_slc, r_attr, r_bi, r_call, r_me, r_imeth, r_comp, r_es0, r_es1, r_ch1, r_bo1, r_bo2, r_tnot, r_tband, r_tbor, r_tcmp, r_tvar, r_tcall, r_tme, r_tidx, r_tbi, r_ts0, r_ts1, r_tgs0, r_tgs1, r_sexpr, r_sassign, r_saug, r_sdel, r_sife, r_swhl, r_sfr, r_sret, r_ss0, r_ss1, tg_var, tg_tup, tg_idx, tg_slc, bin_add, bin_sub, bin_mul, bin_div, bin_mod, bin_cat, cmp_eqi, cmp_eqs, cmp_nei, cmp_nes, cmp_lt, cmp_le, cmp_gt, cmp_ge, cmp_isn, cmp_ist, cmp_notn, cmp_nott, tr_none, tr_bool, tr_int, tr_str, tr_tup, ix_str, ix_tup, sl_ii, sl_in, sl_ni, bi_lens, bi_lent, bi_min, bi_max, bi_rng, bi_rng2, me_find, me_find2, ok_find, me_app, ok_app, me_ins, me_pop, me_join, me_ends, me_starts, ok_ins, ok_pop, ok_join, ok_ends, ok_starts, it_str, it_rng, neg_int, aug_addi, aug_adds, aug_subi, St.set, St.setAll, List.map_cons, List.map_nil, List.replicate, List.cons_append, List.nil_append, List.getElem?_cons_succ, List.getElem?_cons_zero, List.set_cons_succ, List.set_cons_zero, List.length_cons, List.length_nil, dreduceIte, retV]
  cases b with
  | true => exact absurd hS (hb.mp rfl)
  | false => exact kf _ (ss_nil (n3 _ (ss_nil (next _ _ w2 (x2 _ _ n_12 h1)))))
end
end Mine
set_option autoImplicit false
set_option maxRecDepth 10000
set_option linter.unusedVariables false
set_option linter.unusedSimpArgs false
namespace Mine
open PySem PyProof.Rows PySem.W

section
variable {cls sc t a8 c p : Addr} {oS : Obj} {LS : List V} {Q : Fl → St → Prop} {m : Mem} {x1 x5 x6 x7 x8 x9 x10 x11 x12 x13 x14 : Option V} {R C r : Row} {fl sl : Bool}
/-- the alike places gathered -/
theorem law_alike {x2 x3 : Option V} (w : LW cls sc oS LS t a8 R c C m) (fC : phi C ≤ 100)
    (next : ∀ a12 m', LW cls sc oS LS t a8 R c C m' → m' a12 = some (.list ((alks C).map V.int)) → Q .next (lwS sc x1 x2 x3 t x5 x6 x7 (some (.obj a8)) x9 (some (.obj c)) x11 (some (.obj a12)) x13 x14 m')) :
    wpS (pcL cls) (.assign [.var 12] (.comp (.var 0) true [0] (.bi .range [.lit (.int 1), .bi .len [.var 10]]) [.cmp (.idx (.idx (.var 1) (.var 0)) (.lit (.int 0))) [.Eq] [.idx (.idx (.var 1) (.bin .Sub (.var 0) (.lit (.int 1)))) (.lit (.int 0))]] 1 [10])) Q
      (lwS sc x1 x2 x3 t x5 x6 x7 (some (.obj a8)) x9 (some (.obj c)) x11 x12 x13 x14 m) := by
  have lC := len_le_phi C
  have t1 : tiny 1 := by unfold tiny; omega
  dsimp only [r_lit, r_var, r_bin, r_neg, r_not, r_list, r_tup, r_cmp, r_band, r_bor, r_idx, r_slc, r_attr, r_bi, r_call, r_me, r_imeth, r_comp, r_es0, r_es1, r_ch1, r_bo1, r_bo2, r_tnot, r_tband, r_tbor, r_tcmp, r_tvar, r_tcall, r_tme, r_tidx, r_tbi, r_ts0, r_ts1, r_tgs0, r_tgs1, r_sexpr, r_sassign, r_saug, r_sdel, r_sife, r_swhl, r_sfr, r_sret, r_ss0, r_ss1, tg_var, tg_tup, tg_idx, tg_slc, bin_add, bin_sub, bin_mul, bin_div, bin_mod, bin_cat, cmp_eqi, cmp_eqs, cmp_nei, cmp_nes, cmp_lt, cmp_le, cmp_gt, cmp_ge, cmp_isn, cmp_ist, cmp_notn, cmp_nott, tr_none, tr_bool, tr_int, tr_str, tr_tup, ix_str, ix_tup, sl_ii, sl_in, sl_ni, bi_lens, bi_lent, bi_min, bi_max, bi_rng, bi_rng2, me_find, me_find2, ok_find, me_app, ok_app, me_ins, me_pop, me_join, me_ends, me_starts, ok_ins, ok_pop, ok_join, ok_ends, ok_starts, it_str, it_rng, neg_int, aug_addi, aug_adds, aug_subi, St.set, St.setAll, List.map_cons, List.map_nil, List.replicate, List.cons_append, List.nil_append, List.getElem?_cons_succ, List.getElem?_cons_zero, List.set_cons_succ, List.set_cons_zero, List.length_cons, List.length_nil, dreduceIte, retV]
  refine len_row w.c (by unfold small; omega) ?_
  have tb : tiny (C.length : Int) := by unfold tiny; omega
  rw [bi_rng2]
  refine ⟨t1, tb, ?_⟩
  rw [it_rng]
  refine ⟨t1, tb, t1, by decide, ?_⟩
  rw [rng_from1 C.length _ rfl]
  refine ⟨by rw [List.length_map, List.length_range']; unfold small; omega, ?_⟩
  refine wpComp_map (fun σ => ∃ x, σ = ⟨[x, some (.obj c)], m⟩) (fun j : Nat => V.int j) (fun j => (alk C j).map V.int) _ [] _ ⟨none, rfl⟩ (fun _ _ => trivial) ?_ ?_
  · rintro j hj _ ⟨x, rfl⟩ K K' h1 h2
    rw [List.mem_range'_1] at hj
    obtain ⟨b, hb⟩ : ∃ b, C[j]? = some b := ⟨_, List.getElem?_eq_getElem (by omega)⟩
    obtain ⟨a, ha⟩ : ∃ a, C[j - 1]? = some a := ⟨_, List.getElem?_eq_getElem (by omega)⟩
    have e : alk C j = if b.1 = a.1 then some (j : Int) else none := by
      unfold alk
      rw [hb, ha]
      by_cases q : b.1 = a.1
      · rw [if_pos q, if_pos (by show some b.1 = some a.1; rw [q])]
      · rw [if_neg q, if_neg (fun z => q (by simpa using z))]
    have g1 : ¬ b.1 = a.1 → ∀ σ', (∃ x, σ' = ⟨[x, some (.obj c)], m⟩) → K' σ' := fun q => h1 (by rw [e, if_neg q]; rfl)
    have g2 : b.1 = a.1 → ∀ σ', (∃ x, σ' = ⟨[x, some (.obj c)], m⟩) → K (.int j) σ' := fun q => h2 _ (by rw [e, if_pos q]; rfl)
    have gb : pyGet C (j : Int) = some b := by rw [pyGet_nn C j (by omega)]; exact hb
    have ga : pyGet C ((j : Int) - 1) = some a := by rw [show (j : Int) - 1 = ((j - 1 : Nat) : Int) by omega, pyGet_nn C (j - 1) (by omega)]; exact ha
    rw [bindIs_one]
    dsimp only [r_lit, r_var, r_bin, r_neg, r_not, r_list, r_tup, r_cmp, r_band, r_bor, r_idx, r_slc, r_attr, r_bi, r_call, r_me, r_imeth, r_comp, r_es0, r_es1, r_ch1, r_bo1, r_bo2, r_tnot, r_tband, r_tbor, r_tcmp, r_tvar, r_tcall, r_tme, r_tidx, r_tbi, r_ts0, r_ts1, r_tgs0, r_tgs1, r_sexpr, r_sassign, r_saug, r_sdel, r_sife, r_swhl, r_sfr, r_sret, r_ss0, r_ss1, tg_var, tg_tup, tg_idx, tg_slc, bin_add, bin_sub, bin_mul, bin_div, bin_mod, bin_cat, cmp_eqi, cmp_eqs, cmp_nei, cmp_nes, cmp_lt, cmp_le, cmp_gt, cmp_ge, cmp_isn, cmp_ist, cmp_notn, cmp_nott, tr_none, tr_bool, tr_int, tr_str, tr_tup, ix_str, ix_tup, sl_ii, sl_in, sl_ni, bi_lens, bi_lent, bi_min, bi_max, bi_rng, bi_rng2, me_find, me_find2, ok_find, me_app, ok_app, me_ins, me_pop, me_join, me_ends, me_starts, ok_ins, ok_pop, ok_join, ok_ends, ok_starts, it_str, it_rng, neg_int, aug_addi, aug_adds, aug_subi, St.set, St.setAll, List.map_cons, List.map_nil, List.replicate, List.cons_append, List.nil_append, List.getElem?_cons_succ, List.getElem?_cons_zero, List.set_cons_succ, List.set_cons_zero, List.length_cons, List.length_nil, dreduceIte, retV]
    refine ix_row w.c (by unfold tiny; omega) gb (ix_fst (ix_row w.c (by unfold tiny; omega) ga (ix_fst ?_)))
    dsimp only [r_lit, r_var, r_bin, r_neg, r_not, r_list, r_tup, r_cmp, r_band, r_bor, r_idx, r_slc, r_attr, r_bi, r_call, r_me, r_imeth, r_comp, r_es0, r_es1, r_ch1, r_bo1, r_bo2, r_tnot, r_tband, r_tbor, r_tcmp, r_tvar, r_tcall, r_tme, r_tidx, r_tbi, r_ts0, r_ts1, r_tgs0, r_tgs1, r_sexpr, r_sassign, r_saug, r_sdel, r_sife, r_swhl, r_sfr, r_sret, r_ss0, r_ss1, tg_var, tg_tup, tg_idx, tg_slc, bin_add, bin_sub, bin_mul, bin_div, bin_mod, bin_cat, cmp_eqi, cmp_eqs, cmp_nei, cmp_nes, cmp_lt, cmp_le, cmp_gt, cmp_ge, cmp_isn, cmp_ist, cmp_notn, cmp_nott, tr_none, tr_bool, tr_int, tr_str, tr_tup, ix_str, ix_tup, sl_ii, sl_in, sl_ni, bi_lens, bi_lent, bi_min, bi_max, bi_rng, bi_rng2, me_find, me_find2, ok_find, me_app, ok_app, me_ins, me_pop, me_join, me_ends, me_starts, ok_ins, ok_pop, ok_join, ok_ends, ok_starts, it_str, it_rng, neg_int, aug_addi, aug_adds, aug_subi, St.set, St.setAll, List.map_cons, List.map_nil, List.replicate, List.cons_append, List.nil_append, List.getElem?_cons_succ, List.getElem?_cons_zero, List.set_cons_succ, List.set_cons_zero, List.length_cons, List.length_nil, dreduceIte, retV]
    by_cases q : b.1 = a.1
    · rw [decide_eq_true q]; exact g2 q _ ⟨_, rfl⟩
    · rw [decide_eq_false q]; exact g1 q _ ⟨_, rfl⟩
  · rintro _ ⟨x, rfl⟩ a ha
    dsimp only [r_lit, r_var, r_bin, r_neg, r_not, r_list, r_tup, r_cmp, r_band, r_bor, r_idx, r_slc, r_attr, r_bi, r_call, r_me, r_imeth, r_comp, r_es0, r_es1, r_ch1, r_bo1, r_bo2, r_tnot, r_tband, r_tbor, r_tcmp, r_tvar, r_tcall, r_tme, r_tidx, r_tbi, r_ts0, r_ts1, r_tgs0, r_tgs1, r_sexpr, r_sassign, r_saug, r_sdel, r_sife, r_swhl, r_sfr, r_sret, r_ss0, r_ss1, tg_var, tg_tup, tg_idx, tg_slc, bin_add, bin_sub, bin_mul, bin_div, bin_mod, bin_cat, cmp_eqi, cmp_eqs, cmp_nei, cmp_nes, cmp_lt, cmp_le, cmp_gt, cmp_ge, cmp_isn, cmp_ist, cmp_notn, cmp_nott, tr_none, tr_bool, tr_int, tr_str, tr_tup, ix_str, ix_tup, sl_ii, sl_in, sl_ni, bi_lens, bi_lent, bi_min, bi_max, bi_rng, bi_rng2, me_find, me_find2, ok_find, me_app, ok_app, me_ins, me_pop, me_join, me_ends, me_starts, ok_ins, ok_pop, ok_join, ok_ends, ok_starts, it_str, it_rng, neg_int, aug_addi, aug_adds, aug_subi, St.set, St.setAll, List.map_cons, List.map_nil, List.replicate, List.cons_append, List.nil_append, List.getElem?_cons_succ, List.getElem?_cons_zero, List.set_cons_succ, List.set_cons_zero, List.length_cons, List.length_nil, dreduceIte, retV]
    refine next a _ (w.gr (.new ha _)) ?_
    show upd m a _ a = _
    rw [upd_self]
    unfold alks
    rw [List.map_filterMap]

/-- one turn -/
theorem law_b2 (hT : Tool (pcOf cls) m t) (hS : m sc = some (.ro oS LS)) (hm : m p = some (.list (rv r))) (hN : NE r) (hK : Kinds r) (hφ : phi r ≤ 90) {first second : Tx} (hf : side (-1) r = first) (hs : side 1 r = second)
    (ret : ∀ σ' : St, σ'.mem sc = some (.ro oS LS) → Q (.ret (.bool true)) σ')
    (next : ¬ (fell r = false ∧ turned (cleanN 100 r) = turned (plainR r)) → ∀ c m' x8 x9 x10 x11 x12 x13 x14, m' c = some (.list (rv (cleanN 100 r))) → Tool (pcOf cls) m' t → m' sc = some (.ro oS LS) → Q .next (lwS sc x1 (some (.str first)) (some (.str second)) t x5 (some (.obj c)) x7 x8 x9 x10 x11 x12 x13 x14 m')) :
    wpSs (pcL cls) f_lawB2 Q (lwS sc x1 (some (.str first)) (some (.str second)) t x5 (some (.obj p)) x7 x8 x9 x10 x11 x12 x13 x14 m) := by
  obtain ⟨NC, tl, cs, ce⟩ := clean_ne 100 r hN hK (by omega)
  obtain ⟨KC, gC, sC, pC, sd⟩ := clean_any 100 r hK (by omega)
  have fR : phi (plainR r) ≤ phi r := by rw [← merge_is_plain hN hK]; exact phi_merge r
  have NR : NE (plainR r) := ne_ne _
  subst hf hs
  have sm := sd (-1) (.inl rfl)
  have sp := sd 1 (.inr rfl)
  clear sd
  generalize hC : cleanN 100 r = C at *
  have lr := len_le_phi r
  have lC := len_le_phi C
  unfold f_lawB2
  refine ss_ret fun Q1 n1 r1 => ?_
  dsimp only [r_lit, r_var, r_bin, r_neg, r_not, r_list, r_tup, r_cmp, r_band, r_bor, r_idx, r_slc, r_attr, r_bi, r_call, r_me, r_imeth, r_comp, r_es0, r_es1, r_ch1, r_bo1, r_bo2, r_tnot, r_tband, r_tbor, r_tcmp, r_tvar, r_tcall, r_tme, r_tidx, r_tbi, r_ts0, r_ts1, r_tgs0, r_tgs1, r_sexpr, r_sassign, r_saug, r_sdel, r_sife, r_swhl, r_sfr, r_sret, r_ss0, r_ss1, tg_var, tg_tup, tg_idx, tg_slc, bin_add, bin_sub, bin_mul, bin_div, bin_mod, bin_cat, cmp_eqi, cmp_eqs, cmp_nei, cmp_nes, cmp_lt, cmp_le, cmp_gt, cmp_ge, cmp_isn, cmp_ist, cmp_notn, cmp_nott, tr_none, tr_bool, tr_int, tr_str, tr_tup, ix_str, ix_tup, sl_ii, sl_in, sl_ni, bi_lens, bi_lent, bi_min, bi_max, bi_rng, bi_rng2, me_find, me_find2, ok_find, me_app, ok_app, me_ins, me_pop, me_join, me_ends, me_starts, ok_ins, ok_pop, ok_join, ok_ends, ok_starts, it_str, it_rng, neg_int, aug_addi, aug_adds, aug_subi, St.set, St.setAll, List.map_cons, List.map_nil, List.replicate, List.cons_append, List.nil_append, List.getElem?_cons_succ, List.getElem?_cons_zero, List.set_cons_succ, List.set_cons_zero, List.length_cons, List.length_nil, dreduceIte, retV]
  refine l_plain hm hK (by omega) fun m1 a8 g1 h8 => ?_
  generalize plainR r = R at *
  generalize fell r = fl at *
  dsimp only [r_lit, r_var, r_bin, r_neg, r_not, r_list, r_tup, r_cmp, r_band, r_bor, r_idx, r_slc, r_attr, r_bi, r_call, r_me, r_imeth, r_comp, r_es0, r_es1, r_ch1, r_bo1, r_bo2, r_tnot, r_tband, r_tbor, r_tcmp, r_tvar, r_tcall, r_tme, r_tidx, r_tbi, r_ts0, r_ts1, r_tgs0, r_tgs1, r_sexpr, r_sassign, r_saug, r_sdel, r_sife, r_swhl, r_sfr, r_sret, r_ss0, r_ss1, tg_var, tg_tup, tg_idx, tg_slc, bin_add, bin_sub, bin_mul, bin_div, bin_mod, bin_cat, cmp_eqi, cmp_eqs, cmp_nei, cmp_nes, cmp_lt, cmp_le, cmp_gt, cmp_ge, cmp_isn, cmp_ist, cmp_notn, cmp_nott, tr_none, tr_bool, tr_int, tr_str, tr_tup, ix_str, ix_tup, sl_ii, sl_in, sl_ni, bi_lens, bi_lent, bi_min, bi_max, bi_rng, bi_rng2, me_find, me_find2, ok_find, me_app, ok_app, me_ins, me_pop, me_join, me_ends, me_starts, ok_ins, ok_pop, ok_join, ok_ends, ok_starts, it_str, it_rng, neg_int, aug_addi, aug_adds, aug_subi, St.set, St.setAll, List.map_cons, List.map_nil, List.replicate, List.cons_append, List.nil_append, List.getElem?_cons_succ, List.getElem?_cons_zero, List.set_cons_succ, List.set_cons_zero, List.length_cons, List.length_nil, dreduceIte, retV]
  refine ⟨rfl, n1 _ (ss_ret fun Q2 n2 r2 => ?_)⟩
  dsimp only [r_lit, r_var, r_bin, r_neg, r_not, r_list, r_tup, r_cmp, r_band, r_bor, r_idx, r_slc, r_attr, r_bi, r_call, r_me, r_imeth, r_comp, r_es0, r_es1, r_ch1, r_bo1, r_bo2, r_tnot, r_tband, r_tbor, r_tcmp, r_tvar, r_tcall, r_tme, r_tidx, r_tbi, r_ts0, r_ts1, r_tgs0, r_tgs1, r_sexpr, r_sassign, r_saug, r_sdel, r_sife, r_swhl, r_sfr, r_sret, r_ss0, r_ss1, tg_var, tg_tup, tg_idx, tg_slc, bin_add, bin_sub, bin_mul, bin_div, bin_mod, bin_cat, cmp_eqi, cmp_eqs, cmp_nei, cmp_nes, cmp_lt, cmp_le, cmp_gt, cmp_ge, cmp_isn, cmp_ist, cmp_notn, cmp_nott, tr_none, tr_bool, tr_int, tr_str, tr_tup, ix_str, ix_tup, sl_ii, sl_in, sl_ni, bi_lens, bi_lent, bi_min, bi_max, bi_rng, bi_rng2, me_find, me_find2, ok_find, me_app, ok_app, me_ins, me_pop, me_join, me_ends, me_starts, ok_ins, ok_pop, ok_join, ok_ends, ok_starts, it_str, it_rng, neg_int, aug_addi, aug_adds, aug_subi, St.set, St.setAll, List.map_cons, List.map_nil, List.replicate, List.cons_append, List.nil_append, List.getElem?_cons_succ, List.getElem?_cons_zero, List.set_cons_succ, List.set_cons_zero, List.length_cons, List.length_nil, dreduceIte, retV]
  rw [bi_lsto]
  refine ⟨_, g1 _ _ hm, by rw [rv_len]; unfold small; omega, fun c hc => n2 _ (ss_ret fun Q3 n3 r3 => ?_)⟩
  have hT1 := hT.gr g1
  have hS1 := g1 _ _ hS
  have ne : ∀ a o, m1 a = some o → a ≠ c := fun a o z q => by subst q; rw [hc] at z; cases z
  have n_r := ne _ _ h8
  have n_s := ne _ _ hS1
  have g2 := Gr.new hc (.list (rv r))
  have hT2 := hT1.gr g2
  have hS2 := g2 _ _ hS1
  have h82 := g2 _ _ h8
  have hc2 : upd m1 c (.list (rv r)) c = some (.list (rv r)) := upd_self _ _ _
  clear n1 n2
  generalize upd m1 c (.list (rv r)) = m2 at *
  dsimp only [r_lit, r_var, r_bin, r_neg, r_not, r_list, r_tup, r_cmp, r_band, r_bor, r_idx, r_slc, r_attr, r_bi, r_call, r_me, r_imeth, r_comp, r_es0, r_es1, r_ch1, r_bo1, r_bo2, r_tnot, r_tband, r_tbor, r_tcmp, r_tvar, r_tcall, r_tme, r_tidx, r_tbi, r_ts0, r_ts1, r_tgs0, r_tgs1, r_sexpr, r_sassign, r_saug, r_sdel, r_sife, r_swhl, r_sfr, r_sret, r_ss0, r_ss1, tg_var, tg_tup, tg_idx, tg_slc, bin_add, bin_sub, bin_mul, bin_div, bin_mod, bin_cat, cmp_eqi, cmp_eqs, cmp_nei, cmp_nes, cmp_lt, cmp_le, cmp_gt, cmp_ge, cmp_isn, cmp_ist, cmp_notn, cmp_nott, tr_none, tr_bool, tr_int, tr_str, tr_tup, ix_str, ix_tup, sl_ii, sl_in, sl_ni, bi_lens, bi_lent, bi_min, bi_max, bi_rng, bi_rng2, me_find, me_find2, ok_find, me_app, ok_app, me_ins, me_pop, me_join, me_ends, me_starts, ok_ins, ok_pop, ok_join, ok_ends, ok_starts, it_str, it_rng, neg_int, aug_addi, aug_adds, aug_subi, St.set, St.setAll, List.map_cons, List.map_nil, List.replicate, List.cons_append, List.nil_append, List.getElem?_cons_succ, List.getElem?_cons_zero, List.set_cons_succ, List.set_cons_zero, List.length_cons, List.length_nil, dreduceIte, retV]
  refine ⟨im_ok (show Tool (pcL cls) m2 t from hT2) rfl, l_clean hT2 hc2 hK (by omega) fun m3 h3 x3 => n3 _ (ss_ret fun Q4 n4 r4 => s_ife fun K4 kt4 kf4 => ?_)⟩
  rw [hC] at h3
  have w3 : LW cls sc oS LS t a8 R c C m3 := ⟨hT2.ext ⟨_, hc2⟩ x3, x3 _ _ n_s hS2, x3 _ _ n_r h82, h3⟩
  clear n3 x3 h3 hT hT1 hT2 hc2 hS1 hS2 h82 g1 g2 h8 hm
  dsimp only [r_lit, r_var, r_bin, r_neg, r_not, r_list, r_tup, r_cmp, r_band, r_bor, r_idx, r_slc, r_attr, r_bi, r_call, r_me, r_imeth, r_comp, r_es0, r_es1, r_ch1, r_bo1, r_bo2, r_tnot, r_tband, r_tbor, r_tcmp, r_tvar, r_tcall, r_tme, r_tidx, r_tbi, r_ts0, r_ts1, r_tgs0, r_tgs1, r_sexpr, r_sassign, r_saug, r_sdel, r_sife, r_swhl, r_sfr, r_sret, r_ss0, r_ss1, tg_var, tg_tup, tg_idx, tg_slc, bin_add, bin_sub, bin_mul, bin_div, bin_mod, bin_cat, cmp_eqi, cmp_eqs, cmp_nei, cmp_nes, cmp_lt, cmp_le, cmp_gt, cmp_ge, cmp_isn, cmp_ist, cmp_notn, cmp_nott, tr_none, tr_bool, tr_int, tr_str, tr_tup, ix_str, ix_tup, sl_ii, sl_in, sl_ni, bi_lens, bi_lent, bi_min, bi_max, bi_rng, bi_rng2, me_find, me_find2, ok_find, me_app, ok_app, me_ins, me_pop, me_join, me_ends, me_starts, ok_ins, ok_pop, ok_join, ok_ends, ok_starts, it_str, it_rng, neg_int, aug_addi, aug_adds, aug_subi, St.set, St.setAll, List.map_cons, List.map_nil, List.replicate, List.cons_append, List.nil_append, List.getElem?_cons_succ, List.getElem?_cons_zero, List.set_cons_succ, List.set_cons_zero, List.length_cons, List.length_nil, dreduceIte, retV]
  refine l_side w3.c (by omega) fun m4 g4 => ?_
  have w4 := w3.gr g4
  dsimp only [r_lit, r_var, r_bin, r_neg, r_not, r_list, r_tup, r_cmp, r_band, r_bor, r_idx, r_slc, r_attr, r_bi, r_call, r_me, r_imeth, r_comp, r_es0, r_es1, r_ch1, r_bo1, r_bo2, r_tnot, r_tband, r_tbor, r_tcmp, r_tvar, r_tcall, r_tme, r_tidx, r_tbi, r_ts0, r_ts1, r_tgs0, r_tgs1, r_sexpr, r_sassign, r_saug, r_sdel, r_sife, r_swhl, r_sfr, r_sret, r_ss0, r_ss1, tg_var, tg_tup, tg_idx, tg_slc, bin_add, bin_sub, bin_mul, bin_div, bin_mod, bin_cat, cmp_eqi, cmp_eqs, cmp_nei, cmp_nes, cmp_lt, cmp_le, cmp_gt, cmp_ge, cmp_isn, cmp_ist, cmp_notn, cmp_nott, tr_none, tr_bool, tr_int, tr_str, tr_tup, ix_str, ix_tup, sl_ii, sl_in, sl_ni, bi_lens, bi_lent, bi_min, bi_max, bi_rng, bi_rng2, me_find, me_find2, ok_find, me_app, ok_app, me_ins, me_pop, me_join, me_ends, me_starts, ok_ins, ok_pop, ok_join, ok_ends, ok_starts, it_str, it_rng, neg_int, aug_addi, aug_adds, aug_subi, St.set, St.setAll, List.map_cons, List.map_nil, List.replicate, List.cons_append, List.nil_append, List.getElem?_cons_succ, List.getElem?_cons_zero, List.set_cons_succ, List.set_cons_zero, List.length_cons, List.length_nil, dreduceIte, retV]
  rw [decide_eq_true sm, Bool.not_true, if_pos rfl]
  refine l_side w4.c (by omega) fun m5 g5 => ?_
  have w5 := w4.gr g5
  dsimp only [r_lit, r_var, r_bin, r_neg, r_not, r_list, r_tup, r_cmp, r_band, r_bor, r_idx, r_slc, r_attr, r_bi, r_call, r_me, r_imeth, r_comp, r_es0, r_es1, r_ch1, r_bo1, r_bo2, r_tnot, r_tband, r_tbor, r_tcmp, r_tvar, r_tcall, r_tme, r_tidx, r_tbi, r_ts0, r_ts1, r_tgs0, r_tgs1, r_sexpr, r_sassign, r_saug, r_sdel, r_sife, r_swhl, r_sfr, r_sret, r_ss0, r_ss1, tg_var, tg_tup, tg_idx, tg_slc, bin_add, bin_sub, bin_mul, bin_div, bin_mod, bin_cat, cmp_eqi, cmp_eqs, cmp_nei, cmp_nes, cmp_lt, cmp_le, cmp_gt, cmp_ge, cmp_isn, cmp_ist, cmp_notn, cmp_nott, tr_none, tr_bool, tr_int, tr_str, tr_tup, ix_str, ix_tup, sl_ii, sl_in, sl_ni, bi_lens, bi_lent, bi_min, bi_max, bi_rng, bi_rng2, me_find, me_find2, ok_find, me_app, ok_app, me_ins, me_pop, me_join, me_ends, me_starts, ok_ins, ok_pop, ok_join, ok_ends, ok_starts, it_str, it_rng, neg_int, aug_addi, aug_adds, aug_subi, St.set, St.setAll, List.map_cons, List.map_nil, List.replicate, List.cons_append, List.nil_append, List.getElem?_cons_succ, List.getElem?_cons_zero, List.set_cons_succ, List.set_cons_zero, List.length_cons, List.length_nil, dreduceIte, retV]
  rw [decide_eq_true sp]
  refine kf4 _ (ss_nil (n4 _ (ss_ret fun Q5 n5 r5 => s_ife fun K5 kt5 kf5 => ?_)))
  clear n4 r4 kt4 kf4
  dsimp only [r_lit, r_var, r_bin, r_neg, r_not, r_list, r_tup, r_cmp, r_band, r_bor, r_idx, r_slc, r_attr, r_bi, r_call, r_me, r_imeth, r_comp, r_es0, r_es1, r_ch1, r_bo1, r_bo2, r_tnot, r_tband, r_tbor, r_tcmp, r_tvar, r_tcall, r_tme, r_tidx, r_tbi, r_ts0, r_ts1, r_tgs0, r_tgs1, r_sexpr, r_sassign, r_saug, r_sdel, r_sife, r_swhl, r_sfr, r_sret, r_ss0, r_ss1, tg_var, tg_tup, tg_idx, tg_slc, bin_add, bin_sub, bin_mul, bin_div, bin_mod, bin_cat, cmp_eqi, cmp_eqs, cmp_nei, cmp_nes, cmp_lt, cmp_le, cmp_gt, cmp_ge, cmp_isn, cmp_ist, cmp_notn, cmp_nott, tr_none, tr_bool, tr_int, tr_str, tr_tup, ix_str, ix_tup, sl_ii, sl_in, sl_ni, bi_lens, bi_lent, bi_min, bi_max, bi_rng, bi_rng2, me_find, me_find2, ok_find, me_app, ok_app, me_ins, me_pop, me_join, me_ends, me_starts, ok_ins, ok_pop, ok_join, ok_ends, ok_starts, it_str, it_rng, neg_int, aug_addi, aug_adds, aug_subi, St.set, St.setAll, List.map_cons, List.map_nil, List.replicate, List.cons_append, List.nil_append, List.getElem?_cons_succ, List.getElem?_cons_zero, List.set_cons_succ, List.set_cons_zero, List.length_cons, List.length_nil, dreduceIte, retV]
  refine l_grouped w5.c gC (by omega) ?_
  dsimp only [r_lit, r_var, r_bin, r_neg, r_not, r_list, r_tup, r_cmp, r_band, r_bor, r_idx, r_slc, r_attr, r_bi, r_call, r_me, r_imeth, r_comp, r_es0, r_es1, r_ch1, r_bo1, r_bo2, r_tnot, r_tband, r_tbor, r_tcmp, r_tvar, r_tcall, r_tme, r_tidx, r_tbi, r_ts0, r_ts1, r_tgs0, r_tgs1, r_sexpr, r_sassign, r_saug, r_sdel, r_sife, r_swhl, r_sfr, r_sret, r_ss0, r_ss1, tg_var, tg_tup, tg_idx, tg_slc, bin_add, bin_sub, bin_mul, bin_div, bin_mod, bin_cat, cmp_eqi, cmp_eqs, cmp_nei, cmp_nes, cmp_lt, cmp_le, cmp_gt, cmp_ge, cmp_isn, cmp_ist, cmp_notn, cmp_nott, tr_none, tr_bool, tr_int, tr_str, tr_tup, ix_str, ix_tup, sl_ii, sl_in, sl_ni, bi_lens, bi_lent, bi_min, bi_max, bi_rng, bi_rng2, me_find, me_find2, ok_find, me_app, ok_app, me_ins, me_pop, me_join, me_ends, me_starts, ok_ins, ok_pop, ok_join, ok_ends, ok_starts, it_str, it_rng, neg_int, aug_addi, aug_adds, aug_subi, St.set, St.setAll, List.map_cons, List.map_nil, List.replicate, List.cons_append, List.nil_append, List.getElem?_cons_succ, List.getElem?_cons_zero, List.set_cons_succ, List.set_cons_zero, List.length_cons, List.length_nil, dreduceIte, retV]
  rw [Bool.not_true, if_pos rfl]
  refine it_row w5.c (by omega) ⟨by rw [rv_len]; unfold small; omega, ?_⟩
  refine wpComp_map (fun σ => ∃ x y, σ = ⟨[x, y], m5⟩) pv (fun p => some (.str p.2)) C [] _ ⟨none, none, rfl⟩ (by rintro _ ⟨x, y, rfl⟩; exact w5.c) ?_ ?_
  · rintro ⟨j, u⟩ _ _ ⟨x, y, rfl⟩ K K' h1 h2
    refine ⟨rfl, ?_⟩
    dsimp only [r_lit, r_var, r_bin, r_neg, r_not, r_list, r_tup, r_cmp, r_band, r_bor, r_idx, r_slc, r_attr, r_bi, r_call, r_me, r_imeth, r_comp, r_es0, r_es1, r_ch1, r_bo1, r_bo2, r_tnot, r_tband, r_tbor, r_tcmp, r_tvar, r_tcall, r_tme, r_tidx, r_tbi, r_ts0, r_ts1, r_tgs0, r_tgs1, r_sexpr, r_sassign, r_saug, r_sdel, r_sife, r_swhl, r_sfr, r_sret, r_ss0, r_ss1, tg_var, tg_tup, tg_idx, tg_slc, bin_add, bin_sub, bin_mul, bin_div, bin_mod, bin_cat, cmp_eqi, cmp_eqs, cmp_nei, cmp_nes, cmp_lt, cmp_le, cmp_gt, cmp_ge, cmp_isn, cmp_ist, cmp_notn, cmp_nott, tr_none, tr_bool, tr_int, tr_str, tr_tup, ix_str, ix_tup, sl_ii, sl_in, sl_ni, bi_lens, bi_lent, bi_min, bi_max, bi_rng, bi_rng2, me_find, me_find2, ok_find, me_app, ok_app, me_ins, me_pop, me_join, me_ends, me_starts, ok_ins, ok_pop, ok_join, ok_ends, ok_starts, it_str, it_rng, neg_int, aug_addi, aug_adds, aug_subi, St.set, St.setAll, List.map_cons, List.map_nil, List.replicate, List.cons_append, List.nil_append, List.getElem?_cons_succ, List.getElem?_cons_zero, List.set_cons_succ, List.set_cons_zero, List.length_cons, List.length_nil, dreduceIte, retV]
    exact h2 _ rfl _ ⟨_, _, rfl⟩
  rintro _ ⟨x, y, rfl⟩ a ha
  dsimp only [r_lit, r_var, r_bin, r_neg, r_not, r_list, r_tup, r_cmp, r_band, r_bor, r_idx, r_slc, r_attr, r_bi, r_call, r_me, r_imeth, r_comp, r_es0, r_es1, r_ch1, r_bo1, r_bo2, r_tnot, r_tband, r_tbor, r_tcmp, r_tvar, r_tcall, r_tme, r_tidx, r_tbi, r_ts0, r_ts1, r_tgs0, r_tgs1, r_sexpr, r_sassign, r_saug, r_sdel, r_sife, r_swhl, r_sfr, r_sret, r_ss0, r_ss1, tg_var, tg_tup, tg_idx, tg_slc, bin_add, bin_sub, bin_mul, bin_div, bin_mod, bin_cat, cmp_eqi, cmp_eqs, cmp_nei, cmp_nes, cmp_lt, cmp_le, cmp_gt, cmp_ge, cmp_isn, cmp_ist, cmp_notn, cmp_nott, tr_none, tr_bool, tr_int, tr_str, tr_tup, ix_str, ix_tup, sl_ii, sl_in, sl_ni, bi_lens, bi_lent, bi_min, bi_max, bi_rng, bi_rng2, me_find, me_find2, ok_find, me_app, ok_app, me_ins, me_pop, me_join, me_ends, me_starts, ok_ins, ok_pop, ok_join, ok_ends, ok_starts, it_str, it_rng, neg_int, aug_addi, aug_adds, aug_subi, St.set, St.setAll, List.map_cons, List.map_nil, List.replicate, List.cons_append, List.nil_append, List.getElem?_cons_succ, List.getElem?_cons_zero, List.set_cons_succ, List.set_cons_zero, List.length_cons, List.length_nil, dreduceIte, retV]
  have w6 : LW cls sc oS LS t a8 R c C (upd m5 a (.list (C.filterMap fun p => some (V.str p.2)))) := w5.gr (Gr.new ha _)
  have e6 : C.filterMap (fun p => some (V.str p.2)) = (C.map (·.2)).map V.str := by
    rw [List.filterMap_eq_map', List.map_map]; rfl
  rw [cmp_ino]
  refine ⟨_, _, _, upd_self _ _ _, ?_, rfl, by rw [e6]; exact rd_texts _, ?_⟩
  · rw [e6, List.length_map, List.length_map]; unfold small; omega
  rw [no_empty NC]
  refine kf5 _ (ss_nil (n5 _ (ss_ret fun Q6 n6 r6 => ?_)))
  clear n5 r5 kt5 kf5
  dsimp only [r_lit, r_var, r_bin, r_neg, r_not, r_list, r_tup, r_cmp, r_band, r_bor, r_idx, r_slc, r_attr, r_bi, r_call, r_me, r_imeth, r_comp, r_es0, r_es1, r_ch1, r_bo1, r_bo2, r_tnot, r_tband, r_tbor, r_tcmp, r_tvar, r_tcall, r_tme, r_tidx, r_tbi, r_ts0, r_ts1, r_tgs0, r_tgs1, r_sexpr, r_sassign, r_saug, r_sdel, r_sife, r_swhl, r_sfr, r_sret, r_ss0, r_ss1, tg_var, tg_tup, tg_idx, tg_slc, bin_add, bin_sub, bin_mul, bin_div, bin_mod, bin_cat, cmp_eqi, cmp_eqs, cmp_nei, cmp_nes, cmp_lt, cmp_le, cmp_gt, cmp_ge, cmp_isn, cmp_ist, cmp_notn, cmp_nott, tr_none, tr_bool, tr_int, tr_str, tr_tup, ix_str, ix_tup, sl_ii, sl_in, sl_ni, bi_lens, bi_lent, bi_min, bi_max, bi_rng, bi_rng2, me_find, me_find2, ok_find, me_app, ok_app, me_ins, me_pop, me_join, me_ends, me_starts, ok_ins, ok_pop, ok_join, ok_ends, ok_starts, it_str, it_rng, neg_int, aug_addi, aug_adds, aug_subi, St.set, St.setAll, List.map_cons, List.map_nil, List.replicate, List.cons_append, List.nil_append, List.getElem?_cons_succ, List.getElem?_cons_zero, List.set_cons_succ, List.set_cons_zero, List.length_cons, List.length_nil, dreduceIte, retV]
  refine l_slides w6.r NR (by omega) fun sl hsl => n6 _ (ss_ret fun Q7 n7 r7 => s_ife fun K7 kt7 kf7 => ?_)
  generalize upd m5 a (.list (C.filterMap fun p => some (V.str p.2))) = m6 at *
  dsimp only [r_lit, r_var, r_bin, r_neg, r_not, r_list, r_tup, r_cmp, r_band, r_bor, r_idx, r_slc, r_attr, r_bi, r_call, r_me, r_imeth, r_comp, r_es0, r_es1, r_ch1, r_bo1, r_bo2, r_tnot, r_tband, r_tbor, r_tcmp, r_tvar, r_tcall, r_tme, r_tidx, r_tbi, r_ts0, r_ts1, r_tgs0, r_tgs1, r_sexpr, r_sassign, r_saug, r_sdel, r_sife, r_swhl, r_sfr, r_sret, r_ss0, r_ss1, tg_var, tg_tup, tg_idx, tg_slc, bin_add, bin_sub, bin_mul, bin_div, bin_mod, bin_cat, cmp_eqi, cmp_eqs, cmp_nei, cmp_nes, cmp_lt, cmp_le, cmp_gt, cmp_ge, cmp_isn, cmp_ist, cmp_notn, cmp_nott, tr_none, tr_bool, tr_int, tr_str, tr_tup, ix_str, ix_tup, sl_ii, sl_in, sl_ni, bi_lens, bi_lent, bi_min, bi_max, bi_rng, bi_rng2, me_find, me_find2, ok_find, me_app, ok_app, me_ins, me_pop, me_join, me_ends, me_starts, ok_ins, ok_pop, ok_join, ok_ends, ok_starts, it_str, it_rng, neg_int, aug_addi, aug_adds, aug_subi, St.set, St.setAll, List.map_cons, List.map_nil, List.replicate, List.cons_append, List.nil_append, List.getElem?_cons_succ, List.getElem?_cons_zero, List.set_cons_succ, List.set_cons_zero, List.length_cons, List.length_nil, dreduceIte, retV]
  have rest : wpSs (pcL cls) [] Q7 (lwS sc x1 (some (.str (side (-1) r))) (some (.str (side 1 r))) t x5 (some (.obj p)) x7 (some (.obj a8)) (some (.bool fl)) (some (.obj c)) (some (.bool sl)) x12 x13 x14 m6) := by
    refine ss_nil (n7 _ (ss_ret fun Q8 n8 r8 => law_alike w6 (by omega) fun a12 m8 w8 h12 => n8 _ (ss_ret fun Q9 n9 r9 => s_ife fun K9 kt9 kf9 => ?_)))
    have hfin : fl = false → turned C = turned R → alks C = [] ∧ (sl = true → C.length < R.length) := fun h1 h2 => by
      obtain ⟨_, b, _, d⟩ := ce h2
      exact ⟨alks_nil.mpr (b h1), fun z => d (hsl.mp z)⟩
    have fin : ∀ x13 m9, LW cls sc oS LS t a8 R c C m9 → m9 a12 = some (.list ((alks C).map V.int)) → Q9 .next (lwS sc x1 (some (.str (side (-1) r))) (some (.str (side 1 r))) t x5 (some (.obj p)) x7 (some (.obj a8)) (some (.bool fl)) (some (.obj c)) (some (.bool sl)) (some (.obj a12)) x13 x14 m9) := fun x13 m9 w9 h12 => by
      refine n9 _ (law_end w9 h12 (by omega) (by omega) tl (fun z => (ce z).1) hfin ret fun q x14 m' w' => ?_)
      exact next q _ _ _ _ _ _ _ _ _ w'.c w'.T w'.S
    dsimp only [r_lit, r_var, r_bin, r_neg, r_not, r_list, r_tup, r_cmp, r_band, r_bor, r_idx, r_slc, r_attr, r_bi, r_call, r_me, r_imeth, r_comp, r_es0, r_es1, r_ch1, r_bo1, r_bo2, r_tnot, r_tband, r_tbor, r_tcmp, r_tvar, r_tcall, r_tme, r_tidx, r_tbi, r_ts0, r_ts1, r_tgs0, r_tgs1, r_sexpr, r_sassign, r_saug, r_sdel, r_sife, r_swhl, r_sfr, r_sret, r_ss0, r_ss1, tg_var, tg_tup, tg_idx, tg_slc, bin_add, bin_sub, bin_mul, bin_div, bin_mod, bin_cat, cmp_eqi, cmp_eqs, cmp_nei, cmp_nes, cmp_lt, cmp_le, cmp_gt, cmp_ge, cmp_isn, cmp_ist, cmp_notn, cmp_nott, tr_none, tr_bool, tr_int, tr_str, tr_tup, ix_str, ix_tup, sl_ii, sl_in, sl_ni, bi_lens, bi_lent, bi_min, bi_max, bi_rng, bi_rng2, me_find, me_find2, ok_find, me_app, ok_app, me_ins, me_pop, me_join, me_ends, me_starts, ok_ins, ok_pop, ok_join, ok_ends, ok_starts, it_str, it_rng, neg_int, aug_addi, aug_adds, aug_subi, St.set, St.setAll, List.map_cons, List.map_nil, List.replicate, List.cons_append, List.nil_append, List.getElem?_cons_succ, List.getElem?_cons_zero, List.set_cons_succ, List.set_cons_zero, List.length_cons, List.length_nil, dreduceIte, retV]
    intro e he
    have w9 := w8.gr (Gr.new he (.list []))
    have h13 := Gr.new he (.list []) _ _ h12
    rw [cmp_eqo]
    refine ⟨_, _, rd_ints h13, rd_ints (ns := []) (upd_self _ _ _), ?_⟩
    rw [show ([] : List Int).map PyData.int = [] from rfl, eqv_nil]
    by_cases hn : alks C = []
    · rw [decide_eq_true hn]
      exact kt9 _ (law_b1 w9 h13 (by omega) NC KC gC sC (alks_nil.mp hn) fun x13 m' w' h' => fin _ _ w' h')
    · rw [decide_eq_false hn]
      exact kf9 _ (ss_nil (fin _ _ w9 h13))
  cases fl with
  | true => exact kf7 _ rest
  | false =>
    cases sl with
    | true => exact kf7 _ rest
    | false =>
      rw [Bool.not_false, if_pos rfl, if_pos rfl, cmp_neo]
      have hRC : C = R := cs (by
        by_cases z : noSl R
        · exact z
        · have := hsl.mpr z; cases this)
      refine ⟨_, _, rd_row w6.c, rd_row w6.r, ?_⟩
      rw [hRC, eqv_row]
      exact kf7 _ rest
end
end Mine
set_option autoImplicit false
set_option maxRecDepth 10000
set_option linter.unusedVariables false
set_option linter.unusedSimpArgs false
namespace Mine
open PySem PyProof.Rows PySem.W

noncomputable def tx (i : Int) : Tx := (texts[(i / 3 % 15).toNat]?).getD []
noncomputable def rowOf (ns : List Int) : Row := (ns.take 12).map fun i => (i % 3 - 1, tx i)
theorem tx_get (i : Int) : pyGet (texts.map V.str) (i / 3 % 15) = some (.str (tx i)) := by
  obtain ⟨k, hk, e⟩ : ∃ k : Nat, k < 15 ∧ i / 3 % 15 = (k : Int) := ⟨(i / 3 % 15).toNat, by omega, by omega⟩
  have hl : texts.length = 15 := rfl
  unfold tx
  rw [e, pyGet_nn _ _ (by rw [List.length_map, hl]; exact hk), Int.toNat_natCast, List.getElem?_map]
  obtain ⟨x, hx⟩ : ∃ x, texts[k]? = some x := ⟨_, List.getElem?_eq_getElem (by rw [hl]; exact hk)⟩
  rw [hx]; rfl
theorem tx_le (i : Int) : (tx i).length ≤ 4 := by
  unfold tx
  have h : ∀ t ∈ texts, t.length ≤ 4 := by decide
  cases q : texts[(i / 3 % 15).toNat]? with
  | none => simp
  | some x => exact h x (List.mem_of_getElem? q)
theorem phi_row (f : Int → Part) (hf : ∀ i, (f i).2.length ≤ 4) : ∀ l : List Int, phi (l.map f) ≤ 5 * l.length
  | [] => by simp [phi]
  | i :: l => by
    rw [List.map_cons, phi_cons, List.length_cons]
    have := phi_row f hf l
    have := hf i
    omega
theorem row_phi (ns : List Int) : phi (rowOf ns) ≤ 60 := by
  have h1 := phi_row (fun i => (i % 3 - 1, tx i)) tx_le (ns.take 12)
  have h2 : (ns.take 12).length ≤ 12 := by rw [List.length_take]; omega
  show phi ((ns.take 12).map fun i => (i % 3 - 1, tx i)) ≤ 60
  omega
theorem row_kinds (ns : List Int) : Kinds (rowOf ns) := fun q hq => by
  obtain ⟨i, _, rfl⟩ := List.mem_map.mp hq
  show i % 3 - 1 = -1 ∨ i % 3 - 1 = 0 ∨ i % 3 - 1 = 1
  omega
theorem phi_ne (r : Row) : phi (ne r) ≤ phi r := by
  induction r with
  | nil => exact Nat.le_refl _
  | cons p r ih =>
    rw [ne_cons, phi_append, phi_cons]
    split
    · rw [phi_nil]; omega
    · rw [phi_cons, phi_nil]; omega
theorem kinds_ne {r : Row} (h : Kinds r) : Kinds (ne r) := fun q hq => h q (List.mem_filter.mp hq).1
theorem pySl_take {α : Type} (xs : List α) (k : Nat) : pySl xs none (some (k : Int)) = xs.take k := by
  by_cases h : k ≤ xs.length
  · exact pySl_to xs h
  · unfold pySl slLo slHi
    simp only [Option.elim]
    rw [clip_nn, Nat.min_eq_right (by omega), List.drop_zero, Nat.sub_zero, List.take_of_length_le (Nat.le_refl _), List.take_of_length_le (by omega)]

section
variable {cls sc : Addr} {oS : Obj} {Q : Fl → St → Prop} {m : Mem} {x2 x3 x4 x5 x6 x7 x8 x9 x10 x11 x12 x13 x14 : Option V} {ns : List Int}
/-- the row is made -/
theorem law_row (hS : m sc = some (.ro oS (ns.map V.int))) (hn : ns.length ≤ 63) {x1 : Option V} (h : ∀ a1 m', Gr m m' → m' a1 = some (.list (rv (rowOf ns))) → Q .next ⟨[some (.obj sc), some (.obj a1), x2, x3, x4, x5, x6, x7, x8, x9, x10, x11, x12, x13, x14], m'⟩) :
    wpS (pcL cls) (.assign [.var 1] (.comp (.tup [.bin .Sub (.bin .Mod (.var 0) (.lit (.int 3))) (.lit (.int 1)), .idx (.call "_law_TEXTS" []) (.bin .Mod (.bin .FloorDiv (.var 0) (.lit (.int 3))) (.lit (.int 15)))]) true [0] (.slc (.var 0) (.lit .none) (.lit (.int 12)) (.lit .none)) [] 1 [])) Q
      ⟨[some (.obj sc), x1, x2, x3, x4, x5, x6, x7, x8, x9, x10, x11, x12, x13, x14], m⟩ := by
  dsimp only [r_lit, r_var, r_bin, r_neg, r_not, r_list, r_tup, r_cmp, r_band, r_bor, r_idx, r_slc, r_attr, r_bi, r_call, r_me, r_imeth, r_comp, r_es0, r_es1, r_ch1, r_bo1, r_bo2, r_tnot, r_tband, r_tbor, r_tcmp, r_tvar, r_tcall, r_tme, r_tidx, r_tbi, r_ts0, r_ts1, r_tgs0, r_tgs1, r_sexpr, r_sassign, r_saug, r_sdel, r_sife, r_swhl, r_sfr, r_sret, r_ss0, r_ss1, tg_var, tg_tup, tg_idx, tg_slc, bin_add, bin_sub, bin_mul, bin_div, bin_mod, bin_cat, cmp_eqi, cmp_eqs, cmp_nei, cmp_nes, cmp_lt, cmp_le, cmp_gt, cmp_ge, cmp_isn, cmp_ist, cmp_notn, cmp_nott, tr_none, tr_bool, tr_int, tr_str, tr_tup, ix_str, ix_tup, sl_ii, sl_in, sl_ni, bi_lens, bi_lent, bi_min, bi_max, bi_rng, bi_rng2, me_find, me_find2, ok_find, me_app, ok_app, me_ins, me_pop, me_join, me_ends, me_starts, ok_ins, ok_pop, ok_join, ok_ends, ok_starts, it_str, it_rng, neg_int, aug_addi, aug_adds, aug_subi, St.set, St.setAll, List.map_cons, List.map_nil, List.replicate, List.cons_append, List.nil_append, List.getElem?_cons_succ, List.getElem?_cons_zero, List.set_cons_succ, List.set_cons_zero, List.length_cons, List.length_nil, dreduceIte, retV]
  rw [sl_lni]
  refine ⟨_, .inr ⟨oS, hS⟩, by rw [List.length_map]; unfold small; omega, fun b hb => ?_⟩
  have e : pySl (ns.map V.int) none (some 12) = (ns.take 12).map V.int := by
    rw [List.map_take]; exact pySl_take _ 12
  rw [e]
  have g1 := Gr.new hb (.list ((ns.take 12).map V.int))
  have hB : upd m b (.list ((ns.take 12).map V.int)) b = some (.list ((ns.take 12).map V.int)) := upd_self _ _ _
  generalize upd m b (.list ((ns.take 12).map V.int)) = m1 at *
  have sl : small ((ns.take 12).map V.int).length := by rw [List.length_map, List.length_take]; unfold small; omega
  rw [it_lst]
  refine ⟨_, hB, sl, sl, ?_⟩
  refine wpComp_map (fun σ => ∃ x m', σ = ⟨[x], m'⟩ ∧ Gr m1 m') V.int (fun i => some (pv (i % 3 - 1, tx i))) (ns.take 12) [] _ ⟨none, m1, rfl, .refl _⟩ (by rintro _ ⟨x, m', rfl, g⟩; exact g _ _ hB) ?_ ?_
  · rintro i _ _ ⟨x, m', rfl, g⟩ K K' _ h2
    have h2 := h2 _ rfl
    rw [bindIs_one]
    dsimp only [r_lit, r_var, r_bin, r_neg, r_not, r_list, r_tup, r_cmp, r_band, r_bor, r_idx, r_slc, r_attr, r_bi, r_call, r_me, r_imeth, r_comp, r_es0, r_es1, r_ch1, r_bo1, r_bo2, r_tnot, r_tband, r_tbor, r_tcmp, r_tvar, r_tcall, r_tme, r_tidx, r_tbi, r_ts0, r_ts1, r_tgs0, r_tgs1, r_sexpr, r_sassign, r_saug, r_sdel, r_sife, r_swhl, r_sfr, r_sret, r_ss0, r_ss1, tg_var, tg_tup, tg_idx, tg_slc, bin_add, bin_sub, bin_mul, bin_div, bin_mod, bin_cat, cmp_eqi, cmp_eqs, cmp_nei, cmp_nes, cmp_lt, cmp_le, cmp_gt, cmp_ge, cmp_isn, cmp_ist, cmp_notn, cmp_nott, tr_none, tr_bool, tr_int, tr_str, tr_tup, ix_str, ix_tup, sl_ii, sl_in, sl_ni, bi_lens, bi_lent, bi_min, bi_max, bi_rng, bi_rng2, me_find, me_find2, ok_find, me_app, ok_app, me_ins, me_pop, me_join, me_ends, me_starts, ok_ins, ok_pop, ok_join, ok_ends, ok_starts, it_str, it_rng, neg_int, aug_addi, aug_adds, aug_subi, St.set, St.setAll, List.map_cons, List.map_nil, List.replicate, List.cons_append, List.nil_append, List.getElem?_cons_succ, List.getElem?_cons_zero, List.set_cons_succ, List.set_cons_zero, List.length_cons, List.length_nil, dreduceIte, retV]
    refine ⟨by decide, l_texts fun m2 a g2 ha => ?_⟩
    refine ⟨by decide, by unfold tiny; omega, by decide, ?_⟩
    rw [ix_lst]
    refine ⟨by unfold tiny; omega, _, _, ha, tx_get i, ?_⟩
    exact h2 _ ⟨_, m2, rfl, g.trans g2⟩
  · rintro _ ⟨x, m', rfl, g⟩ a ha
    dsimp only [r_lit, r_var, r_bin, r_neg, r_not, r_list, r_tup, r_cmp, r_band, r_bor, r_idx, r_slc, r_attr, r_bi, r_call, r_me, r_imeth, r_comp, r_es0, r_es1, r_ch1, r_bo1, r_bo2, r_tnot, r_tband, r_tbor, r_tcmp, r_tvar, r_tcall, r_tme, r_tidx, r_tbi, r_ts0, r_ts1, r_tgs0, r_tgs1, r_sexpr, r_sassign, r_saug, r_sdel, r_sife, r_swhl, r_sfr, r_sret, r_ss0, r_ss1, tg_var, tg_tup, tg_idx, tg_slc, bin_add, bin_sub, bin_mul, bin_div, bin_mod, bin_cat, cmp_eqi, cmp_eqs, cmp_nei, cmp_nes, cmp_lt, cmp_le, cmp_gt, cmp_ge, cmp_isn, cmp_ist, cmp_notn, cmp_nott, tr_none, tr_bool, tr_int, tr_str, tr_tup, ix_str, ix_tup, sl_ii, sl_in, sl_ni, bi_lens, bi_lent, bi_min, bi_max, bi_rng, bi_rng2, me_find, me_find2, ok_find, me_app, ok_app, me_ins, me_pop, me_join, me_ends, me_starts, ok_ins, ok_pop, ok_join, ok_ends, ok_starts, it_str, it_rng, neg_int, aug_addi, aug_adds, aug_subi, St.set, St.setAll, List.map_cons, List.map_nil, List.replicate, List.cons_append, List.nil_append, List.getElem?_cons_succ, List.getElem?_cons_zero, List.set_cons_succ, List.set_cons_zero, List.length_cons, List.length_nil, dreduceIte, retV]
    refine h a _ (g1.trans (g.trans (.new ha _))) ?_
    rw [upd_self]
    unfold rowOf rv
    rw [List.map_map]
    exact congrArg (fun l => some (O.list l)) (congrFun (List.filterMap_eq_map' (f := fun i : Int => pv (i % 3 - 1, tx i))) (ns.take 12))
/-- the parts that are not empty -/
theorem law_parts {a1 : Addr} {r : Row} (hm : m a1 = some (.list (rv r))) (hφ : phi r ≤ 100) (h : ∀ p m', Gr m m' → m' p = some (.list (rv (ne r))) → Q .next ⟨[some (.obj sc), some (.obj a1), x2, x3, x4, x5, some (.obj p), x7, x8, x9, x10, x11, x12, x13, x14], m'⟩) :
    wpS (pcL cls) (.assign [.var 6] (.comp (.var 0) true [0] (.var 1) [.cmp (.idx (.var 0) (.lit (.int 1))) [.NotEq] [.lit (.str [])]] 1 [])) Q
      ⟨[some (.obj sc), some (.obj a1), x2, x3, x4, x5, x6, x7, x8, x9, x10, x11, x12, x13, x14], m⟩ := by
  have lr := len_le_phi r
  dsimp only [r_lit, r_var, r_bin, r_neg, r_not, r_list, r_tup, r_cmp, r_band, r_bor, r_idx, r_slc, r_attr, r_bi, r_call, r_me, r_imeth, r_comp, r_es0, r_es1, r_ch1, r_bo1, r_bo2, r_tnot, r_tband, r_tbor, r_tcmp, r_tvar, r_tcall, r_tme, r_tidx, r_tbi, r_ts0, r_ts1, r_tgs0, r_tgs1, r_sexpr, r_sassign, r_saug, r_sdel, r_sife, r_swhl, r_sfr, r_sret, r_ss0, r_ss1, tg_var, tg_tup, tg_idx, tg_slc, bin_add, bin_sub, bin_mul, bin_div, bin_mod, bin_cat, cmp_eqi, cmp_eqs, cmp_nei, cmp_nes, cmp_lt, cmp_le, cmp_gt, cmp_ge, cmp_isn, cmp_ist, cmp_notn, cmp_nott, tr_none, tr_bool, tr_int, tr_str, tr_tup, ix_str, ix_tup, sl_ii, sl_in, sl_ni, bi_lens, bi_lent, bi_min, bi_max, bi_rng, bi_rng2, me_find, me_find2, ok_find, me_app, ok_app, me_ins, me_pop, me_join, me_ends, me_starts, ok_ins, ok_pop, ok_join, ok_ends, ok_starts, it_str, it_rng, neg_int, aug_addi, aug_adds, aug_subi, St.set, St.setAll, List.map_cons, List.map_nil, List.replicate, List.cons_append, List.nil_append, List.getElem?_cons_succ, List.getElem?_cons_zero, List.set_cons_succ, List.set_cons_zero, List.length_cons, List.length_nil, dreduceIte, retV]
  refine it_row hm (by omega) ⟨by rw [rv_len]; unfold small; omega, ?_⟩
  refine wpComp_map (fun σ => ∃ x, σ = ⟨[x], m⟩) pv neT r [] _ ⟨none, rfl⟩ (by rintro _ ⟨x, rfl⟩; exact hm) ?_ ?_
  · rintro p _ _ ⟨x, rfl⟩ K K' h1 h2
    have g1 : p.2 = [] → ∀ σ', (∃ x, σ' = ⟨[x], m⟩) → K' σ' := fun q => h1 (if_pos q)
    have g2 : ¬ p.2 = [] → ∀ σ', (∃ x, σ' = ⟨[x], m⟩) → K (pv p) σ' := fun q => h2 _ (if_neg q)
    rw [bindIs_one]
    dsimp only [r_lit, r_var, r_bin, r_neg, r_not, r_list, r_tup, r_cmp, r_band, r_bor, r_idx, r_slc, r_attr, r_bi, r_call, r_me, r_imeth, r_comp, r_es0, r_es1, r_ch1, r_bo1, r_bo2, r_tnot, r_tband, r_tbor, r_tcmp, r_tvar, r_tcall, r_tme, r_tidx, r_tbi, r_ts0, r_ts1, r_tgs0, r_tgs1, r_sexpr, r_sassign, r_saug, r_sdel, r_sife, r_swhl, r_sfr, r_sret, r_ss0, r_ss1, tg_var, tg_tup, tg_idx, tg_slc, bin_add, bin_sub, bin_mul, bin_div, bin_mod, bin_cat, cmp_eqi, cmp_eqs, cmp_nei, cmp_nes, cmp_lt, cmp_le, cmp_gt, cmp_ge, cmp_isn, cmp_ist, cmp_notn, cmp_nott, tr_none, tr_bool, tr_int, tr_str, tr_tup, ix_str, ix_tup, sl_ii, sl_in, sl_ni, bi_lens, bi_lent, bi_min, bi_max, bi_rng, bi_rng2, me_find, me_find2, ok_find, me_app, ok_app, me_ins, me_pop, me_join, me_ends, me_starts, ok_ins, ok_pop, ok_join, ok_ends, ok_starts, it_str, it_rng, neg_int, aug_addi, aug_adds, aug_subi, St.set, St.setAll, List.map_cons, List.map_nil, List.replicate, List.cons_append, List.nil_append, List.getElem?_cons_succ, List.getElem?_cons_zero, List.set_cons_succ, List.set_cons_zero, List.length_cons, List.length_nil, dreduceIte, retV]
    refine ix_snd ?_
    dsimp only [r_lit, r_var, r_bin, r_neg, r_not, r_list, r_tup, r_cmp, r_band, r_bor, r_idx, r_slc, r_attr, r_bi, r_call, r_me, r_imeth, r_comp, r_es0, r_es1, r_ch1, r_bo1, r_bo2, r_tnot, r_tband, r_tbor, r_tcmp, r_tvar, r_tcall, r_tme, r_tidx, r_tbi, r_ts0, r_ts1, r_tgs0, r_tgs1, r_sexpr, r_sassign, r_saug, r_sdel, r_sife, r_swhl, r_sfr, r_sret, r_ss0, r_ss1, tg_var, tg_tup, tg_idx, tg_slc, bin_add, bin_sub, bin_mul, bin_div, bin_mod, bin_cat, cmp_eqi, cmp_eqs, cmp_nei, cmp_nes, cmp_lt, cmp_le, cmp_gt, cmp_ge, cmp_isn, cmp_ist, cmp_notn, cmp_nott, tr_none, tr_bool, tr_int, tr_str, tr_tup, ix_str, ix_tup, sl_ii, sl_in, sl_ni, bi_lens, bi_lent, bi_min, bi_max, bi_rng, bi_rng2, me_find, me_find2, ok_find, me_app, ok_app, me_ins, me_pop, me_join, me_ends, me_starts, ok_ins, ok_pop, ok_join, ok_ends, ok_starts, it_str, it_rng, neg_int, aug_addi, aug_adds, aug_subi, St.set, St.setAll, List.map_cons, List.map_nil, List.replicate, List.cons_append, List.nil_append, List.getElem?_cons_succ, List.getElem?_cons_zero, List.set_cons_succ, List.set_cons_zero, List.length_cons, List.length_nil, dreduceIte, retV]
    by_cases q : p.2 = []
    · rw [decide_eq_true q]; exact g1 q _ ⟨_, rfl⟩
    · rw [decide_eq_false q]; exact g2 q _ ⟨_, rfl⟩
  · rintro _ ⟨x, rfl⟩ w hw
    dsimp only [r_lit, r_var, r_bin, r_neg, r_not, r_list, r_tup, r_cmp, r_band, r_bor, r_idx, r_slc, r_attr, r_bi, r_call, r_me, r_imeth, r_comp, r_es0, r_es1, r_ch1, r_bo1, r_bo2, r_tnot, r_tband, r_tbor, r_tcmp, r_tvar, r_tcall, r_tme, r_tidx, r_tbi, r_ts0, r_ts1, r_tgs0, r_tgs1, r_sexpr, r_sassign, r_saug, r_sdel, r_sife, r_swhl, r_sfr, r_sret, r_ss0, r_ss1, tg_var, tg_tup, tg_idx, tg_slc, bin_add, bin_sub, bin_mul, bin_div, bin_mod, bin_cat, cmp_eqi, cmp_eqs, cmp_nei, cmp_nes, cmp_lt, cmp_le, cmp_gt, cmp_ge, cmp_isn, cmp_ist, cmp_notn, cmp_nott, tr_none, tr_bool, tr_int, tr_str, tr_tup, ix_str, ix_tup, sl_ii, sl_in, sl_ni, bi_lens, bi_lent, bi_min, bi_max, bi_rng, bi_rng2, me_find, me_find2, ok_find, me_app, ok_app, me_ins, me_pop, me_join, me_ends, me_starts, ok_ins, ok_pop, ok_join, ok_ends, ok_starts, it_str, it_rng, neg_int, aug_addi, aug_adds, aug_subi, St.set, St.setAll, List.map_cons, List.map_nil, List.replicate, List.cons_append, List.nil_append, List.getElem?_cons_succ, List.getElem?_cons_zero, List.set_cons_succ, List.set_cons_zero, List.length_cons, List.length_nil, dreduceIte, retV]
    refine h w _ (.new hw _) ?_
    show upd m w _ w = _
    rw [upd_self, ne_list]
end
section
variable {cls sc : Addr} {oS : Obj} {Q : V → Mem → Prop} {m : Mem} {ns : List Int}
theorem w_law (hS : m sc = some (.ro oS (ns.map V.int))) (hn : ns.length ≤ 63) (h : ∀ m', m' sc = some (.ro oS (ns.map V.int)) → Q (.bool true) m') :
    wpSs (pcL cls) f_lawBody (fun fl σ' => Q (retV fl) σ'.mem) ⟨[V.obj sc].map some ++ List.replicate 14 none, m⟩ := by
  have fr := row_phi ns
  have kr := row_kinds ns
  unfold f_lawBody
  refine ss_ret fun Q1 n1 r1 => law_row hS hn fun a1 m1 g1 h1 => n1 _ (ss_ret fun Q2 n2 r2 => ?_)
  have hS1 := g1 _ _ hS
  clear n1 r1 g1 hS
  generalize rowOf ns = r at *
  have lr := len_le_phi r
  dsimp only [r_lit, r_var, r_bin, r_neg, r_not, r_list, r_tup, r_cmp, r_band, r_bor, r_idx, r_slc, r_attr, r_bi, r_call, r_me, r_imeth, r_comp, r_es0, r_es1, r_ch1, r_bo1, r_bo2, r_tnot, r_tband, r_tbor, r_tcmp, r_tvar, r_tcall, r_tme, r_tidx, r_tbi, r_ts0, r_ts1, r_tgs0, r_tgs1, r_sexpr, r_sassign, r_saug, r_sdel, r_sife, r_swhl, r_sfr, r_sret, r_ss0, r_ss1, tg_var, tg_tup, tg_idx, tg_slc, bin_add, bin_sub, bin_mul, bin_div, bin_mod, bin_cat, cmp_eqi, cmp_eqs, cmp_nei, cmp_nes, cmp_lt, cmp_le, cmp_gt, cmp_ge, cmp_isn, cmp_ist, cmp_notn, cmp_nott, tr_none, tr_bool, tr_int, tr_str, tr_tup, ix_str, ix_tup, sl_ii, sl_in, sl_ni, bi_lens, bi_lent, bi_min, bi_max, bi_rng, bi_rng2, me_find, me_find2, ok_find, me_app, ok_app, me_ins, me_pop, me_join, me_ends, me_starts, ok_ins, ok_pop, ok_join, ok_ends, ok_starts, it_str, it_rng, neg_int, aug_addi, aug_adds, aug_subi, St.set, St.setAll, List.map_cons, List.map_nil, List.replicate, List.cons_append, List.nil_append, List.getElem?_cons_succ, List.getElem?_cons_zero, List.set_cons_succ, List.set_cons_zero, List.length_cons, List.length_nil, dreduceIte, retV]
  refine l_side h1 (by omega) fun m2 g2 => l_side (g2 _ _ h1) (by omega) fun m3 g3 => ?_
  have h3 := g3 _ _ (g2 _ _ h1)
  have hS3 := g3 _ _ (g2 _ _ hS1)
  clear g2 g3
  refine ⟨rfl, n2 _ (ss_ret fun Q3 n3 r3 => ?_)⟩
  dsimp only [r_lit, r_var, r_bin, r_neg, r_not, r_list, r_tup, r_cmp, r_band, r_bor, r_idx, r_slc, r_attr, r_bi, r_call, r_me, r_imeth, r_comp, r_es0, r_es1, r_ch1, r_bo1, r_bo2, r_tnot, r_tband, r_tbor, r_tcmp, r_tvar, r_tcall, r_tme, r_tidx, r_tbi, r_ts0, r_ts1, r_tgs0, r_tgs1, r_sexpr, r_sassign, r_saug, r_sdel, r_sife, r_swhl, r_sfr, r_sret, r_ss0, r_ss1, tg_var, tg_tup, tg_idx, tg_slc, bin_add, bin_sub, bin_mul, bin_div, bin_mod, bin_cat, cmp_eqi, cmp_eqs, cmp_nei, cmp_nes, cmp_lt, cmp_le, cmp_gt, cmp_ge, cmp_isn, cmp_ist, cmp_notn, cmp_nott, tr_none, tr_bool, tr_int, tr_str, tr_tup, ix_str, ix_tup, sl_ii, sl_in, sl_ni, bi_lens, bi_lent, bi_min, bi_max, bi_rng, bi_rng2, me_find, me_find2, ok_find, me_app, ok_app, me_ins, me_pop, me_join, me_ends, me_starts, ok_ins, ok_pop, ok_join, ok_ends, ok_starts, it_str, it_rng, neg_int, aug_addi, aug_adds, aug_subi, St.set, St.setAll, List.map_cons, List.map_nil, List.replicate, List.cons_append, List.nil_append, List.getElem?_cons_succ, List.getElem?_cons_zero, List.set_cons_succ, List.set_cons_zero, List.length_cons, List.length_nil, dreduceIte, retV]
  refine l_tool fun t m4 g4 hT => n3 _ (ss_ret fun Q4 n4 r4 => ?_)
  have h4 := g4 _ _ h3
  have hS4 := g4 _ _ hS3
  clear g4 h3 hS3 n2 r2 n3 r3
  dsimp only [r_lit, r_var, r_bin, r_neg, r_not, r_list, r_tup, r_cmp, r_band, r_bor, r_idx, r_slc, r_attr, r_bi, r_call, r_me, r_imeth, r_comp, r_es0, r_es1, r_ch1, r_bo1, r_bo2, r_tnot, r_tband, r_tbor, r_tcmp, r_tvar, r_tcall, r_tme, r_tidx, r_tbi, r_ts0, r_ts1, r_tgs0, r_tgs1, r_sexpr, r_sassign, r_saug, r_sdel, r_sife, r_swhl, r_sfr, r_sret, r_ss0, r_ss1, tg_var, tg_tup, tg_idx, tg_slc, bin_add, bin_sub, bin_mul, bin_div, bin_mod, bin_cat, cmp_eqi, cmp_eqs, cmp_nei, cmp_nes, cmp_lt, cmp_le, cmp_gt, cmp_ge, cmp_isn, cmp_ist, cmp_notn, cmp_nott, tr_none, tr_bool, tr_int, tr_str, tr_tup, ix_str, ix_tup, sl_ii, sl_in, sl_ni, bi_lens, bi_lent, bi_min, bi_max, bi_rng, bi_rng2, me_find, me_find2, ok_find, me_app, ok_app, me_ins, me_pop, me_join, me_ends, me_starts, ok_ins, ok_pop, ok_join, ok_ends, ok_starts, it_str, it_rng, neg_int, aug_addi, aug_adds, aug_subi, St.set, St.setAll, List.map_cons, List.map_nil, List.replicate, List.cons_append, List.nil_append, List.getElem?_cons_succ, List.getElem?_cons_zero, List.set_cons_succ, List.set_cons_zero, List.length_cons, List.length_nil, dreduceIte, retV]
  rw [bi_lsto]
  refine ⟨_, h4, by rw [rv_len]; unfold small; omega, fun e he => n4 _ (ss_ret fun Q5 n5 r5 => ?_)⟩
  have g5 := Gr.new he (.list (rv r))
  have hE : upd m4 e (.list (rv r)) e = some (.list (rv r)) := upd_self _ _ _
  have n_1 : a1 ≠ e := fun q => by subst q; rw [h4] at he; cases he
  have n_s : sc ≠ e := fun q => by subst q; rw [hS4] at he; cases he
  have hT5 := hT.gr g5
  have h5 := g5 _ _ h4
  have hS5 := g5 _ _ hS4
  clear n4 r4
  generalize upd m4 e (.list (rv r)) = m5 at *
  dsimp only [r_lit, r_var, r_bin, r_neg, r_not, r_list, r_tup, r_cmp, r_band, r_bor, r_idx, r_slc, r_attr, r_bi, r_call, r_me, r_imeth, r_comp, r_es0, r_es1, r_ch1, r_bo1, r_bo2, r_tnot, r_tband, r_tbor, r_tcmp, r_tvar, r_tcall, r_tme, r_tidx, r_tbi, r_ts0, r_ts1, r_tgs0, r_tgs1, r_sexpr, r_sassign, r_saug, r_sdel, r_sife, r_swhl, r_sfr, r_sret, r_ss0, r_ss1, tg_var, tg_tup, tg_idx, tg_slc, bin_add, bin_sub, bin_mul, bin_div, bin_mod, bin_cat, cmp_eqi, cmp_eqs, cmp_nei, cmp_nes, cmp_lt, cmp_le, cmp_gt, cmp_ge, cmp_isn, cmp_ist, cmp_notn, cmp_nott, tr_none, tr_bool, tr_int, tr_str, tr_tup, ix_str, ix_tup, sl_ii, sl_in, sl_ni, bi_lens, bi_lent, bi_min, bi_max, bi_rng, bi_rng2, me_find, me_find2, ok_find, me_app, ok_app, me_ins, me_pop, me_join, me_ends, me_starts, ok_ins, ok_pop, ok_join, ok_ends, ok_starts, it_str, it_rng, neg_int, aug_addi, aug_adds, aug_subi, St.set, St.setAll, List.map_cons, List.map_nil, List.replicate, List.cons_append, List.nil_append, List.getElem?_cons_succ, List.getElem?_cons_zero, List.set_cons_succ, List.set_cons_zero, List.length_cons, List.length_nil, dreduceIte, retV]
  obtain ⟨KC, gC, sC, pC, sd⟩ := clean_any 100 r kr (by omega)
  have sm := sd (-1) (.inl rfl)
  have sp := sd 1 (.inr rfl)
  refine ⟨im_ok (show Tool (pcL cls) m5 t from hT5) rfl, l_clean hT5 hE kr (by omega) fun m6 h6 x6 => n5 _ (ss_ret fun Q6 n6 r6 => s_ife fun K kt kf => ?_)⟩
  have hT6 := hT5.ext ⟨_, hE⟩ x6
  have h16 := x6 _ _ n_1 h5
  have hS6 := x6 _ _ n_s hS5
  clear n5 r5 x6
  generalize cleanN 100 r = C at *
  dsimp only [r_lit, r_var, r_bin, r_neg, r_not, r_list, r_tup, r_cmp, r_band, r_bor, r_idx, r_slc, r_attr, r_bi, r_call, r_me, r_imeth, r_comp, r_es0, r_es1, r_ch1, r_bo1, r_bo2, r_tnot, r_tband, r_tbor, r_tcmp, r_tvar, r_tcall, r_tme, r_tidx, r_tbi, r_ts0, r_ts1, r_tgs0, r_tgs1, r_sexpr, r_sassign, r_saug, r_sdel, r_sife, r_swhl, r_sfr, r_sret, r_ss0, r_ss1, tg_var, tg_tup, tg_idx, tg_slc, bin_add, bin_sub, bin_mul, bin_div, bin_mod, bin_cat, cmp_eqi, cmp_eqs, cmp_nei, cmp_nes, cmp_lt, cmp_le, cmp_gt, cmp_ge, cmp_isn, cmp_ist, cmp_notn, cmp_nott, tr_none, tr_bool, tr_int, tr_str, tr_tup, ix_str, ix_tup, sl_ii, sl_in, sl_ni, bi_lens, bi_lent, bi_min, bi_max, bi_rng, bi_rng2, me_find, me_find2, ok_find, me_app, ok_app, me_ins, me_pop, me_join, me_ends, me_starts, ok_ins, ok_pop, ok_join, ok_ends, ok_starts, it_str, it_rng, neg_int, aug_addi, aug_adds, aug_subi, St.set, St.setAll, List.map_cons, List.map_nil, List.replicate, List.cons_append, List.nil_append, List.getElem?_cons_succ, List.getElem?_cons_zero, List.set_cons_succ, List.set_cons_zero, List.length_cons, List.length_nil, dreduceIte, retV]
  refine l_side h6 (by omega) fun m7 g7 => ?_
  have h7 := g7 _ _ h6
  dsimp only [r_lit, r_var, r_bin, r_neg, r_not, r_list, r_tup, r_cmp, r_band, r_bor, r_idx, r_slc, r_attr, r_bi, r_call, r_me, r_imeth, r_comp, r_es0, r_es1, r_ch1, r_bo1, r_bo2, r_tnot, r_tband, r_tbor, r_tcmp, r_tvar, r_tcall, r_tme, r_tidx, r_tbi, r_ts0, r_ts1, r_tgs0, r_tgs1, r_sexpr, r_sassign, r_saug, r_sdel, r_sife, r_swhl, r_sfr, r_sret, r_ss0, r_ss1, tg_var, tg_tup, tg_idx, tg_slc, bin_add, bin_sub, bin_mul, bin_div, bin_mod, bin_cat, cmp_eqi, cmp_eqs, cmp_nei, cmp_nes, cmp_lt, cmp_le, cmp_gt, cmp_ge, cmp_isn, cmp_ist, cmp_notn, cmp_nott, tr_none, tr_bool, tr_int, tr_str, tr_tup, ix_str, ix_tup, sl_ii, sl_in, sl_ni, bi_lens, bi_lent, bi_min, bi_max, bi_rng, bi_rng2, me_find, me_find2, ok_find, me_app, ok_app, me_ins, me_pop, me_join, me_ends, me_starts, ok_ins, ok_pop, ok_join, ok_ends, ok_starts, it_str, it_rng, neg_int, aug_addi, aug_adds, aug_subi, St.set, St.setAll, List.map_cons, List.map_nil, List.replicate, List.cons_append, List.nil_append, List.getElem?_cons_succ, List.getElem?_cons_zero, List.set_cons_succ, List.set_cons_zero, List.length_cons, List.length_nil, dreduceIte, retV]
  rw [decide_eq_true sm, Bool.not_true, if_pos rfl]
  refine l_side h7 (by omega) fun m8 g8 => ?_
  have h8 := g8 _ _ h7
  dsimp only [r_lit, r_var, r_bin, r_neg, r_not, r_list, r_tup, r_cmp, r_band, r_bor, r_idx, r_slc, r_attr, r_bi, r_call, r_me, r_imeth, r_comp, r_es0, r_es1, r_ch1, r_bo1, r_bo2, r_tnot, r_tband, r_tbor, r_tcmp, r_tvar, r_tcall, r_tme, r_tidx, r_tbi, r_ts0, r_ts1, r_tgs0, r_tgs1, r_sexpr, r_sassign, r_saug, r_sdel, r_sife, r_swhl, r_sfr, r_sret, r_ss0, r_ss1, tg_var, tg_tup, tg_idx, tg_slc, bin_add, bin_sub, bin_mul, bin_div, bin_mod, bin_cat, cmp_eqi, cmp_eqs, cmp_nei, cmp_nes, cmp_lt, cmp_le, cmp_gt, cmp_ge, cmp_isn, cmp_ist, cmp_notn, cmp_nott, tr_none, tr_bool, tr_int, tr_str, tr_tup, ix_str, ix_tup, sl_ii, sl_in, sl_ni, bi_lens, bi_lent, bi_min, bi_max, bi_rng, bi_rng2, me_find, me_find2, ok_find, me_app, ok_app, me_ins, me_pop, me_join, me_ends, me_starts, ok_ins, ok_pop, ok_join, ok_ends, ok_starts, it_str, it_rng, neg_int, aug_addi, aug_adds, aug_subi, St.set, St.setAll, List.map_cons, List.map_nil, List.replicate, List.cons_append, List.nil_append, List.getElem?_cons_succ, List.getElem?_cons_zero, List.set_cons_succ, List.set_cons_zero, List.length_cons, List.length_nil, dreduceIte, retV]
  rw [decide_eq_true sp, Bool.not_true, if_pos rfl]
  refine l_grouped h8 gC (by omega) ?_
  have g := g7.trans g8
  have hT8 := hT6.gr g
  have h18 := g _ _ h16
  have hS8 := g _ _ hS6
  clear g g7 g8 h6 h7 h8 hT6 hT5 h16 hS6 h5 hS5 h4 hS4 g5 he hE hT
  refine kf _ (ss_nil (n6 _ (ss_ret fun Q9 n9 r9 => law_parts h18 (by omega) fun p m9 g9 h9 => n9 _ (ss_ret fun Q10 n10 r10 => ?_))))
  have hT9 := hT8.gr g9
  have hS9 := g9 _ _ hS8
  clear g9 hT8 hS8 h18 n6 r6 n9 r9
  dsimp only [r_lit, r_var, r_bin, r_neg, r_not, r_list, r_tup, r_cmp, r_band, r_bor, r_idx, r_slc, r_attr, r_bi, r_call, r_me, r_imeth, r_comp, r_es0, r_es1, r_ch1, r_bo1, r_bo2, r_tnot, r_tband, r_tbor, r_tcmp, r_tvar, r_tcall, r_tme, r_tidx, r_tbi, r_ts0, r_ts1, r_tgs0, r_tgs1, r_sexpr, r_sassign, r_saug, r_sdel, r_sife, r_swhl, r_sfr, r_sret, r_ss0, r_ss1, tg_var, tg_tup, tg_idx, tg_slc, bin_add, bin_sub, bin_mul, bin_div, bin_mod, bin_cat, cmp_eqi, cmp_eqs, cmp_nei, cmp_nes, cmp_lt, cmp_le, cmp_gt, cmp_ge, cmp_isn, cmp_ist, cmp_notn, cmp_nott, tr_none, tr_bool, tr_int, tr_str, tr_tup, ix_str, ix_tup, sl_ii, sl_in, sl_ni, bi_lens, bi_lent, bi_min, bi_max, bi_rng, bi_rng2, me_find, me_find2, ok_find, me_app, ok_app, me_ins, me_pop, me_join, me_ends, me_starts, ok_ins, ok_pop, ok_join, ok_ends, ok_starts, it_str, it_rng, neg_int, aug_addi, aug_adds, aug_subi, St.set, St.setAll, List.map_cons, List.map_nil, List.replicate, List.cons_append, List.nil_append, List.getElem?_cons_succ, List.getElem?_cons_zero, List.set_cons_succ, List.set_cons_zero, List.length_cons, List.length_nil, dreduceIte, retV]
  have t2 : tiny 2 := by unfold tiny; omega
  have t0 : tiny 0 := by unfold tiny; omega
  have t1 : tiny 1 := by unfold tiny; omega
  refine ⟨t2, t0, t2, t1, by decide, ?_⟩
  have nN : NE (ne r) := ne_ne r
  have nK := kinds_ne kr
  have nf := phi_ne r
  have s1 : side (-1) (ne r) = side (-1) r := side_ne _ _
  have s2 : side 1 (ne r) = side 1 r := side_ne _ _
  generalize ne r = b at *
  obtain ⟨bN, btl, bcs, bce⟩ := clean_ne 100 b nN nK (by omega)
  obtain ⟨bK, bg, bs, bp, bsd⟩ := clean_any 100 b nK (by omega)
  have b1 := bsd (-1) (.inl rfl)
  have b2 := bsd 1 (.inr rfl)
  show wpLoop _ _ _ _ ([(0 : Int), 1].map V.int) _
  refine loop_map V.int (fun l σ => (l = [0, 1] ∧ σ = lwS sc (some (.obj a1)) (some (.str (side (-1) r))) (some (.str (side 1 r))) t (some (.obj e)) (some (.obj p)) none none none none none none none none m9) ∨
      (l = [1] ∧ ∃ x7 x8 x9 x10 x11 x12 x13 x14 c m', σ = lwS sc (some (.obj a1)) (some (.str (side (-1) r))) (some (.str (side 1 r))) t (some (.obj e)) (some (.obj c)) x7 x8 x9 x10 x11 x12 x13 x14 m' ∧ m' c = some (.list (rv (cleanN 100 b))) ∧ Tool (pcOf cls) m' t ∧ m' sc = some (.ro oS (ns.map V.int))))
    (fun _ _ _ => trivial) ?_ ?_ _ _ (.inl ⟨rfl, rfl⟩)
  · rintro j l σ i Q1 k1 k2
    have ret : ∀ σ' : St, σ'.mem sc = some (.ro oS (ns.map V.int)) → Q1 (.ret (.bool true)) σ' := fun σ' q => k2 _ _ (r10 _ _ (h _ q))
    rcases i with ⟨hl, rfl⟩ | ⟨hl, x7, x8, x9, x10, x11, x12, x13, x14, c, m', rfl, hc, hT', hS'⟩
    · cases hl
      dsimp only [tg_var, St.set, List.set_cons_succ, List.set_cons_zero]
      exact law_b2 hT9 hS9 h9 nN nK (by omega) s1 s2 ret fun _ c m' x8 x9 x10 x11 x12 x13 x14 z1 z2 z3 => k1 _ (.inr ⟨rfl, _, _, _, _, _, _, _, _, c, m', rfl, z1, z2, z3⟩)
    · cases hl
      dsimp only [tg_var, St.set, List.set_cons_succ, List.set_cons_zero]
      refine law_b2 hT' hS' hc bN bK (by omega) (b1.trans s1) (b2.trans s2) ret fun q => absurd ?_ q
      obtain ⟨f1, f2, f3⟩ := plain_grouped bN bK bg
      obtain ⟨_, _, d, _⟩ := clean_ne 100 (cleanN 100 b) bN bK (by omega)
      exact ⟨f1, by rw [d (f3 bs)]⟩
  · rintro σ (⟨hl, _⟩ | ⟨hl, _⟩) <;> cases hl
end
end Mine
set_option autoImplicit false
set_option maxRecDepth 10000
set_option linter.unusedVariables false
set_option linter.unusedSimpArgs false
namespace Mine
open PySem PyProof.Rows PySem.W

theorem Lv.call {A : Around} {k : Nat} (h : Lv A (k + 1)) (C : Addr) : Lv (A.under (.builtin "type.__call__" ⟨[.ref C], []⟩)) k := by
  have hw : Code.weight (.builtin "type.__call__" ⟨[.ref C], []⟩) ≤ 1 := Nat.le_of_eq (by kernel_rfl)
  have hu : Code.cUnits (.builtin "type.__call__" ⟨[.ref C], []⟩) ≤ 4 := by
    have e : Code.cUnits (.builtin "type.__call__" ⟨[.ref C], []⟩) = 1 := by kernel_rfl
    omega
  refine ⟨h.hd, ?_, ?_⟩
  · have := h.dp; show A.depth + _ + k < _; omega
  · have := h.un; show A.units + _ + 4 * k + 80 < _; omega

noncomputable def fns3 : List String := ["_law_TEXTS", "_law_side", "_law_plain", "_law_slides", "_law_turned", "_law_grouped", "diff_match_patch"]
noncomputable def meths3 : List String := ["diff_commonPrefix", "diff_commonSuffix", "diff_cleanupMerge"]
noncomputable def chk3a (K : Frag) : Bool :=
  fnsOk K fns3 && methsOk K (clsA K) meths3 && pcChk K (clsA K) && biChk K && noList K && fns3.all (fun n => fnV K n == .ref (fnA K n)) && cmChk K (clsA K) fns3 meths3
noncomputable def chk3b (K : Frag) : Bool :=
  fnChk K (fnA K "_law_TEXTS") f_law_TEXTSPs f_law_TEXTSRest (locSC f_law_TEXTSPs f_law_TEXTSRest f_law_TEXTSNames fns3 meths3 f_law_TEXTSCells) f_law_TEXTSBody &&
  fnChk K (fnA K "_law_side") f_law_sidePs f_law_sideRest (locSC f_law_sidePs f_law_sideRest f_law_sideNames fns3 meths3 f_law_sideCells) f_law_sideBody &&
  fnChk K (fnA K "_law_plain") f_law_plainPs f_law_plainRest (locSC f_law_plainPs f_law_plainRest f_law_plainNames fns3 meths3 f_law_plainCells) f_law_plainBody &&
  fnChk K (fnA K "_law_slides") f_law_slidesPs f_law_slidesRest (locSC f_law_slidesPs f_law_slidesRest f_law_slidesNames fns3 meths3 f_law_slidesCells) f_law_slidesBody &&
  fnChk K (fnA K "_law_turned") f_law_turnedPs f_law_turnedRest (locSC f_law_turnedPs f_law_turnedRest f_law_turnedNames fns3 meths3 f_law_turnedCells) f_law_turnedBody &&
  fnChk K (fnA K "_law_grouped") f_law_groupedPs f_law_groupedRest (locSC f_law_groupedPs f_law_groupedRest f_law_groupedNames fns3 meths3 f_law_groupedCells) f_law_groupedBody
noncomputable def chk3c (K : Frag) : Bool :=
  makesIn K (clsA K) && findIn K (.ref (clsA K)) "__init__" == some (some (.ref (meA K (clsA K) "__init__"))) && typeIn K (.ref (meA K (clsA K) "__init__")) == some (.type "function") &&
  fnChk K (meA K (clsA K) "__init__") m_initPs m_initRest (locSC m_initPs m_initRest m_initNames fns3 meths3 m_initCells) m_initBody
noncomputable def chk3d (K : Frag) : Bool := fnV K "law" == .ref (fnA K "law") && fnChk K (fnA K "law") f_lawPs f_lawRest (locSC f_lawPs f_lawRest f_lawNames fns3 meths3 f_lawCells) f_lawBody
noncomputable def chk3 (K : Frag) : Bool := chk3a K && chk3b K && chk3c K && chk3d K

section
variable {G : GS} {A : Around}
theorem run3 (gok : G.ok) (gbi : G.bi) (hf : G.fns = fns3) (hme : G.meths = meths3) (ha : chk3a G.K = true) (hb : chk3b G.K = true) (hc : chk3c G.K = true) (lv : Lv A 110) : (pcL (clsA G.K)).run G A := by
  unfold chk3a at ha
  simp only [Bool.and_eq_true, beq_iff_eq] at ha
  obtain ⟨⟨⟨⟨⟨⟨a1, a2⟩, a3⟩, a4⟩, a5⟩, a6⟩, a7⟩ := ha
  unfold chk3b at hb
  simp only [Bool.and_eq_true] at hb
  obtain ⟨⟨⟨⟨⟨b1, b2⟩, b3⟩, b4⟩, b5⟩, b6⟩ := hb
  unfold chk3c at hc
  simp only [Bool.and_eq_true, beq_iff_eq] at hc
  obtain ⟨⟨⟨c1, c2⟩, c3⟩, c4⟩ := hc
  have b : Base G (pcOf (clsA G.K)) := ⟨gok, gbi, pc_ok a3, by rw [hf]; exact a1, by rw [hme]; exact a2⟩
  have fv : ∀ n, n ∈ fns3 → fnV G.K n = .ref (fnA G.K n) := fun n hn => beq_iff_eq.mp (List.all_eq_true.mp a6 n hn)
  have hF : ∀ n, n ∈ fns3 → n ∈ G.fns := fun n hn => by rw [hf]; exact hn
  have hM : ∀ n, n ∈ meths3 → n ∈ G.meths := fun n hn => by rw [hme]; exact hn
  have rm := fun env => (lv.deeper (k := 109) env).rm
  have r0 := fun env => run0 (A := A.deeper env) b
  refine run_mk (b.swap rfl rfl rfl) (fun n hn vs Q m hc => ?_) (fun n hn vs Q m hc => ?_) (fun _ _ _ _ h => h.elim)
  · rcases hc with ⟨rfl, rfl, q⟩ | ⟨rfl, d, k, r, rfl, hm, hφ, q⟩ | ⟨rfl, d, r, rfl, hm, hK, hφ, q⟩ | ⟨rfl, d, r, rfl, hm, hN, hφ, q⟩ | ⟨rfl, d, r, rfl, hm, hφ, q⟩ | ⟨rfl, d, r, rfl, hm, hG, hφ, q⟩ | ⟨rfl, rfl, q⟩
    · rw [fv _ (by decide)]
      exact (call_fn gok gbi b1 lv.room rm r0 hF hM rfl (w_TEXTS q)).toS
    · rw [fv _ (by decide)]
      exact (call_fn gok gbi b2 lv.room rm r0 hF hM rfl (w_side hm (by omega) q)).toS
    · rw [fv _ (by decide)]
      exact (call_fn gok gbi b3 lv.room rm r0 hF hM rfl (w_plain hm hK hφ q)).toS
    · rw [fv _ (by decide)]
      exact (call_fn gok gbi b4 lv.room rm r0 hF hM rfl (w_slides hm (by omega) hN q)).toS
    · rw [fv _ (by decide)]
      exact (call_fn gok gbi b5 lv.room rm r0 hF hM rfl (w_turned hm (by omega) q)).toS
    · rw [fv _ (by decide)]
      exact (call_fn gok gbi b6 lv.room rm r0 hF hM rfl (w_grouped hm (by omega) hG q)).toS
    · rw [fv _ (by decide)]
      refine call_class gok c1 c2 c3 fun x d hx hd hne => ?_
      have lv' := lv.call (k := 109) (clsA G.K)
      refine call_fn gok gbi c4 lv'.room (fun env => (lv'.deeper (k := 108) env).rm) (fun env => run0 b) hF hM rfl (w_init (clsA G.K) x d _ (upd_self _ _ _) (by rw [upd_ne _ _ (Ne.symm hne), upd_self]) (fun r m' => r = V.none ∧ Q (.obj x) m') fun m' h1 h2 h3 => ⟨rfl, q x m' (fun a o e => ?_) ⟨d, toolFs, h1, h2, tool_no⟩⟩)
      have nx : a ≠ x := fun z => by subst z; rw [hx] at e; cases e
      have nd : a ≠ d := fun z => by subst z; rw [hd] at e; cases e
      exact h3 a o nd (by rw [upd_ne _ _ nx, upd_ne _ _ nd]; exact e)
  · exact cm_meth b (by rw [hf, hme]; exact a7) 100 A (lv.less (by omega)) n vs Q m hc
end

theorem fa_law {K : Frag} {h : Heap} {mg : PySem.Str → Option Value} {n : String} {f : Value} (X : K.In h) (g : h.Ns mainGlobals mg) (e : mg (PySem.Str.ofString n) = some f) (h1 : fnV K n = .ref (fnA K n)) : f = .ref (fnA K n) := by
  unfold fnV at h1
  cases q : nsIn K mainGlobals (PySem.Str.ofString n) with
  | none => rw [q] at h1; cases h1
  | some o =>
    cases o with
    | none => rw [q] at h1; cases h1
    | some v =>
      have := mg_of X g q
      rw [e] at this
      cases this
      rw [q] at h1
      exact h1
theorem go3 {K : Frag} {sc : Addr} {ns : List Int} (hn : ns.length ≤ 63) (ha : chk3a K = true) (hb : chk3b K = true) (hc : chk3c K = true) (hd : fnChk K (fnA K "law") f_lawPs f_lawRest (locSC f_lawPs f_lawRest f_lawNames fns3 meths3 f_lawCells) f_lawBody = true)
    {ol : Obj} {m : Mem} (G : GS) (e3 : G.K = K) (e4 : G.fns = fns3) (e5 : G.meths = meths3) (gok : G.ok) (gbi : G.bi) (m2 : m sc = some (.ro ol (ns.map V.int))) (Q : V → Mem → Prop) (hQ : ∀ m', m' sc = some (.ro ol (ns.map V.int)) → Q (.bool true) m') :
    CallC G callerA (.ref (fnA K "law")) [.obj sc] Q m := by
  subst e3
  have hF : ∀ n, n ∈ fns3 → n ∈ G.fns := fun n hn => by rw [e4]; exact hn
  have hM : ∀ n, n ∈ meths3 → n ∈ G.meths := fun n hn => by rw [e5]; exact hn
  have lv : Lv callerA (199 + 1) := callerLv
  exact call_fn gok gbi hd lv.room (fun env => (lv.deeper env).rm) (fun env => run3 gok gbi e4 e5 ha hb hc ((lv.deeper env).less (by omega))) hF hM rfl (w_law m2 hn hQ)
theorem law3_top {prog : Program} {w : World} {p : Program} {loose : List PySem.Str} {mean : ExcName → Option Value} {mg mb : PySem.Str → Option Value} {K : Frag} {sc fa : Addr} {s : Shared}
    {vals : List Value} {ns : List Int} {R : Result → Shared → Prop}
    (X : K.In (ghostOf s.heap [])) (T : Top p loose mean mg mb (ghostOf s.heap [])) (hl : s.heap.IsList sc vals.toArray) (hI : IntsAre vals ns) (hn : ¬ (63 : Int) < (ns.length : Int))
    (hK : chk3 K = true) (hfa : mg (PySem.Str.ofString "law") = some (.ref fa))
    (hpost : ∀ s' : Shared, (∃ h tk, s' = { s with heap := h, toks := tk }) → (∀ b o, (ghostOf s.heap []).get? b = some o → s'.heap.get? b = some o) → R (.ok (.ret (.bool true))) s') :
    codeAny (model prog w) callerA (.call (.ref fa) ⟨[.ref sc], []⟩) R s := by
  unfold chk3 at hK
  simp only [Bool.and_eq_true] at hK
  obtain ⟨⟨⟨ha, hb⟩, hc⟩, hd⟩ := hK
  unfold chk3d at hd
  simp only [Bool.and_eq_true, beq_iff_eq] at hd
  have ef := fa_law X T.g hfa hd.1
  have hbi : biChk K = true := by
    unfold chk3a at ha
    simp only [Bool.and_eq_true] at ha
    exact ha.1.1.1.2
  have hnl : noList K = true := by
    unfold chk3a at ha
    simp only [Bool.and_eq_true] at ha
    exact ha.1.1.2
  have hn' : ns.length ≤ 63 := by omega
  have hT : TabsAt [] s.heap := fun _ h => nomatch h
  rw [ef]
  exact law_top (tabs := []) (fns := fns3) (meths := meths3) hT X T hl hI hbi hnl
    (fun ol G e1 e2 e3 e4 e5 e6 gok gbi bm Ca m1 m2 => go3 hn' ha hb hc hd.2 G e3 e4 e5 gok gbi m2 _ fun m' h => ⟨rfl, (fun _ h => nomatch h), h⟩) (fun s' a b _ => hpost s' a b)
end Mine
open PySem PySem.W PyProof.Rows
set_option Elab.async false
namespace Mine
noncomputable def vw : Program := view PySem.Challenge.pw_im0119_03 [0, 2, 4, 5, 6, 7, 8, 9, 10]
noncomputable def topHook : Hook := myHook chk3 [2, 3, 15, 17, 18, 20, 21, 29, 31, 32, 34, 35, 36, 37, 39, 40, 42, 43, 44, 46, 47, 49, 50, 51, 53, 54, 56, 57, 58, 60, 61, 63, 64, 65, 67, 68, 70, 71, 72, 74, 75, 77, 78, 79, 81, 82, 84, 85, 86, 88, 89, 91, 92, 93, 95, 96, 98, 99, 100, 102, 103, 105, 106, 107, 109, 110, 112, 113, 114, 116, 117, 119, 120, 121, 123, 124, 126, 127, 128, 130, 131, 133, 134, 135, 136, 137, 138, 139, 142, 144, 145, 147, 148, 149, 152, 153, 154, 157, 158, 159, 161, 162, 164, 165, 166, 169, 170, 171, 173, 174, 176, 177, 178, 181, 182] []
set_option maxRecDepth 100000 in
theorem boot1 : ∀ w : World, (fencedOpening treeTable PySem.Challenge.pw_im0119_03 w 1100).map (fun s => (s.heap, s.gens, s.drawn, s.toks)) = some (boot_heap w.params, Array.mk [], boot_drawn, boot_toks) :=
  boot_open rfl (by decide) (fun s => rfl)
set_option maxRecDepth 100000 in
theorem left1 : LeftO PySem.Challenge.pw_im0119_03 vw ["diff_match_patch"] (fun s => xlAt vw [] s && recOk [] s) topHook.obs topHook.val 1100 := by
  refine left_boot boot1 fun w os => ?_
  kernel_rfl
end Mine
set_option maxRecDepth 100000 in
set_option maxHeartbeats 8000000 in
theorem PySem.Challenge.cw_im0119_03_holds : PySem.Challenge.rw_im0119_03.Holds := by
  w_on
  refine holds_law (by kernel_rfl) fun said => ?_
  refine holds_open (q := Mine.vw) (XP := XL Mine.vw []) (YP := Mine.topHook.says) Mine.left1 Mine.topHook.of Mine.topHook.keeps (fun s e => xl_of s (Bool.and_eq_true_iff.mp e).1) XL.keeps (by rfl) (by rfl) (by rfl) (fun s e => recFacts_of (Bool.and_eq_true_iff.mp e).2) (by rfl) (by first | assumption | decide +kernel) (by decide +kernel) ⟨rfl, rfl, rfl, rfl, rfl, by decide +kernel⟩ ?hw ?hc
  (case hw => w_witness2)
  intro w s₀ s₁ mg mb G Y fa o pm cd doc dV kV ho hd hcd hD hmg hg args vals as hpre hlay hrd hwl hlo
  obtain ⟨⟨K, KX, hchk⟩, hT8⟩ := Y
  refine Ground.open G ?_
  intro T B D TE TW
  try (refine guard_noD D (by decide +kernel) ?_; clear D)
  wrow_args hpre hlay hrd hwl hlo
  refine wpAny_call ?_
  refine' Mine.law3_top KX T ?minehl ?minehI ?minehn hchk hmg ?minehpost
  (case minehl => assumption)
  (case minehI => assumption)
  (case minehn => assumption)
  (case minehpost => (intro s' hs hkeep; obtain ⟨h, tk, rfl⟩ := hs; (show GoodWG _ _ _ _ _ (.ok (.ret (.bool true))) _); refine GoodW.toG ?_; refine' And.intro (Or.inl ⟨_, _, [], rfl, raisesW_false ?minep2, .bool true, ?minep3, unshared_nil⟩) ⟨hkeep, rfl, ?minep4⟩; (case minep2 => wrow_none_raised); (case minep3 => first | wrow_post | kc_post); (case minep4 => assumption)))
