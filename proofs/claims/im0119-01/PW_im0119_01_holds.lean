import PyProof.Rows.All
import Wide.All
import OpenK.AllK
import Wide.FinOn
import PySem.Challenge.RW_im0119_01
set_option Elab.async false
set_option autoImplicit false
set_option maxRecDepth 10000
namespace Mine
open PySem PyProof.Rows PySem.W

/-- a text as its signs -/
abbrev Tx := List Char
abbrev mkS (x : Tx) : PySem.Str := ⟨(x.map Char.toNat).toArray⟩

/-- plain values -/
inductive V where
  | none
  | bool (b : Bool)
  | int (i : Int)
  | str (s : Tx)
  | flt (x : UInt64)
  | tup (vs : List V)
  | rng (a b c : Int)
  | obj (a : Addr)

/-- objects that may change -/
inductive O where
  | list (vs : List V)
  | ro (o : Obj) (vs : List V)
  | raw (o : Obj)
  | inst (C d : Addr)
  | dict (fs : List (PySem.Str × V))

abbrev Mem := Addr → Option O
structure St where
  loc : List (Option V)
  mem : Mem

inductive Fl where
  | next | brk | cont
  | ret (v : V)

mutual
inductive RV (h : Heap) : Value → V → Prop
  | none : RV h .none .none
  | bool (b : Bool) : RV h (.bool b) (.bool b)
  | int (i : Int) (t : Tok) : RV h (.int i t) (.int i)
  | str (x : Tx) (t : Tok) : RV h (.str (mkS x) t) (.str x)
  | flt (x : UInt64) (t : Tok) : RV h (.float x t) (.flt x)
  | tup {a : Addr} {arr : Array Value} {n : Nat} {xs : List V} : h.get? a = some { cls := .type "tuple", data := .seq arr n } → RVs h arr.toList xs → RV h (.ref a) (.tup xs)
  | rng {a : Addr} {x y z : Int} {t u w : Tok} : h.get? a = some { cls := .type "range", data := .fields #[.int x t, .int y u, .int z w] } → RV h (.ref a) (.rng x y z)
  | obj (a : Addr) : RV h (.ref a) (.obj a)
inductive RVs (h : Heap) : List Value → List V → Prop
  | nil : RVs h [] []
  | cons {v : Value} {x : V} {vs : List Value} {xs : List V} : RV h v x → RVs h vs xs → RVs h (v :: vs) (x :: xs)
end

/-- tuples and ranges stay -/
noncomputable def Imm (o : Obj) : Prop := (o.cls = .type "tuple" ∧ ∃ xs n, o.data = .seq xs n) ∨ (o.cls = .type "range" ∧ ∃ xs, o.data = .fields xs ∧ ∃ x t, xs[1]? = some (.int x t))
noncomputable def TK (h h' : Heap) : Prop := ∀ b o, h.get? b = some o → Imm o → h'.get? b = some o
theorem TK.refl (h : Heap) : TK h h := fun _ _ e _ => e
theorem TK.trans {h h' h'' : Heap} (a : TK h h') (b : TK h' h'') : TK h h'' := fun x o e c => b x o (a x o e c) c
theorem TK.of {h h' : Heap} (a : ∀ b o, h.get? b = some o → h'.get? b = some o) : TK h h' := fun x o e _ => a x o e

mutual
theorem RV.tk {h h' : Heap} (k : TK h h') : ∀ {v : Value} {x : V}, RV h v x → RV h' v x
  | _, _, .none => .none
  | _, _, .bool b => .bool b
  | _, _, .int i t => .int i t
  | _, _, .str x t => .str x t
  | _, _, .flt x t => .flt x t
  | _, _, .tup e r => .tup (k _ _ e (.inl ⟨rfl, _, _, rfl⟩)) (RVs.tk k r)
  | _, _, .rng e => .rng (k _ _ e (.inr ⟨rfl, _, rfl, _, _, rfl⟩))
  | _, _, .obj a => .obj a
theorem RVs.tk {h h' : Heap} (k : TK h h') : ∀ {v : List Value} {x : List V}, RVs h v x → RVs h' v x
  | _, _, .nil => .nil
  | _, _, .cons a r => .cons (RV.tk k a) (RVs.tk k r)
end

theorem RVs.length {h : Heap} : ∀ {vs : List Value} {xs : List V}, RVs h vs xs → vs.length = xs.length
  | _, _, .nil => rfl
  | _, _, .cons _ r => by simp [RVs.length r]
theorem RVs.append {h : Heap} : ∀ {vs ws : List Value} {xs ys : List V}, RVs h vs xs → RVs h ws ys → RVs h (vs ++ ws) (xs ++ ys)
  | _, _, _, _, .nil, b => b
  | _, _, _, _, .cons a r, b => .cons a (RVs.append r b)
theorem RVs.get {h : Heap} : ∀ {vs : List Value} {xs : List V}, RVs h vs xs → ∀ {i : Nat} {x : V}, xs[i]? = some x → ∃ v, vs[i]? = some v ∧ RV h v x
  | _, _, .nil, i, x, e => by simp at e
  | _, _, .cons a _, 0, x, e => by simp at e; subst e; exact ⟨_, rfl, a⟩
  | _, _, .cons _ r, i + 1, x, e => by simpa using RVs.get r (i := i) (by simpa using e)
theorem RVs.take {h : Heap} : ∀ {vs : List Value} {xs : List V}, RVs h vs xs → ∀ n : Nat, RVs h (vs.take n) (xs.take n)
  | _, _, _, 0 => by simpa using RVs.nil
  | _, _, .nil, n + 1 => by simpa using RVs.nil
  | _, _, .cons a r, n + 1 => by simpa using RVs.cons a (RVs.take r n)
theorem RVs.drop {h : Heap} : ∀ {vs : List Value} {xs : List V}, RVs h vs xs → ∀ n : Nat, RVs h (vs.drop n) (xs.drop n)
  | _, _, r, 0 => by simpa using r
  | _, _, .nil, n + 1 => by simpa using RVs.nil
  | _, _, .cons _ r, n + 1 => by simpa using RVs.drop r n
theorem RVs.set {h : Heap} : ∀ {vs : List Value} {xs : List V}, RVs h vs xs → ∀ (n : Nat) {v : Value} {x : V}, RV h v x → RVs h (vs.set n v) (xs.set n x)
  | _, _, .nil, n, _, _, _ => by simpa using RVs.nil
  | _, _, .cons _ r, 0, _, _, b => by simpa using RVs.cons b r
  | _, _, .cons a r, n + 1, _, _, b => by simpa using RVs.cons a (RVs.set r n b)
theorem RVs.one {h : Heap} {v : Value} {x : V} (r : RV h v x) : RVs h [v] [x] := .cons r .nil

/-- names of an instance's dict -/
noncomputable def Fields (h : Heap) : List DictEntry → List (PySem.Str × V) → Prop
  | [], [] => True
  | e :: es, f :: fs => (∃ t, e.key = .str f.1 t) ∧ RV h e.val f.2 ∧ Fields h es fs
  | _, _ => False
theorem Fields.tk {h h' : Heap} (k : TK h h') : ∀ {es : List DictEntry} {fs : List (PySem.Str × V)}, Fields h es fs → Fields h' es fs
  | [], [], _ => trivial
  | _ :: _, _ :: _, ⟨a, b, c⟩ => ⟨a, b.tk k, Fields.tk k c⟩
  | [], _ :: _, x => x.elim
  | _ :: _, [], x => x.elim

/-- the object in the heap -/
inductive RO (h : Heap) (a : Addr) : O → Prop
  | list {arr : Array Value} {n : Nat} {vs : List V} : h.get? a = some { cls := .type "list", data := .seq arr n } → RVs h arr.toList vs → RO h a (.list vs)
  | ro {arr : Array Value} {n : Nat} {o : Obj} {vs : List V} : h.get? a = some o → o.cls = .type "list" → o.data = .seq arr n → RVs h arr.toList vs → RO h a (.ro o vs)
  | raw {o : Obj} : h.get? a = some o → ¬ Imm o → RO h a (.raw o)
  | inst {C d : Addr} : h.get? a = some (instObj C d) → RO h a (.inst C d)
  | dict {es : List DictEntry} {n : Nat} {fs : List (PySem.Str × V)} : h.get? a = some (dictOf es n) → Fields h es fs → RO h a (.dict fs)

theorem RO.obj {h : Heap} {a : Addr} {o : O} (r : RO h a o) : ∃ x, h.get? a = some x ∧ ¬ Imm x := by
  cases r with
  | list e _ => exact ⟨_, e, by simp [Imm]⟩
  | ro e c _ _ => exact ⟨_, e, by rw [Imm, c]; simp⟩
  | raw e c => exact ⟨_, e, c⟩
  | inst e => exact ⟨_, e, by simp [Imm]⟩
  | dict e _ => exact ⟨_, e, by simp [Imm]⟩
theorem RO.lt {h : Heap} {a : Addr} {o : O} (r : RO h a o) : a < h.objs.size := let ⟨_, e, _⟩ := r.obj; Heap.lt_size e
theorem RO.keep {h h' : Heap} {a : Addr} {o : O} (r : RO h a o) (k : TK h h') (e : ∀ x, h.get? a = some x → h'.get? a = some x) : RO h' a o := by
  cases r with
  | list g s => exact .list (e _ g) (s.tk k)
  | ro g c d s => exact .ro (e _ g) c d (s.tk k)
  | raw g c => exact .raw (e _ g) c
  | inst g => exact .inst (e _ g)
  | dict g s => exact .dict (e _ g) (s.tk k)

/-- the run's fixed part -/
structure GS where
  prog : Program
  w : World
  s0 : Shared
  base : Heap
  keep : Addr → Option Obj
  mg : PySem.Str → Option Value
  mb : PySem.Str → Option Value
  K : Frag
  fns : List String
  meths : List String

structure GS.ok (G : GS) : Prop where
  g : G.base.Ns mainGlobals G.mg
  b : G.base.Ns builtinsNs G.mb
  lim : G.base.NoLimit
  k : G.K.In G.base

inductive VK where
  | loc
  | own (c : Addr)
  | ref (c : Addr)

structure FE where
  env : Env
  vars : List (PySem.Str × VK)

abbrev cellO (v : Option Value) : Obj := { cls := .type "cell", data := .cell v }

structure FE.ok (Γ : FE) : Prop where
  fn : Γ.env.scope.kind = .function
  glb : Γ.env.globals = mainGlobals
  bui : Γ.env.builtins = builtinsNs
  loc : ∀ (i : Nat) x, Γ.vars[i]? = some (x, .loc) → Γ.env.kindOf x = some .local
  own : ∀ (i : Nat) x c, Γ.vars[i]? = some (x, .own c) → Γ.env.kindOf x = some .cell ∧ Γ.env.cells.lookup x = some c ∧ c ≠ Γ.env.locals
  ref : ∀ (i : Nat) x c, Γ.vars[i]? = some (x, .ref c) → (Γ.env.kindOf x = some .cell ∨ Γ.env.kindOf x = some .free) ∧ Γ.env.cells.lookup x = some c
  names : ∀ (i j : Nat) x k k', Γ.vars[i]? = some (x, k) → Γ.vars[j]? = some (x, k') → i = j
  cells : ∀ (i j : Nat) x y c, Γ.vars[i]? = some (x, .own c) → Γ.vars[j]? = some (y, .own c) → i = j
  dbg : ∀ (i : Nat) x k, Γ.vars[i]? = some (x, k) → (x == ("__debug__" : PySem.Str)) = false ∧ (x == ("__classdict__" : PySem.Str)) = false

abbrev Frz := Addr → Option Obj

structure Rep (G : GS) (Γ : FE) (frz : Frz) (σ : St) (s : Shared) : Prop where
  same : ∃ h tk, s = { G.s0 with heap := h, toks := tk }
  hbase : ∀ b o, G.base.get? b = some o → frz b = some o
  hkeep : ∀ b o, G.keep b = some o → frz b = some o
  hfrz : ∀ b o, frz b = some o → s.heap.get? b = some o
  hmem : ∀ a o, σ.mem a = some o → RO s.heap a o
  hmemF : ∀ a o, σ.mem a = some o → frz a = none
  hab : G.base.objs.size ≤ Γ.env.locals
  hlf : frz Γ.env.locals = none
  hlm : σ.mem Γ.env.locals = none
  hns : ∃ m, s.heap.Ns Γ.env.locals m ∧ ∀ (i : Nat) x v, Γ.vars[i]? = some (x, .loc) → σ.loc[i]? = some (some v) → ∃ cv, m x = some cv ∧ RV s.heap cv v
  hown : ∀ (i : Nat) x c, Γ.vars[i]? = some (x, .own c) → frz c = none ∧ σ.mem c = none ∧ ∃ o ov, s.heap.get? c = some o ∧ o.data = .cell ov ∧ ∀ v, σ.loc[i]? = some (some v) → ∃ cv, ov = some cv ∧ RV s.heap cv v
  href : ∀ (i : Nat) x c, Γ.vars[i]? = some (x, .ref c) → ∃ o ov, frz c = some o ∧ o.data = .cell ov ∧ ∀ v, σ.loc[i]? = some (some v) → ∃ cv, ov = some cv ∧ RV s.heap cv v

noncomputable def upd (m : Mem) (a : Addr) (o : O) : Mem := fun b => if b = a then some o else m b
theorem upd_self (m : Mem) (a : Addr) (o : O) : upd m a o a = some o := by simp [upd]
theorem upd_ne (m : Mem) {a b : Addr} (o : O) (h : b ≠ a) : upd m a o b = m b := by simp [upd, h]
theorem upd_upd (m : Mem) (a : Addr) (o o' : O) : upd (upd m a o) a o' = upd m a o' := by
  funext b; by_cases h : b = a <;> simp [upd, h]
theorem upd_id {m : Mem} {a : Addr} {o : O} (h : m a = some o) : upd m a o = m := by
  funext b; by_cases e : b = a
  · subst e; rw [upd_self, h]
  · simp [upd, e]
theorem upd_comm (m : Mem) {a b : Addr} (o o' : O) (h : a ≠ b) : upd (upd m a o) b o' = upd (upd m b o') a o := by
  funext c; by_cases e : c = a
  · subst e; simp [upd, h]
  · simp [upd, e]

section
variable {G : GS} {Γ : FE} {frz : Frz} {σ : St} {s : Shared}

/-- all stands but what hangs on the frame's own dict -/
structure Kp (L : Addr) (h h' : Heap) : Prop where
  all : ∀ b o, b ≠ L → h.get? b = some o → h'.get? b = some o
  ns : ∀ m, h.Ns L m → h'.Ns L m
theorem Kp.of {L : Addr} {h h' : Heap} (k : ∀ b o, h.get? b = some o → h'.get? b = some o) : Kp L h h' := ⟨fun b o _ => k b o, fun _ n => n.keeps k⟩
theorem ns_not_imm {h : Heap} {L : Addr} {m : PySem.Str → Option Value} (n : h.Ns L m) {o : Obj} (e : h.get? L = some o) : ¬ Imm o := by
  obtain ⟨o', es, ep, e', d, _⟩ := n
  rw [e] at e'; cases e'
  rintro (⟨_, _, _, q⟩ | ⟨_, _, q, _⟩) <;> rw [d] at q <;> cases q
theorem Rep.kp_tk (r : Rep G Γ frz σ s) {h' : Heap} (k : Kp Γ.env.locals s.heap h') : TK s.heap h' := fun b o e i => by
  by_cases hb : b = Γ.env.locals
  · subst hb
    obtain ⟨m, n, _⟩ := r.hns
    exact absurd i (ns_not_imm n e)
  · exact k.all b o hb e
theorem Rep.mem_ne (r : Rep G Γ frz σ s) {a : Addr} {o : O} (e : σ.mem a = some o) : a ≠ Γ.env.locals := fun q => by subst q; rw [r.hlm] at e; cases e
theorem Rep.frz_ne (r : Rep G Γ frz σ s) {a : Addr} {o : Obj} (e : frz a = some o) : a ≠ Γ.env.locals := fun q => by subst q; rw [r.hlf] at e; cases e

/-- growth: all that stood stands -/
theorem Rep.growL (ok : Γ.ok) (r : Rep G Γ frz σ s) {h' : Heap} {tk : Nat} (k : Kp Γ.env.locals s.heap h') : Rep G Γ frz σ { s with heap := h', toks := tk } where
  same := let ⟨_, _, e⟩ := r.same; ⟨h', tk, by rw [e]⟩
  hbase := r.hbase
  hkeep := r.hkeep
  hfrz := fun b o e => k.all b o (r.frz_ne e) (r.hfrz b o e)
  hmem := fun a o e => (r.hmem a o e).keep (r.kp_tk k) fun x => k.all a x (r.mem_ne e)
  hmemF := r.hmemF
  hab := r.hab
  hlf := r.hlf
  hlm := r.hlm
  hns := let ⟨m, n, f⟩ := r.hns; ⟨m, k.ns m n, fun i x v a b => let ⟨cv, e, q⟩ := f i x v a b; ⟨cv, e, q.tk (r.kp_tk k)⟩⟩
  hown := fun i x c e => let ⟨a, b, o, ov, g, d, f⟩ := r.hown i x c e; ⟨a, b, o, ov, k.all _ _ (ok.own i x c e).2.2 g, d, fun v q => let ⟨cv, e1, e2⟩ := f v q; ⟨cv, e1, e2.tk (r.kp_tk k)⟩⟩
  href := fun i x c a => let ⟨o, ov, e, d, f⟩ := r.href i x c a; ⟨o, ov, e, d, fun v b => let ⟨cv, e1, e2⟩ := f v b; ⟨cv, e1, e2.tk (r.kp_tk k)⟩⟩
theorem Rep.grow (r : Rep G Γ frz σ s) {h' : Heap} {tk : Nat} (k : ∀ b o, s.heap.get? b = some o → h'.get? b = some o) : Rep G Γ frz σ { s with heap := h', toks := tk } where
  same := let ⟨_, _, e⟩ := r.same; ⟨h', tk, by rw [e]⟩
  hbase := r.hbase
  hkeep := r.hkeep
  hfrz := fun b o e => k b o (r.hfrz b o e)
  hmem := fun a o e => (r.hmem a o e).keep (.of k) (k a)
  hmemF := r.hmemF
  hab := r.hab
  hlf := r.hlf
  hlm := r.hlm
  hns := let ⟨m, n, f⟩ := r.hns; ⟨m, n.keeps k, fun i x v a b => let ⟨cv, e, q⟩ := f i x v a b; ⟨cv, e, q.tk (.of k)⟩⟩
  hown := fun i x c e => let ⟨a, b, o, ov, g, d, f⟩ := r.hown i x c e; ⟨a, b, o, ov, k _ _ g, d, fun v q => let ⟨cv, e1, e2⟩ := f v q; ⟨cv, e1, e2.tk (.of k)⟩⟩
  href := fun i x c a => let ⟨o, ov, e, d, f⟩ := r.href i x c a; ⟨o, ov, e, d, fun v b => let ⟨cv, e1, e2⟩ := f v b; ⟨cv, e1, e2.tk (.of k)⟩⟩

theorem Rep.toks (r : Rep G Γ frz σ s) (tk : Nat) : Rep G Γ frz σ { s with toks := tk } := r.grow (h' := s.heap) fun _ _ e => e

/-- a change at one object of the memory -/
theorem Rep.changeL (ok : Γ.ok) (r : Rep G Γ frz σ s) {a : Addr} {o₀ o : O} (ha : σ.mem a = some o₀) {h' : Heap} {tk : Nat}
    (k : ∀ b o, b ≠ a → b ≠ Γ.env.locals → s.heap.get? b = some o → h'.get? b = some o) (kn : ∀ m, s.heap.Ns Γ.env.locals m → h'.Ns Γ.env.locals m)
    (ro : TK s.heap h' → RO h' a o) : Rep G Γ frz { σ with mem := upd σ.mem a o } { s with heap := h', toks := tk } ∧ TK s.heap h' := by
  have tkk : TK s.heap h' := fun b x e c => by
    by_cases hb : b = a
    · subst hb
      obtain ⟨y, ey, hy⟩ := (r.hmem _ _ ha).obj
      rw [e] at ey; cases ey; exact absurd c hy
    · by_cases hl : b = Γ.env.locals
      · subst hl
        obtain ⟨m, n, _⟩ := r.hns
        exact absurd c (ns_not_imm n e)
      · exact k b x hb hl e
  have nf : ∀ b o, frz b = some o → b ≠ a := fun b o e q => by subst q; rw [r.hmemF _ _ ha] at e; cases e
  refine ⟨⟨let ⟨_, _, e⟩ := r.same; ⟨h', tk, by rw [e]⟩, r.hbase, r.hkeep, fun b o e => k b o (nf b o e) (r.frz_ne e) (r.hfrz b o e), ?_, ?_, r.hab, r.hlf, ?_, ?_, ?_, ?_⟩, tkk⟩
  · intro b x e
    replace e : upd _ _ _ _ = _ := e
    by_cases hb : b = a
    · subst hb; rw [upd_self] at e; cases e; exact ro tkk
    · rw [upd_ne _ _ hb] at e; exact (r.hmem b x e).keep tkk fun y => k b y hb (r.mem_ne e)
  · intro b x e
    replace e : upd _ _ _ _ = _ := e
    by_cases hb : b = a
    · subst hb; exact r.hmemF _ _ ha
    · rw [upd_ne _ _ hb] at e; exact r.hmemF b x e
  · show upd _ _ _ _ = none
    rw [upd_ne]; exact r.hlm
    intro q; rw [← q, r.hlm] at ha; cases ha
  · obtain ⟨m, n, f⟩ := r.hns
    refine ⟨m, kn m n, fun i x v p q => ?_⟩
    obtain ⟨cv, e1, e2⟩ := f i x v p q
    exact ⟨cv, e1, e2.tk tkk⟩
  · intro i x c e
    obtain ⟨p, q, o, ov, g, d, f⟩ := r.hown i x c e
    have hc : c ≠ a := by intro z; rw [z, ha] at q; cases q
    refine ⟨p, ?_, o, ov, k _ _ hc (ok.own i x c e).2.2 g, d, fun v z => ?_⟩
    · show upd _ _ _ _ = none
      rw [upd_ne _ _ hc]; exact q
    · obtain ⟨cv, e1, e2⟩ := f v z; exact ⟨cv, e1, e2.tk tkk⟩
  · intro i x c p
    obtain ⟨o, ov, e1, d, f⟩ := r.href i x c p
    exact ⟨o, ov, e1, d, fun v b => let ⟨cv, e1, e2⟩ := f v b; ⟨cv, e1, e2.tk tkk⟩⟩
theorem Rep.change (ok : Γ.ok) (r : Rep G Γ frz σ s) {a : Addr} {o₀ o : O} (ha : σ.mem a = some o₀) {h' : Heap} {tk : Nat} (k : ∀ b o, b ≠ a → s.heap.get? b = some o → h'.get? b = some o)
    (ro : TK s.heap h' → RO h' a o) : Rep G Γ frz { σ with mem := upd σ.mem a o } { s with heap := h', toks := tk } ∧ TK s.heap h' :=
  r.changeL ok ha (fun b o hb _ => k b o hb) (fun m n => n.extBut (b := a) (fun b o hb e => k b o hb e) (Ne.symm (r.mem_ne ha))) ro

theorem Rep.none_of_ge (r : Rep G Γ frz σ s) {a : Addr} (h : s.heap.objs.size ≤ a) : σ.mem a = none ∧ frz a = none := by
  constructor
  · cases e : σ.mem a with
    | none => rfl
    | some o => exact absurd (r.hmem _ _ e).lt (Nat.not_lt.mpr h)
  · cases e : frz a with
    | none => rfl
    | some o => exact absurd (Heap.lt_size (r.hfrz _ _ e)) (Nat.not_lt.mpr h)

theorem Rep.lt_locals (r : Rep G Γ frz σ s) : Γ.env.locals < s.heap.objs.size := let ⟨_, n, _⟩ := r.hns; n.lt

/-- a new object joins the memory -/
theorem Rep.join (r : Rep G Γ frz σ s) {a : Addr} {o : O} (hm : σ.mem a = none) (hf : frz a = none) (hl : a ≠ Γ.env.locals) (hc : ∀ (i : Nat) x c, Γ.vars[i]? = some (x, .own c) → c ≠ a) (ro : RO s.heap a o) :
    Rep G Γ frz { σ with mem := upd σ.mem a o } s := by
  refine ⟨r.same, r.hbase, r.hkeep, r.hfrz, ?_, ?_, r.hab, r.hlf, ?_, r.hns, ?_, r.href⟩
  · intro b x e
    replace e : upd _ _ _ _ = _ := e
    by_cases hb : b = a
    · subst hb; rw [upd_self] at e; cases e; exact ro
    · rw [upd_ne _ _ hb] at e; exact r.hmem b x e
  · intro b x e
    replace e : upd _ _ _ _ = _ := e
    by_cases hb : b = a
    · subst hb; exact hf
    · rw [upd_ne _ _ hb] at e; exact r.hmemF b x e
  · show upd _ _ _ _ = none
    rw [upd_ne _ _ (Ne.symm hl)]; exact r.hlm
  · intro i x c e
    obtain ⟨p, q, o, ov, g, d, f⟩ := r.hown i x c e
    refine ⟨p, ?_, o, ov, g, d, f⟩
    show upd _ _ _ _ = none
    rw [upd_ne _ _ (hc i x c e)]; exact q
theorem Rep.freshL (ok : Γ.ok) (r : Rep G Γ frz σ s) {a : Addr} {o : O} (ha : s.heap.objs.size ≤ a) {h' : Heap} {tk : Nat} (k : Kp Γ.env.locals s.heap h')
    (ro : RO h' a o) : Rep G Γ frz { σ with mem := upd σ.mem a o } { s with heap := h', toks := tk } := by
  have r' := r.growL ok (tk := tk) k
  refine r'.join (r.none_of_ge ha).1 (r.none_of_ge ha).2 (Ne.symm (Nat.ne_of_lt (Nat.lt_of_lt_of_le r.lt_locals ha))) (fun i x c e => ?_) ro
  obtain ⟨_, _, o', ov', g', _, _⟩ := r.hown i x c e
  exact Nat.ne_of_lt (Nat.lt_of_lt_of_le (Heap.lt_size g') ha)
theorem Rep.fresh (r : Rep G Γ frz σ s) {a : Addr} {o : O} (ha : s.heap.objs.size ≤ a) {h' : Heap} {tk : Nat} (k : ∀ b o, s.heap.get? b = some o → h'.get? b = some o)
    (ro : RO h' a o) : Rep G Γ frz { σ with mem := upd σ.mem a o } { s with heap := h', toks := tk } := by
  have r' := r.grow (tk := tk) k
  refine r'.join (r.none_of_ge ha).1 (r.none_of_ge ha).2 (Ne.symm (Nat.ne_of_lt (Nat.lt_of_lt_of_le r.lt_locals ha))) (fun i x c e => ?_) ro
  obtain ⟨_, _, o', ov', g', _, _⟩ := r.hown i x c e
  exact Nat.ne_of_lt (Nat.lt_of_lt_of_le (Heap.lt_size g') ha)

/-- an object aside: neither told nor held -/
structure Aside (G : GS) (Γ : FE) (frz : Frz) (σ : St) (a : Addr) : Prop where
  m : σ.mem a = none
  f : frz a = none
  l : a ≠ Γ.env.locals
  c : ∀ (i : Nat) x c, Γ.vars[i]? = some (x, .own c) → c ≠ a
  r : ∀ (i : Nat) x c, Γ.vars[i]? = some (x, .ref c) → c ≠ a
theorem Rep.asideNew (r : Rep G Γ frz σ s) {a : Addr} (h : s.heap.objs.size ≤ a) : Aside G Γ frz σ a where
  m := (r.none_of_ge h).1
  f := (r.none_of_ge h).2
  l := Ne.symm (Nat.ne_of_lt (Nat.lt_of_lt_of_le r.lt_locals h))
  c := fun i x c e => let ⟨_, _, _, _, g, _⟩ := r.hown i x c e; Nat.ne_of_lt (Nat.lt_of_lt_of_le (Heap.lt_size g) h)
  r := fun i x c e => let ⟨_, _, g, _⟩ := r.href i x c e; Nat.ne_of_lt (Nat.lt_of_lt_of_le (Heap.lt_size (r.hfrz _ _ g)) h)
theorem Rep.asideTk (r : Rep G Γ frz σ s) {a : Addr} {o : Obj} (_d : Aside G Γ frz σ a) (ho : s.heap.get? a = some o) (ni : ¬ Imm o) {h' : Heap} (k : ∀ b o, b ≠ a → s.heap.get? b = some o → h'.get? b = some o) : TK s.heap h' := fun b x e c => by
  by_cases hb : b = a
  · subst hb; rw [ho] at e; cases e; exact absurd c ni
  · exact k b x hb e
theorem Rep.aside (r : Rep G Γ frz σ s) {a : Addr} {o : Obj} (d : Aside G Γ frz σ a) (ho : s.heap.get? a = some o) (ni : ¬ Imm o) {h' : Heap} {tk : Nat} (k : ∀ b o, b ≠ a → s.heap.get? b = some o → h'.get? b = some o) :
    Rep G Γ frz σ { s with heap := h', toks := tk } ∧ TK s.heap h' := by
  have t := r.asideTk d ho ni k
  have nf : ∀ b o, frz b = some o → b ≠ a := fun b o e q => by subst q; rw [d.f] at e; cases e
  have nm : ∀ b o, σ.mem b = some o → b ≠ a := fun b o e q => by subst q; rw [d.m] at e; cases e
  refine ⟨⟨let ⟨_, _, e⟩ := r.same; ⟨h', tk, by rw [e]⟩, r.hbase, r.hkeep, fun b o e => k b o (nf b o e) (r.hfrz b o e), fun b x e => (r.hmem b x e).keep t fun y ey => k b y (nm b x e) ey, r.hmemF, r.hab, r.hlf, r.hlm, ?_, ?_, ?_⟩, t⟩
  · obtain ⟨m, n, f⟩ := r.hns
    exact ⟨m, n.extBut (b := a) (fun b o hb e => k b o hb e) (Ne.symm d.l), fun i x v p q => let ⟨cv, e1, e2⟩ := f i x v p q; ⟨cv, e1, e2.tk t⟩⟩
  · intro i x c e
    obtain ⟨p, q, o, ov, g, dd, f⟩ := r.hown i x c e
    exact ⟨p, q, o, ov, k _ _ (d.c i x c e) g, dd, fun v z => let ⟨cv, e1, e2⟩ := f v z; ⟨cv, e1, e2.tk t⟩⟩
  · intro i x c e
    obtain ⟨o, ov, g, dd, f⟩ := r.href i x c e
    exact ⟨o, ov, g, dd, fun v z => let ⟨cv, e1, e2⟩ := f v z; ⟨cv, e1, e2.tk t⟩⟩

/-- the frame as the library says it -/
theorem Rep.fr (r : Rep G Γ frz σ s) {m : PySem.Str → Option Value} (n : s.heap.Ns Γ.env.locals m) : Fr G.base Γ.env.locals s.heap m :=
  ⟨n, fun b o e => r.hfrz b o (r.hbase b o e), r.hab⟩
/-- all else, as a ledger -/
noncomputable def restOf (G : GS) (L : Addr) (h : Heap) (D : List Addr) : List (Addr × Obj) :=
  (List.range h.objs.size).filterMap fun b => if b = L ∨ b ∈ D ∨ (G.base.get? b).isSome then none else (h.get? b).map (b, ·)
theorem restOf_mem {L : Addr} {h : Heap} {D : List Addr} {b : Addr} {o : Obj} : (b, o) ∈ restOf G L h D ↔ b ≠ L ∧ b ∉ D ∧ G.base.get? b = none ∧ h.get? b = some o := by
  unfold restOf
  rw [List.mem_filterMap]
  constructor
  · rintro ⟨c, _, e⟩
    split at e
    · cases e
    · rename_i q
      rw [Option.map_eq_some_iff] at e
      obtain ⟨x, e1, e2⟩ := e
      cases e2
      simp only [not_or, Option.not_isSome_iff_eq_none] at q
      exact ⟨q.1, q.2.1, q.2.2, e1⟩
  · rintro ⟨h1, h2, h3, h4⟩
    refine ⟨b, List.mem_range.mpr (Heap.lt_size h4), ?_⟩
    rw [if_neg (by simp [h1, h2, h3]), h4]; rfl
theorem Rep.rest (_r : Rep G Γ frz σ s) (D : List Addr) : News G.base Γ.env.locals s.heap (restOf G Γ.env.locals s.heap D) := fun p hp => by
  obtain ⟨b, o⟩ := p
  obtain ⟨h1, h2, h3, h4⟩ := restOf_mem.mp hp
  exact ⟨h4, h1, h3⟩
theorem Rep.keep_of_rest (r : Rep G Γ frz σ s) {D : List Addr} {h' : Heap} {m : PySem.Str → Option Value} (F : Fr G.base Γ.env.locals h' m) (N : News G.base Γ.env.locals h' (restOf G Γ.env.locals s.heap D)) :
    ∀ b o, b ∉ D → b ≠ Γ.env.locals → s.heap.get? b = some o → h'.get? b = some o := fun b o hd hl e => by
  cases q : G.base.get? b with
  | some o' =>
    have := r.hfrz b o' (r.hbase b o' q)
    rw [e] at this; cases this
    exact F.keep b o q
  | none => exact (N (b, o) (restOf_mem.mpr ⟨hl, hd, q, e⟩)).1

/-- less memory is told -/
theorem Rep.less (r : Rep G Γ frz σ s) {m : Mem} (h : ∀ a o, m a = some o → σ.mem a = some o) : Rep G Γ frz { σ with mem := m } s := by
  have nn : ∀ a, σ.mem a = none → m a = none := fun a e => by
    cases q : m a with
    | none => rfl
    | some o => rw [h a o q] at e; cases e
  exact ⟨r.same, r.hbase, r.hkeep, r.hfrz, fun a o e => r.hmem a o (h a o e), fun a o e => r.hmemF a o (h a o e), r.hab, r.hlf, nn _ r.hlm, r.hns, fun i x c e => let ⟨p, q, t⟩ := r.hown i x c e; ⟨p, nn _ q, t⟩, r.href⟩

/-- more is frozen -/
theorem Rep.freeze (r : Rep G Γ frz σ s) {frz' : Frz} (h1 : ∀ b o, frz b = some o → frz' b = some o) (h2 : ∀ b o, frz' b = some o → s.heap.get? b = some o)
    (h3 : ∀ a o, σ.mem a = some o → frz' a = none) (h4 : frz' Γ.env.locals = none) (h5 : ∀ (i : Nat) x c, Γ.vars[i]? = some (x, .own c) → frz' c = none) : Rep G Γ frz' σ s :=
  ⟨r.same, fun b o e => h1 b o (r.hbase b o e), fun b o e => h1 b o (r.hkeep b o e), h2, r.hmem, h3, r.hab, h4, r.hlm, r.hns, fun i x c e => ⟨h5 i x c e, (r.hown i x c e).2⟩, fun i x c a => let ⟨o, ov, e, d, q⟩ := r.href i x c a; ⟨o, ov, h1 _ _ e, d, q⟩⟩
noncomputable def frzAdd (frz : Frz) (a : Addr) (o : Obj) : Frz := fun b => if b = a then some o else frz b
theorem Rep.freezeOne (r : Rep G Γ frz σ s) {a : Addr} {o : Obj} (ho : s.heap.get? a = some o) (hf : ∀ o', frz a = some o' → o' = o) (hm : σ.mem a = none) (hl : a ≠ Γ.env.locals) (hc : ∀ (i : Nat) x c, Γ.vars[i]? = some (x, .own c) → c ≠ a) :
    Rep G Γ (frzAdd frz a o) σ s := by
  refine r.freeze ?_ ?_ ?_ ?_ ?_
  · intro b x e; unfold frzAdd; split
    · rename_i q; subst q; rw [hf x e]
    · exact e
  · intro b x e; unfold frzAdd at e; split at e
    · rename_i q; subst q; cases e; exact ho
    · exact r.hfrz b x e
  · intro b x e; unfold frzAdd; split
    · rename_i q; subst q; rw [hm] at e; cases e
    · exact r.hmemF b x e
  · unfold frzAdd; rw [if_neg (Ne.symm hl)]; exact r.hlf
  · intro i x c e; unfold frzAdd; rw [if_neg (hc i x c e)]; exact (r.hown i x c e).1
theorem Rep.thaw (r : Rep G Γ frz σ s) {frz' : Frz} (h0 : ∀ b o, G.base.get? b = some o → frz' b = some o) (h0' : ∀ b o, G.keep b = some o → frz' b = some o) (h1 : ∀ b o, frz' b = some o → frz b = some o) (h2 : ∀ (i : Nat) x c o, Γ.vars[i]? = some (x, .ref c) → frz c = some o → frz' c = some o) : Rep G Γ frz' σ s := by
  have nn : ∀ a, frz a = none → frz' a = none := fun a e => by
    cases q : frz' a with
    | none => rfl
    | some o => rw [h1 a o q] at e; cases e
  exact ⟨r.same, h0, h0', fun b o e => r.hfrz b o (h1 b o e), r.hmem, fun a o e => nn _ (r.hmemF a o e), r.hab, nn _ r.hlf, r.hlm, r.hns, fun i x c e => ⟨nn _ (r.hown i x c e).1, (r.hown i x c e).2⟩,
    fun i x c a => let ⟨o, ov, e, d, q⟩ := r.href i x c a; ⟨o, ov, h2 i x c _ a e, d, q⟩⟩
theorem Rep.asideIn (r : Rep G Γ frz σ s) {a : Addr} {o : Obj} (d : Aside G Γ frz σ a) (ho : s.heap.get? a = some o) : Rep G Γ (frzAdd frz a o) σ s :=
  r.freezeOne ho (fun o' e => by rw [d.f] at e; cases e) d.m d.l d.c
theorem Rep.asideOut {σ₀ : St} {s₀ : Shared} (r₀ : Rep G Γ frz σ₀ s₀) {a : Addr} {o : Obj} (d : Aside G Γ frz σ₀ a) (r : Rep G Γ (frzAdd frz a o) σ s) : Rep G Γ frz σ s ∧ Aside G Γ frz σ a ∧ s.heap.get? a = some o := by
  have e : frzAdd frz a o a = some o := by simp [frzAdd]
  have hm : σ.mem a = none := by
    cases q : σ.mem a with
    | none => rfl
    | some x => have := r.hmemF a x q; rw [e] at this; cases this
  refine ⟨r.thaw r₀.hbase r₀.hkeep (fun b x q => ?_) (fun i x c x' p q => ?_), ⟨hm, d.f, d.l, d.c, d.r⟩, r.hfrz _ _ e⟩
  · unfold frzAdd; rw [if_neg (fun z => by subst z; rw [d.f] at q; cases q)]; exact q
  · unfold frzAdd at q; rw [if_neg (d.r i x c p)] at q; exact q
end

abbrev NoE : Value → Shared → Prop := fun _ _ => False

/-- what a value's tree hands on -/
noncomputable def PV (G : GS) (Γ : FE) (frz : Frz) (s : Shared) (Q : V → St → Prop) : Value → Shared → Prop :=
  fun cv s' => ∃ v σ', RV s'.heap cv v ∧ Rep G Γ frz σ' s' ∧ TK s.heap s'.heap ∧ Q v σ'
noncomputable def PVs (G : GS) (Γ : FE) (frz : Frz) (s : Shared) (Q : List V → St → Prop) : List Value → Shared → Prop :=
  fun cv s' => ∃ v σ', RVs s'.heap cv v ∧ Rep G Γ frz σ' s' ∧ TK s.heap s'.heap ∧ Q v σ'
noncomputable def PB (G : GS) (Γ : FE) (frz : Frz) (s : Shared) (Q : Bool → St → Prop) : Bool → Shared → Prop :=
  fun b s' => ∃ σ', Rep G Γ frz σ' s' ∧ TK s.heap s'.heap ∧ Q b σ'
noncomputable def PU (G : GS) (Γ : FE) (frz : Frz) (s : Shared) (Q : St → Prop) : Unit → Shared → Prop :=
  fun _ s' => ∃ σ', Rep G Γ frz σ' s' ∧ TK s.heap s'.heap ∧ Q σ'
inductive RF (h : Heap) : Flow → Fl → Prop
  | next : RF h .next .next
  | brk : RF h .brk .brk
  | cont : RF h .cont .cont
  | ret {v : Value} {x : V} : RV h v x → RF h (.ret v) (.ret x)
noncomputable def PF (G : GS) (Γ : FE) (frz : Frz) (s : Shared) (Q : Fl → St → Prop) : Flow → Shared → Prop :=
  fun f s' => ∃ fl σ', RF s'.heap f fl ∧ Rep G Γ frz σ' s' ∧ TK s.heap s'.heap ∧ Q fl σ'

noncomputable def W (G : GS) (A : Around) (Γ : FE) (t : Sem Value) (Q : V → St → Prop) (σ : St) : Prop :=
  ∀ frz s, Rep G Γ frz σ s → wpAny (model G.prog G.w) A t (PV G Γ frz s Q) NoE s
noncomputable def Ws (G : GS) (A : Around) (Γ : FE) (t : Sem (List Value)) (Q : List V → St → Prop) (σ : St) : Prop :=
  ∀ frz s, Rep G Γ frz σ s → wpAny (model G.prog G.w) A t (PVs G Γ frz s Q) NoE s
noncomputable def WB (G : GS) (A : Around) (Γ : FE) (t : Sem Bool) (Q : Bool → St → Prop) (σ : St) : Prop :=
  ∀ frz s, Rep G Γ frz σ s → wpAny (model G.prog G.w) A t (PB G Γ frz s Q) NoE s
noncomputable def WU (G : GS) (A : Around) (Γ : FE) (t : Sem Unit) (Q : St → Prop) (σ : St) : Prop :=
  ∀ frz s, Rep G Γ frz σ s → wpAny (model G.prog G.w) A t (PU G Γ frz s Q) NoE s
noncomputable def WF (G : GS) (A : Around) (Γ : FE) (t : Sem Flow) (Q : Fl → St → Prop) (σ : St) : Prop :=
  ∀ frz s, Rep G Γ frz σ s → wpAny (model G.prog G.w) A t (PF G Γ frz s Q) NoE s

end Mine
set_option autoImplicit false
set_option maxRecDepth 10000
namespace Mine
open PySem PyProof.Rows PySem.W

inductive Bi where
  | len | min | max | sum | range | list | chr | ord
noncomputable def Bi.name : Bi → String
  | .len => "len" | .min => "min" | .max => "max" | .sum => "sum" | .range => "range" | .list => "list" | .chr => "chr" | .ord => "ord"
inductive Me where
  | find | startswith | endswith | join | append | pop | insert
noncomputable def Me.name : Me → String
  | .find => "find" | .startswith => "startswith" | .endswith => "endswith" | .join => "join" | .append => "append" | .pop => "pop" | .insert => "insert"

inductive Ex where
  | lit (v : V)
  | var (i : Nat)
  | bin (op : Operator) (a b : Ex)
  | neg (a : Ex)
  | not (a : Ex)
  | ite (c a b : Ex)
  | list (es : List Ex)
  | tup (es : List Ex)
  | cmp (a : Ex) (ops : List CmpOp) (es : List Ex)
  | band (es : List Ex)
  | bor (es : List Ex)
  | idx (a i : Ex)
  | slc (a lo hi st : Ex)
  | attr (o : Ex) (n : String)
  | bi (b : Bi) (args : List Ex)
  | call (f : String) (args : List Ex)
  | me (o : Ex) (m : Me) (args : List Ex)
  | imeth (o : Ex) (m : String) (args : List Ex)
  | lcall (i : Nat) (args : List Ex)

inductive Tg where
  | var (i : Nat)
  | tup (is : List Nat)
  | idx (o i : Ex)
  | slc (o lo hi : Ex)
  | attr (o : Ex) (n : String)

inductive Sm where
  | expr (e : Ex)
  | assign (ts : List Tg) (e : Ex)
  | aug (i : Nat) (op : Operator) (e : Ex)
  | del (o i : Ex)
  | ife (c : Ex) (a b : List Sm)
  | whl (c : Ex) (b : List Sm)
  | fr (t : Tg) (it : Ex) (b : List Sm)
  | ret (e : Ex)
  | brk
  | raise

/-- what the text's own names mean -/
structure PC where
  cls : Addr
  fld : String → Bool
  cc : String → Option V
  call : String → List V → (V → Mem → Prop) → Mem → Prop
  meth : String → List V → (V → Mem → Prop) → Mem → Prop
  loc : V → List V → (V → Mem → Prop) → Mem → Prop

noncomputable def pyGet {α : Type} (xs : List α) (i : Int) : Option α := (seqIndex? i xs.length).bind (xs[·]?)
noncomputable def clip (n : Nat) (i : Int) : Nat := clipAt n i
noncomputable def slLo (n : Nat) (lo : Option Int) : Nat := lo.elim 0 (clip n)
noncomputable def slHi (n : Nat) (hi : Option Int) : Nat := hi.elim n (clip n)
noncomputable def pySl {α : Type} (xs : List α) (lo hi : Option Int) : List α :=
  (xs.drop (slLo xs.length lo)).take (slHi xs.length hi - slLo xs.length lo)

noncomputable def slPart : V → Option (Option Int)
  | .none => some none
  | .int i => some (some i)
  | _ => none

noncomputable def rd : Nat → Mem → V → Option PyData
  | _, _, .none => some .none
  | _, _, .bool b => some (.bool b)
  | _, _, .int i => some (.int i)
  | _, _, .str s => some (.str (mkS s))
  | n + 1, m, .tup vs => (vs.mapM (rd n m)).map .tuple
  | n + 1, m, .obj a => match m a with
    | some (.list vs) => (vs.mapM (rd n m)).map .list
    | _ => none
  | _, _, _ => none

noncomputable def lookF (n : String) : List (PySem.Str × V) → Option V
  | [] => none
  | (x, v) :: r => if x = PySem.Str.ofString n then some v else lookF n r
noncomputable def setF (n : String) (v : V) : List (PySem.Str × V) → List (PySem.Str × V)
  | [] => [(PySem.Str.ofString n, v)]
  | (x, u) :: r => if x = PySem.Str.ofString n then (x, v) :: r else (x, u) :: setF n v r

/-- n ints from a on by c -/
noncomputable def rngFrom (a c : Int) : Nat → List V
  | 0 => []
  | n + 1 => .int a :: rngFrom (a + c) c n
noncomputable def rngL (a b c : Int) : List V := rngFrom a c (Builtin.Range.rangeSize a b c).toNat

noncomputable def small (n : Nat) : Prop := n ≤ 1000000
noncomputable def tiny (i : Int) : Prop := -1000000000 < i ∧ i < 1000000000

noncomputable def wpBin (m : Mem) : Operator → V → V → (V → Mem → Prop) → Prop
  | .Add, .int a, .int b, Q => Q (.int (a + b)) m
  | .Sub, .int a, .int b, Q => Q (.int (a - b)) m
  | .Mult, .int a, .int b, Q => tiny a ∧ Q (.int (a * b)) m
  | .FloorDiv, .int a, .int b, Q => 0 < b ∧ tiny b ∧ Q (.int (a / b)) m
  | .Mod, .int a, .int b, Q => 0 < b ∧ Q (.int (a % b)) m
  | .Add, .str a, .str b, Q => small a.length ∧ small b.length ∧ Q (.str (a ++ b)) m
  | .Add, .obj a, .obj b, Q => ∃ xs ys, m a = some (.list xs) ∧ m b = some (.list ys) ∧ small xs.length ∧ small ys.length ∧ ∀ c, m c = none → Q (.obj c) (upd m c (.list (xs ++ ys)))
  | .Mult, .obj a, .int k, Q => ∃ x, m a = some (.list [x]) ∧ tiny k ∧ small k.toNat ∧ ∀ c, m c = none → Q (.obj c) (upd m c (.list (List.replicate k.toNat x)))
  | _, _, _, _ => False

noncomputable def arg1 (vs : List V) (K : V → Prop) : Prop := match vs with
  | [v] => K v
  | _ => False
noncomputable def arg2 (vs : List V) (K : V → V → Prop) : Prop := match vs with
  | [v, u] => K v u
  | _ => False
noncomputable def asI (v : V) (K : Int → Prop) : Prop := match v with
  | .int i => K i
  | _ => False
noncomputable def asS (v : V) (K : Tx → Prop) : Prop := match v with
  | .str i => K i
  | _ => False
noncomputable def asO (v : V) (K : Addr → Prop) : Prop := match v with
  | .obj i => K i
  | _ => False
theorem arg1_inv {vs : List V} {K : V → Prop} (h : arg1 vs K) : ∃ v, vs = [v] ∧ K v := by
  cases vs with
  | nil => exact h.elim
  | cons v r => cases r with
    | nil => exact ⟨v, rfl, h⟩
    | cons => exact h.elim
theorem arg2_inv {vs : List V} {K : V → V → Prop} (h : arg2 vs K) : ∃ v u, vs = [v, u] ∧ K v u := by
  cases vs with
  | nil => exact h.elim
  | cons v r => cases r with
    | nil => exact h.elim
    | cons u r => cases r with
      | nil => exact ⟨v, u, rfl, h⟩
      | cons => exact h.elim
theorem asI_inv {v : V} {K : Int → Prop} (h : asI v K) : ∃ i, v = .int i ∧ K i := by cases v <;> first | exact False.elim h | exact ⟨_, rfl, h⟩
theorem asS_inv {v : V} {K : Tx → Prop} (h : asS v K) : ∃ i, v = .str i ∧ K i := by cases v <;> first | exact False.elim h | exact ⟨_, rfl, h⟩
theorem asO_inv {v : V} {K : Addr → Prop} (h : asO v K) : ∃ i, v = .obj i ∧ K i := by cases v <;> first | exact False.elim h | exact ⟨_, rfl, h⟩

noncomputable def eqAny (m : Mem) (a b : V) (K : Bool → Prop) : Prop := ∃ d e, rd 8 m a = some d ∧ rd 8 m b = some e ∧ K (PyData.eqv d e)
noncomputable def cmpEq (m : Mem) (a b : V) (K : Bool → Prop) : Prop := match a with
  | .int x => (match b with | .int y => K (decide (x = y)) | _ => eqAny m a b K)
  | .str x => (match b with | .str y => K (decide (x = y)) | _ => eqAny m a b K)
  | _ => eqAny m a b K
noncomputable def cmpIs (a b : V) (K : Bool → Prop) : Prop := match b with
  | .none => (match a with | .none => K true | .tup _ => K false | _ => False)
  | _ => False
noncomputable def ordI (a b : V) (K : Int → Int → Prop) : Prop := asI a fun x => asI b fun y => K x y
noncomputable def wpCmp (m : Mem) (op : CmpOp) (a b : V) (Q : Bool → Prop) : Prop := match op with
  | .Eq => cmpEq m a b Q
  | .NotEq => cmpEq m a b fun t => Q (!t)
  | .Lt => ordI a b fun x y => Q (decide (x < y))
  | .LtE => ordI a b fun x y => Q (decide (x ≤ y))
  | .Gt => ordI a b fun x y => Q (decide (y < x))
  | .GtE => ordI a b fun x y => Q (decide (y ≤ x))
  | .Is => cmpIs a b Q
  | .IsNot => cmpIs a b fun t => Q (!t)
  | _ => False

noncomputable def wpTruth (m : Mem) : V → (Bool → Prop) → Prop
  | .none, Q => Q false
  | .bool b, Q => Q b
  | .int i, Q => Q (i != 0)
  | .str s, Q => small s.length ∧ Q (!s.isEmpty)
  | .tup vs, Q => small vs.length ∧ Q (!vs.isEmpty)
  | .obj a, Q => ∃ vs, m a = some (.list vs) ∧ small vs.length ∧ Q (!vs.isEmpty)
  | _, _ => False

noncomputable def wpIdx (m : Mem) : V → V → (V → Prop) → Prop
  | .str s, .int i, Q => tiny i ∧ ∃ c, pyGet s i = some c ∧ Q (.str [c])
  | .tup vs, .int i, Q => tiny i ∧ ∃ v, pyGet vs i = some v ∧ Q v
  | .obj a, .int i, Q => tiny i ∧ ∃ vs v, m a = some (.list vs) ∧ pyGet vs i = some v ∧ Q v
  | _, _, _ => False

noncomputable def wpSlc (m : Mem) : V → V → V → V → (V → Mem → Prop) → Prop
  | .str s, lo, hi, .none, Q => match slPart lo, slPart hi with | some a, some b => small s.length ∧ Q (.str (pySl s a b)) m | _, _ => False
  | .obj l, lo, hi, .none, Q => ∃ a b vs, slPart lo = some a ∧ slPart hi = some b ∧ (m l = some (.list vs) ∨ ∃ o, m l = some (.ro o vs)) ∧ small vs.length ∧ ∀ c, m c = none → Q (.obj c) (upd m c (.list (pySl vs a b)))
  | _, _, _, _, _ => False

noncomputable def wpAttr (P : PC) (m : Mem) : V → String → (V → Prop) → Prop
  | .obj a, n, Q => ∃ d fs, m a = some (.inst P.cls d) ∧ m d = some (.dict fs) ∧ match lookF n fs with
      | some v => P.fld n = true ∧ Q v
      | none => ∃ v, P.cc n = some v ∧ Q v
  | _, _, _ => False

noncomputable def Occ (s t : Tx) (i : Nat) : Prop := i + t.length ≤ s.length ∧ (s.drop i).take t.length = t
/-- r: the first place from k on, or -1 -/
noncomputable def FindIs (s t : Tx) (k : Nat) (r : Int) : Prop := (r = -1 ∧ ∀ i, k ≤ i → ¬ Occ s t i) ∨ ∃ i : Nat, r = i ∧ k ≤ i ∧ Occ s t i ∧ ∀ j, k ≤ j → j < i → ¬ Occ s t j

noncomputable def wpBi (m : Mem) (b : Bi) (args : List V) (Q : V → Mem → Prop) : Prop := match b with
  | .len => arg1 args fun v => match v with
    | .str s => small s.length ∧ Q (.int s.length) m
    | .tup vs => small vs.length ∧ Q (.int vs.length) m
    | .obj a => ∃ vs, (m a = some (.list vs) ∨ ∃ o, m a = some (.ro o vs)) ∧ small vs.length ∧ Q (.int vs.length) m
    | _ => False
  | .min => arg2 args fun v u => ordI v u fun a b => Q (.int (if b < a then b else a)) m
  | .max => match args with
    | [v] => asO v fun a => ∃ ns : List Int, m a = some (.list (ns.map V.int)) ∧ 0 < ns.length ∧ ∀ M : Int, M ∈ ns → (∀ a, a ∈ ns → a ≤ M) → Q (.int M) m
    | [v, u] => ordI v u fun a b => Q (.int (if a < b then b else a)) m
    | _ => False
  | .range => match args with
    | [v] => asI v fun a => tiny a ∧ Q (.rng 0 a 1) m
    | [v, u] => ordI v u fun a b => tiny a ∧ tiny b ∧ Q (.rng a b 1) m
    | [v, u, w] => ordI v u fun a b => asI w fun c => tiny a ∧ tiny b ∧ tiny c ∧ 0 < c ∧ Q (.rng a b c) m
    | _ => False
  | .list => arg1 args fun v => match v with
    | .tup vs => small vs.length ∧ ∀ c, m c = none → Q (.obj c) (upd m c (.list vs))
    | .obj a => ∃ vs, m a = some (.list vs) ∧ small vs.length ∧ ∀ c, m c = none → Q (.obj c) (upd m c (.list vs))
    | _ => False
  | _ => False

noncomputable def meOk (m : Mem) : V → Me → Prop
  | .str _, .find => True
  | .str _, .startswith => True
  | .str _, .endswith => True
  | .obj a, .append => ∃ l, m a = some (.list l)
  | _, _ => False
noncomputable def wpMe (m : Mem) (o : V) (me : Me) (args : List V) (Q : V → Mem → Prop) : Prop := match me with
  | .find => asS o fun s => match args with
    | [v] => asS v fun t => small s.length ∧ small t.length ∧ ∀ r, FindIs s t 0 r → Q (.int r) m
    | [v, u] => asS v fun t => asI u fun i => small s.length ∧ small t.length ∧ 0 ≤ i ∧ ∀ r, FindIs s t i.toNat r → Q (.int r) m
    | _ => False
  | .startswith => asS o fun s => arg1 args fun v => asS v fun t => Q (.bool (decide (s.take t.length = t))) m
  | .endswith => asS o fun s => arg1 args fun v => asS v fun t => Q (.bool (decide (t.length ≤ s.length ∧ s.drop (s.length - t.length) = t))) m
  | .append => asO o fun a => arg1 args fun v => ∃ vs, m a = some (.list vs) ∧ small vs.length ∧ Q .none (upd m a (.list (vs ++ [v])))
  | _ => False

noncomputable def St.set (σ : St) (i : Nat) (v : V) : St := { σ with loc := σ.loc.set i (some v) }
noncomputable def St.setAll (σ : St) : List Nat → List V → St
  | i :: is, v :: vs => (σ.set i v).setAll is vs
  | _, _ => σ

mutual
noncomputable def wpE (P : PC) : Ex → (V → St → Prop) → St → Prop
  | .lit v, Q, σ => Q v σ
  | .var i, Q, σ => match σ.loc[i]? with | some (some v) => Q v σ | _ => False
  | .bin op a b, Q, σ => wpE P a (fun v σ₁ => wpE P b (fun u σ₂ => wpBin σ₂.mem op v u fun r m => Q r { σ₂ with mem := m }) σ₁) σ
  | .neg a, Q, σ => wpE P a (fun v σ₁ => match v with | .int i => Q (.int (-i)) σ₁ | _ => False) σ
  | .not a, Q, σ => wpE P a (fun v σ₁ => wpTruth σ₁.mem v fun b => Q (.bool (!b)) σ₁) σ
  | .ite c a b, Q, σ => wpT P c (wpE P c) (fun t σ₁ => if t then wpE P a Q σ₁ else wpE P b Q σ₁) σ
  | .list es, Q, σ => wpEs P es (fun vs σ₁ => ∀ a, σ₁.mem a = none → Q (.obj a) { σ₁ with mem := upd σ₁.mem a (.list vs) }) σ
  | .tup es, Q, σ => wpEs P es (fun vs σ₁ => Q (.tup vs) σ₁) σ
  | .cmp a ops es, Q, σ => wpE P a (fun v σ₁ => wpCh P ops es v (fun b σ₂ => Q (.bool b) σ₂) σ₁) σ
  | .band es, Q, σ => wpBo P true es Q σ
  | .bor es, Q, σ => wpBo P false es Q σ
  | .idx a i, Q, σ => wpE P a (fun v σ₁ => wpE P i (fun u σ₂ => wpIdx σ₂.mem v u fun r => Q r σ₂) σ₁) σ
  | .slc a lo hi st, Q, σ => wpE P a (fun v σ₁ => wpE P lo (fun l σ₂ => wpE P hi (fun h σ₃ => wpE P st (fun s σ₄ => wpSlc σ₄.mem v l h s fun r m => Q r { σ₄ with mem := m }) σ₃) σ₂) σ₁) σ
  | .attr o n, Q, σ => wpE P o (fun v σ₁ => wpAttr P σ₁.mem v n fun r => Q r σ₁) σ
  | .bi b args, Q, σ => wpEs P args (fun vs σ₁ => wpBi σ₁.mem b vs fun r m => Q r { σ₁ with mem := m }) σ
  | .call f args, Q, σ => wpEs P args (fun vs σ₁ => P.call f vs (fun r m => Q r { σ₁ with mem := m }) σ₁.mem) σ
  | .me o m args, Q, σ => wpE P o (fun v σ₁ => meOk σ₁.mem v m ∧ wpEs P args (fun vs σ₂ => wpMe σ₂.mem v m vs fun r m' => Q r { σ₂ with mem := m' }) σ₁) σ
  | .imeth o n args, Q, σ => wpE P o (fun v σ₁ => (∃ a d fs, v = .obj a ∧ σ₁.mem a = some (.inst P.cls d) ∧ σ₁.mem d = some (.dict fs) ∧ lookF n fs = none) ∧
      wpEs P args (fun vs σ₂ => P.meth n (v :: vs) (fun r m => Q r { σ₂ with mem := m }) σ₂.mem) σ₁) σ
  | .lcall i args, Q, σ => match σ.loc[i]? with | some (some v) => wpEs P args (fun vs σ₁ => P.loc v vs (fun r m => Q r { σ₁ with mem := m }) σ₁.mem) σ | _ => False
noncomputable def wpEs (P : PC) : List Ex → (List V → St → Prop) → St → Prop
  | [], Q, σ => Q [] σ
  | e :: es, Q, σ => wpE P e (fun v σ₁ => wpEs P es (fun vs σ₂ => Q (v :: vs) σ₂) σ₁) σ
noncomputable def wpCh (P : PC) : List CmpOp → List Ex → V → (Bool → St → Prop) → St → Prop
  | op :: ops, e :: es, v, Q, σ => match ops with
    | [] => es = [] ∧ wpE P e (fun u σ₁ => wpCmp σ₁.mem op v u fun b => Q b σ₁) σ
    | _ :: _ => wpE P e (fun u σ₁ => wpCmp σ₁.mem op v u fun b => if b then wpCh P ops es u Q σ₁ else Q false σ₁) σ
  | _, _, _, _, _ => False
noncomputable def wpBo (P : PC) (k : Bool) : List Ex → (V → St → Prop) → St → Prop
  | [], _, _ => False
  | [e], Q, σ => wpE P e Q σ
  | e :: es, Q, σ => wpE P e (fun v σ₁ => wpTruth σ₁.mem v fun b => if b = k then wpBo P k es Q σ₁ else Q v σ₁) σ
noncomputable def wpT (P : PC) : Ex → ((V → St → Prop) → St → Prop) → (Bool → St → Prop) → St → Prop
  | .not a, _, Q, σ => wpT P a (wpE P a) (fun b σ₁ => Q (!b) σ₁) σ
  | .band es, _, Q, σ => wpTs P true es Q σ
  | .bor es, _, Q, σ => wpTs P false es Q σ
  | .ite c a b, _, Q, σ => wpT P c (wpE P c) (fun t σ₁ => if t then wpT P a (wpE P a) Q σ₁ else wpT P b (wpE P b) Q σ₁) σ
  | .cmp a ops es, _, Q, σ => wpE P a (fun v σ₁ => wpCh P ops es v Q σ₁) σ
  | _, w, Q, σ => w (fun v σ₁ => wpTruth σ₁.mem v fun b => Q b σ₁) σ
noncomputable def wpTs (P : PC) (k : Bool) : List Ex → (Bool → St → Prop) → St → Prop
  | [], Q, σ => Q k σ
  | e :: es, Q, σ => wpT P e (wpE P e) (fun b σ₁ => if b = k then wpTs P k es Q σ₁ else Q (!k) σ₁) σ
end

theorem loc_inv {o : Option (Option V)} {K : V → Prop} (h : match o with | some (some v) => K v | _ => False) : ∃ v, o = some (some v) ∧ K v := by
  cases o with
  | none => exact h.elim
  | some o => cases o with
    | none => exact h.elim
    | some v => exact ⟨v, rfl, h⟩
theorem tup_inv {v : V} {K : List V → Prop} (h : match v with | .tup vs => K vs | _ => False) : ∃ vs, v = .tup vs ∧ K vs := by
  cases v <;> first | exact h.elim | exact ⟨_, rfl, h⟩
theorem sl_inv {a b : Option (Option Int)} {K : Option Int → Option Int → Prop} (h : match a, b with | some a, some b => K a b | _, _ => False) : ∃ x y, a = some x ∧ b = some y ∧ K x y := by
  cases a with
  | none => exact h.elim
  | some a => cases b with
    | none => exact h.elim
    | some b => exact ⟨_, _, rfl, rfl, h⟩

noncomputable def pyIx (n : Nat) (i : Int) : Option Nat := seqIndex? i n

noncomputable def wpAug (_m : Mem) (op : Operator) (v u : V) (Q : V → Prop) : Prop := match op with
  | .Add => (match v with
    | .int a => asI u fun b => Q (.int (a + b))
    | .str a => asS u fun b => small a.length ∧ small b.length ∧ Q (.str (a ++ b))
    | _ => False)
  | .Sub => ordI v u fun a b => Q (.int (a - b))
  | _ => False

noncomputable def wpTg (P : PC) : Tg → V → (St → Prop) → St → Prop
  | .var i, v, Q, σ => Q (σ.set i v)
  | .tup is, v, Q, σ => match v with | .tup vs => vs.length = is.length ∧ Q (σ.setAll is vs) | _ => False
  | .idx o i, v, Q, σ => wpE P o (fun ov σ₁ => wpE P i (fun iv σ₂ => ∃ a k vs j, ov = .obj a ∧ iv = .int k ∧ tiny k ∧ σ₂.mem a = some (.list vs) ∧ pyIx vs.length k = some j ∧
      Q { σ₂ with mem := upd σ₂.mem a (.list (vs.set j v)) }) σ₁) σ
  | .slc o lo hi, v, Q, σ => wpE P o (fun ov σ₁ => wpE P lo (fun l σ₂ => wpE P hi (fun h σ₃ => ∃ a b ia ib xs ys, ov = .obj a ∧ v = .obj b ∧ slPart l = some ia ∧ slPart h = some ib ∧ a ≠ b ∧
      σ₃.mem a = some (.list xs) ∧ σ₃.mem b = some (.list ys) ∧ small xs.length ∧ small ys.length ∧
      Q { σ₃ with mem := upd σ₃.mem a (.list (xs.take (slLo xs.length ia) ++ ys ++ xs.drop (max (slLo xs.length ia) (slHi xs.length ib)))) }) σ₂) σ₁) σ
  | .attr o n, v, Q, σ => wpE P o (fun ov σ₁ => ∃ a d fs, ov = .obj a ∧ σ₁.mem a = some (.inst P.cls d) ∧ σ₁.mem d = some (.dict fs) ∧ fs.length ≤ 100 ∧ P.fld n = true ∧
      Q { σ₁ with mem := upd σ₁.mem d (.dict (setF n v fs)) }) σ
noncomputable def wpTgs (P : PC) : List Tg → V → (St → Prop) → St → Prop
  | [], _, Q, σ => Q σ
  | t :: ts, v, Q, σ => wpTg P t v (fun σ₁ => wpTgs P ts v Q σ₁) σ

noncomputable def wpItems (m : Mem) : V → (List V → (Mem → Prop) → Prop) → Prop
  | .tup vs, K => small vs.length ∧ K vs fun _ => True
  | .str s, K => small s.length ∧ K (s.map fun c => .str [c]) fun _ => True
  | .rng a b c, K => tiny a ∧ tiny b ∧ tiny c ∧ 0 < c ∧ K (rngL a b c) fun _ => True
  | .obj a, K => ∃ vs, m a = some (.list vs) ∧ small vs.length ∧ K vs fun m' => m' a = some (.list vs)
  | _, _ => False

noncomputable def wpLoop (bind : V → (St → Prop) → St → Prop) (body : (Fl → St → Prop) → St → Prop) (g : Mem → Prop) (Q : Fl → St → Prop) : List V → St → Prop
  | [], σ => g σ.mem ∧ Q .next σ
  | v :: vs, σ => g σ.mem ∧ bind v (body fun fl σ₁ => match fl with
      | .next => wpLoop bind body g Q vs σ₁
      | .cont => wpLoop bind body g Q vs σ₁
      | .brk => Q .next σ₁
      | .ret r => Q (.ret r) σ₁) σ

noncomputable def wpWhile (test : (Bool → St → Prop) → St → Prop) (body : (Fl → St → Prop) → St → Prop) (Q : Fl → St → Prop) (σ : St) : Prop :=
  ∃ I : Nat → St → Prop, (∃ n, I n σ) ∧ ∀ n σ', I n σ' → test (fun b σ₁ => if b then body (fun fl σ₂ => match fl with
      | .next => ∃ k, k < n ∧ I k σ₂
      | .cont => ∃ k, k < n ∧ I k σ₂
      | .brk => Q .next σ₂
      | .ret r => Q (.ret r) σ₂) σ₁ else Q .next σ₁) σ'

mutual
noncomputable def wpS (P : PC) : Sm → (Fl → St → Prop) → St → Prop
  | .expr e, Q, σ => wpE P e (fun _ σ₁ => Q .next σ₁) σ
  | .assign ts e, Q, σ => wpE P e (fun v σ₁ => wpTgs P ts v (fun σ₂ => Q .next σ₂) σ₁) σ
  | .aug i op e, Q, σ => match σ.loc[i]? with | some (some v) => wpE P e (fun u σ₁ => wpAug σ₁.mem op v u fun r => Q .next (σ₁.set i r)) σ | _ => False
  | .del o i, Q, σ => wpE P o (fun ov σ₁ => wpE P i (fun iv σ₂ => ∃ a k vs j, ov = .obj a ∧ iv = .int k ∧ tiny k ∧ σ₂.mem a = some (.list vs) ∧ pyIx vs.length k = some j ∧
      Q .next { σ₂ with mem := upd σ₂.mem a (.list (vs.eraseIdx j)) }) σ₁) σ
  | .ife c a b, Q, σ => wpT P c (wpE P c) (fun t σ₁ => if t then wpSs P a Q σ₁ else wpSs P b Q σ₁) σ
  | .whl c b, Q, σ => wpWhile (wpT P c (wpE P c)) (wpSs P b) Q σ
  | .fr t it b, Q, σ => wpE P it (fun v σ₁ => wpItems σ₁.mem v fun vs g => wpLoop (wpTg P t) (wpSs P b) g Q vs σ₁) σ
  | .ret e, Q, σ => wpE P e (fun v σ₁ => Q (.ret v) σ₁) σ
  | .brk, Q, σ => Q .brk σ
  | .raise, _, _ => False
noncomputable def wpSs (P : PC) : List Sm → (Fl → St → Prop) → St → Prop
  | [], Q, σ => Q .next σ
  | s :: ss, Q, σ => wpS P s (fun fl σ₁ => match fl with | .next => wpSs P ss Q σ₁ | .brk => Q .brk σ₁ | .cont => Q .cont σ₁ | .ret r => Q (.ret r) σ₁) σ
end

/-- what is known of a block's names -/
structure SC where
  vars : List (PySem.Str × Bool)
  names : List (PySem.Str × NameKind)
  fns : List String
  meths : List String

noncomputable def litOk (v : V) (c : Const) : Bool := match v with
  | .none => c == .none
  | .bool b => c == .bool b
  | .int i => c == .int i
  | .flt x => c == .float x
  | .str s => c == .str (mkS s)
  | _ => false

noncomputable def SC.is (C : SC) (i : Nat) (x : PySem.Str) : Bool := match C.vars[i]? with | some (y, _) => y == x | none => false
noncomputable def SC.isW (C : SC) (i : Nat) (x : PySem.Str) : Bool := match C.vars[i]? with | some (y, r) => y == x && !r | none => false
noncomputable def SC.glob (C : SC) (n : String) (x : PySem.Str) : Bool := PySem.Str.ofString n == x && C.names.lookup x == some .globalImplicit && !(x == PySem.Str.ofString "__debug__")

noncomputable def Me.fits : Me → Bool
  | .find | .startswith | .endswith | .append => true
  | _ => false
noncomputable def notCall : Expr → Bool
  | .Call .. => false
  | _ => true
/-- no starred, no set -/
noncomputable def plainE : Expr → Bool
  | .Starred .. => false
  | .Set .. => false
  | _ => true

-- views of a given expression
noncomputable def asConst : Expr → Option Const
  | .Constant c _ _ => some c
  | _ => none
noncomputable def asName : Expr → Option PySem.Str
  | .Name n _ => some n
  | _ => none
noncomputable def asBin : Expr → Option (Expr × Operator × Expr)
  | .BinOp l o r _ => some (l, o, r)
  | _ => none
noncomputable def asUn : Expr → Option (UnaryOp × Expr)
  | .UnaryOp o y _ => some (o, y)
  | _ => none
noncomputable def asIf : Expr → Option (Expr × Expr × Expr)
  | .IfExp t y z _ => some (t, y, z)
  | _ => none
noncomputable def asList : Expr → Option (List Expr)
  | .List xs _ => some xs
  | _ => none
noncomputable def asTup : Expr → Option (List Expr)
  | .Tuple xs _ _ => some xs
  | _ => none
noncomputable def asCmp : Expr → Option (Expr × List CmpOp × List Expr)
  | .Compare l os cs _ => some (l, os, cs)
  | _ => none
noncomputable def asBool : Expr → Option (BoolOp × List Expr)
  | .BoolOp o xs _ => some (o, xs)
  | _ => none
noncomputable def asSub : Expr → Option (Expr × Expr)
  | .Subscript v s _ => some (v, s)
  | _ => none
noncomputable def asSlice : Expr → Option (Option Expr × Option Expr × Option Expr)
  | .Slice l u s _ => some (l, u, s)
  | _ => none
noncomputable def asAttr : Expr → Option (Expr × PySem.Str × Pos)
  | .Attribute v y p => some (v, y, p)
  | _ => none
noncomputable def asCall : Expr → Option (Expr × List Expr × List Keyword × Pos)
  | .Call f xs k p => some (f, xs, k, p)
  | _ => none
theorem no_some {α : Type} {t : α} {P : Prop} (h : none = some t) : P := by cases h
theorem any_inv {α : Type} {o : Option α} {f : α → Bool} (h : o.any f = true) : ∃ a, o = some a ∧ f a = true := by
  cases o with
  | none => cases h
  | some a => exact ⟨a, rfl, h⟩
theorem asConst_inv {e : Expr} {c : Const} (h : asConst e = some c) : ∃ k p, e = .Constant c k p := by cases e <;> first | exact no_some h | (cases h; exact ⟨_, _, rfl⟩)
theorem asName_inv {e : Expr} {n : PySem.Str} (h : asName e = some n) : ∃ p, e = .Name n p := by cases e <;> first | exact no_some h | (cases h; exact ⟨_, rfl⟩)
theorem asBin_inv {e : Expr} {t : Expr × Operator × Expr} (h : asBin e = some t) : ∃ p, e = .BinOp t.1 t.2.1 t.2.2 p := by cases e <;> first | exact no_some h | (cases h; exact ⟨_, rfl⟩)
theorem asUn_inv {e : Expr} {t : UnaryOp × Expr} (h : asUn e = some t) : ∃ p, e = .UnaryOp t.1 t.2 p := by cases e <;> first | exact no_some h | (cases h; exact ⟨_, rfl⟩)
theorem asIf_inv {e : Expr} {t : Expr × Expr × Expr} (h : asIf e = some t) : ∃ p, e = .IfExp t.1 t.2.1 t.2.2 p := by cases e <;> first | exact no_some h | (cases h; exact ⟨_, rfl⟩)
theorem asList_inv {e : Expr} {t : List Expr} (h : asList e = some t) : ∃ p, e = .List t p := by cases e <;> first | exact no_some h | (cases h; exact ⟨_, rfl⟩)
theorem asTup_inv {e : Expr} {t : List Expr} (h : asTup e = some t) : ∃ k p, e = .Tuple t k p := by cases e <;> first | exact no_some h | (cases h; exact ⟨_, _, rfl⟩)
theorem asCmp_inv {e : Expr} {t : Expr × List CmpOp × List Expr} (h : asCmp e = some t) : ∃ p, e = .Compare t.1 t.2.1 t.2.2 p := by cases e <;> first | exact no_some h | (cases h; exact ⟨_, rfl⟩)
theorem asBool_inv {e : Expr} {t : BoolOp × List Expr} (h : asBool e = some t) : ∃ p, e = .BoolOp t.1 t.2 p := by cases e <;> first | exact no_some h | (cases h; exact ⟨_, rfl⟩)
theorem asSub_inv {e : Expr} {t : Expr × Expr} (h : asSub e = some t) : ∃ p, e = .Subscript t.1 t.2 p := by cases e <;> first | exact no_some h | (cases h; exact ⟨_, rfl⟩)
theorem asSlice_inv {e : Expr} {t : Option Expr × Option Expr × Option Expr} (h : asSlice e = some t) : ∃ p, e = .Slice t.1 t.2.1 t.2.2 p := by cases e <;> first | exact no_some h | (cases h; exact ⟨_, rfl⟩)
theorem asAttr_inv {e : Expr} {t : Expr × PySem.Str × Pos} (h : asAttr e = some t) : e = .Attribute t.1 t.2.1 t.2.2 := by cases e <;> first | exact no_some h | (cases h; rfl)
theorem asCall_inv {e : Expr} {t : Expr × List Expr × List Keyword × Pos} (h : asCall e = some t) : e = .Call t.1 t.2.1 t.2.2.1 t.2.2.2 := by cases e <;> first | exact no_some h | (cases h; rfl)

noncomputable def isNoneEx : Ex → Bool
  | .lit v => match v with
    | .none => true
    | _ => false
  | _ => false
noncomputable def optOk (n : Bool) (f : Expr → Bool) (x : Option Expr) : Bool := match x with
  | none => n
  | some e => f e
mutual
noncomputable def chkE (C : SC) : Ex → Expr → Bool
  | .lit v, x => (asConst x).any fun c => litOk v c
  | .var i, x => (asName x).any fun n => C.is i n
  | .bin op a b, x => (asBin x).any fun t => op == t.2.1 && chkE C a t.1 && chkE C b t.2.2
  | .neg a, x => (asUn x).any fun t => t.1 == .USub && chkE C a t.2
  | .not a, x => (asUn x).any fun t => t.1 == .Not && chkE C a t.2
  | .ite c a b, x => (asIf x).any fun t => chkE C c t.1 && chkE C a t.2.1 && chkE C b t.2.2
  | .list es, x => (asList x).any fun xs => decide (xs.length < 1000) && chkEs C es xs
  | .tup es, x => (asTup x).any fun xs => decide (xs.length < 1000) && chkEs C es xs
  | .cmp a ops es, x => (asCmp x).any fun t => chkE C a t.1 && ops == t.2.1 && chkEs C es t.2.2
  | .band es, x => (asBool x).any fun t => t.1 == .And && chkEs C es t.2
  | .bor es, x => (asBool x).any fun t => t.1 == .Or && chkEs C es t.2
  | .idx a i, x => (asSub x).any fun t => chkE C a t.1 && chkE C i t.2
  | .slc a lo hi st, x => (asSub x).any fun t => (asSlice t.2).any fun u => chkE C a t.1 && optOk (isNoneEx lo) (fun e => chkE C lo e) u.1 && optOk (isNoneEx hi) (fun e => chkE C hi e) u.2.1 && optOk (isNoneEx st) (fun e => chkE C st e) u.2.2
  | .attr o n, x => (asAttr x).any fun t => PySem.Str.ofString n == t.2.1 && notCall t.1 && chkE C o t.1
  | .bi b args, x => (asCall x).any fun t => (asName t.1).any fun f => t.2.2.1.isEmpty && C.glob b.name f && chkEs C args t.2.1
  | .call n args, x => (asCall x).any fun t => (asName t.1).any fun f => t.2.2.1.isEmpty && C.fns.contains n && C.glob n f && chkEs C args t.2.1
  | .me o m args, x => (asCall x).any fun t => (asAttr t.1).any fun a => t.2.2.1.isEmpty && m.fits && PySem.Str.ofString m.name == a.2.1 && a.2.2.endLine == t.2.2.2.line && decide (t.2.1.length < 20) && notCall a.1 && chkE C o a.1 && chkEs C args t.2.1
  | .imeth o n args, x => (asCall x).any fun t => (asAttr t.1).any fun a => t.2.2.1.isEmpty && C.meths.contains n && PySem.Str.ofString n == a.2.1 && a.2.2.endLine == t.2.2.2.line && decide (t.2.1.length < 20) && notCall a.1 && chkE C o a.1 && chkEs C args t.2.1
  | .lcall i args, x => (asCall x).any fun t => (asName t.1).any fun y => t.2.2.1.isEmpty && C.is i y && chkEs C args t.2.1
noncomputable def chkEs (C : SC) : List Ex → List Expr → Bool
  | [], xs => xs.isEmpty
  | a :: as, xs => xs.head?.any fun e => plainE e && chkE C a e && chkEs C as xs.tail
end
noncomputable def chkO (C : SC) (a : Ex) (x : Option Expr) : Bool := optOk (isNoneEx a) (fun e => chkE C a e) x
theorem chkEs_cons {C : SC} {a : Ex} {as : List Ex} {xs : List Expr} (h : chkEs C (a :: as) xs = true) : ∃ e es, xs = e :: es ∧ plainE e = true ∧ chkE C a e = true ∧ chkEs C as es = true := by
  cases xs with
  | nil => cases h
  | cons e es =>
    have h : (plainE e && chkE C a e && chkEs C as es) = true := h
    rw [Bool.and_eq_true, Bool.and_eq_true] at h
    exact ⟨e, es, rfl, h.1.1, h.1.2, h.2⟩
theorem chkEs_nil {C : SC} {xs : List Expr} (h : chkEs C [] xs = true) : xs = [] := by
  cases xs with
  | nil => rfl
  | cons => cases h
end Mine
set_option autoImplicit false
set_option maxRecDepth 10000
namespace Mine
open PySem PyProof.Rows PySem.W

theorem mkS_append (a b : Tx) : (mkS a ++ mkS b : PySem.Str) = mkS (a ++ b) := by
  show PySem.Str.append (mkS a) (mkS b) = _
  simp [PySem.Str.append, mkS]
theorem mkS_length (a : Tx) : (mkS a).length = a.length := by simp [PySem.Str.length]
theorem toNat_inj {a b : Char} (h : a.toNat = b.toNat) : a = b := by
  apply Char.ext; apply UInt32.toNat_inj.mp; exact h
theorem mkS_inj {a b : Tx} (h : mkS a = mkS b) : a = b := by
  have h2 : (a.map Char.toNat) = (b.map Char.toNat) := by
    have := congrArg (fun x : PySem.Str => x.cps.toList) h
    simpa using this
  exact (List.map_inj_right fun x y e => toNat_inj e).mp h2
theorem mkS_beq (a b : Tx) : (mkS a == mkS b) = decide (a = b) := by
  by_cases h : a = b
  · subst h; simp
  · simp only [h, decide_false]
    exact beq_eq_false_iff_ne.mpr fun e => h (mkS_inj e)
theorem mkS_ok (a : Tx) : PyData.strOk (mkS a) = true := by
  rw [PyData.strOk, Array.all_eq_true_iff_forall_mem]
  intro n hn
  have hn' : n ∈ a.map Char.toNat := by simpa [mkS] using hn
  obtain ⟨c, _, rfl⟩ := List.mem_map.mp hn'
  have := c.valid
  simp only [decide_eq_true_eq]
  have h : c.toNat = c.val.toNat := rfl
  rw [h]
  rcases this with h1 | h1
  · omega
  · omega

section
variable {G : GS} {A : Around} {Γ : FE} {frz : Frz} {σ : St} {s : Shared} {Q : V → Mem → Prop}

/-- what an operation hands on -/
noncomputable def PO (G : GS) (Γ : FE) (frz : Frz) (σ : St) (s : Shared) (Q : V → Mem → Prop) : Value → Shared → Prop :=
  fun cv s' => ∃ v m, RV s'.heap cv v ∧ Rep G Γ frz { σ with mem := m } s' ∧ TK s.heap s'.heap ∧ Q v m

theorem PO.pure (r : Rep G Γ frz σ s) {cv : Value} {v : V} {tk : Nat} (h : RV s.heap cv v) (q : Q v σ.mem) : PO G Γ frz σ s Q cv { s with toks := tk } :=
  ⟨v, σ.mem, h, r.toks tk, .refl _, q⟩
theorem PO.here (r : Rep G Γ frz σ s) {cv : Value} {v : V} (h : RV s.heap cv v) (q : Q v σ.mem) : PO G Γ frz σ s Q cv s :=
  ⟨v, σ.mem, h, r, .refl _, q⟩
theorem push_keeps (h : Heap) (o : Obj) : ∀ b o', h.get? b = some o' → (h.push o).get? b = some o' := fun _ _ e => Heap.get?_push_of_some o e
/-- a new list -/
theorem PO.newList (r : Rep G Γ frz σ s) {arr : Array Value} {vs : List V} {tk : Nat} (h : RVs s.heap arr.toList vs) (q : ∀ c, σ.mem c = none → Q (.obj c) (upd σ.mem c (.list vs))) :
    PO G Γ frz σ s Q (.ref s.heap.objs.size) { s with heap := s.heap.push { cls := .type "list", data := .seq arr }, toks := tk } := by
  have k := push_keeps s.heap { cls := .type "list", data := .seq arr }
  refine ⟨.obj s.heap.objs.size, _, .obj _, r.fresh (Nat.le_refl _) k (.list (Heap.get?_push_size _ rfl) (h.tk (.of k))), .of k, q _ (r.none_of_ge (Nat.le_refl _)).1⟩
theorem PO.newTup (r : Rep G Γ frz σ s) {arr : Array Value} {vs : List V} {tk : Nat} (h : RVs s.heap arr.toList vs) (q : Q (.tup vs) σ.mem) :
    PO G Γ frz σ s Q (.ref s.heap.objs.size) { s with heap := s.heap.push { cls := .type "tuple", data := .seq arr }, toks := tk } := by
  have k := push_keeps s.heap { cls := .type "tuple", data := .seq arr }
  exact ⟨.tup vs, _, .tup (Heap.get?_push_size _ rfl) (h.tk (.of k)), r.grow k, .of k, q⟩

theorem small_line {n : Nat} (h : small n) : n ≤ sizeLine := by unfold small at h; rw [sizeLine_eq]; omega

theorem tiny_mul {a b : Int} (h : tiny a) : IntMulOk a b := by
  refine IntMulOk.of_left ?_
  unfold tiny at h
  unfold Builtin.Int.intBits
  have h2 : a.natAbs < 2 ^ 63 := by omega
  by_cases h0 : a.natAbs = 0
  · have h1 : a = 0 := by omega
    subst h1; decide
  · have := Nat.log2_lt (n := a.natAbs) (k := 63) h0
    have h3 := this.mpr h2
    split <;> omega

theorem foldl_rep {α : Type} (x : α) : ∀ (n : Nat) (acc : Array α), (List.foldl (fun x1 x2 => x1 ++ x2) acc (List.replicate n #[x])).toList = acc.toList ++ List.replicate n x
  | 0, acc => by simp
  | n + 1, acc => by rw [List.replicate_succ, List.foldl_cons, foldl_rep x n]; simp [List.replicate_succ]
theorem RVs.rep {h : Heap} {v : Value} {x : V} (a : RV h v x) : ∀ n : Nat, RVs h (List.replicate n v) (List.replicate n x)
  | 0 => .nil
  | n + 1 => .cons a (RVs.rep a n)

theorem fdiv_pos {a b : Int} (h : 0 < b) : a.fdiv b = a / b := by rw [Int.fdiv_eq_ediv_of_nonneg]; omega
theorem fmod_pos {a b : Int} (h : 0 < b) : a.fmod b = a % b := by rw [Int.fmod_eq_emod_of_nonneg]; omega

theorem s_bin {op : Operator} {v u : V} {cv cu : Value} (h : wpBin σ.mem op v u Q) (r : Rep G Γ frz σ s) (hv : RV s.heap cv v) (hu : RV s.heap cu u) :
    wpAny (model G.prog G.w) A (binaryOp op cv cu) (PO G Γ frz σ s Q) NoE s := by
  cases op <;> first | exact h.elim | skip
  all_goals (cases v <;> first | exact h.elim | skip)
  all_goals (cases u <;> first | exact h.elim | skip)
  · cases hv; cases hu; exact add_int (PO.pure r (.int _ _) h)
  · obtain ⟨h1, h2, h3⟩ := h
    cases hv; cases hu
    refine add_str (fun t' tk => ?_) (by rw [mkS_length, mkS_length, sizeLine_eq]; unfold small at h1 h2; omega)
    rw [mkS_append]
    exact PO.pure r (.str _ _) h3
  · obtain ⟨xs, ys, e1, e2, h1, h2, h3⟩ := h
    cases hv; cases hu
    cases r.hmem _ _ e1 with
    | list g1 r1 =>
    cases r.hmem _ _ e2 with
    | list g2 r2 =>
    refine concat_meets ⟨_, g1, rfl⟩ ⟨_, g2, rfl⟩ noFill_list_add seq_list_add PySem.F.slot_list_add PySem.F.entry_list_add (PySem.F.args_list_add_2 _ _)
      (list_addW _ _ _ _ _ _ _ _ _ _ (by have a := r1.length; have b := r2.length; rw [sizeLine_eq]; unfold small at h1 h2; simp at a b; omega)) ⟨g1, g2, ?_⟩
    exact PO.newList r (by simpa using r1.append r2) h3
  · cases hv; cases hu; exact sub_int' (PO.pure r (.int _ _) h)
  · cases hv; cases hu; exact PyProof.Rows.mul_int (PO.pure r (.int _ _) h.2) (tiny_mul h.1)
  · obtain ⟨x, e1, h1, h2, h3⟩ := h
    cases hv; cases hu
    cases r.hmem _ _ e1 with
    | @list arr n _ g1 r1 =>
    obtain ⟨y, hy, ry⟩ : ∃ y, arr = #[y] ∧ RV s.heap y x := by
      have q : arr.toList.length = 1 := by simpa using r1.length
      cases hl : arr.toList with
      | nil => rw [hl] at q; cases q
      | cons y t =>
        rw [hl] at q r1
        cases t with
        | nil => cases r1 with
          | cons a _ => exact ⟨y, by rw [← Array.toArray_toList (xs := arr), hl], a⟩
        | cons _ _ => cases q
    subst hy
    unfold tiny at h1
    unfold small at h2
    refine wpAny_binaryOp_repeat_ref (T := "list") (U := "int") (by decide) ⟨_, g1, rfl⟩ (fun s' => typeIs_int s' _ _) noFill_list_mul PySem.F.fills_int_mul PySem.F.slot_int_rmul repeat_list PySem.F.slot_int_index.lookup
      (call_meets PySem.F.slot_int_rmul (typeIs_int s _ _) PySem.F.entry_int_rmul (PySem.F.args_int_rmul_2 _ _) (int___rmul___int_list _ _ _ _ _)
        ⟨g1, rfl, ⟨_, g1, rfl⟩, call_meets PySem.F.slot_list_mul ⟨_, g1, rfl⟩ PySem.F.entry_list_mul (PySem.F.args_list_mul_2 _ _)
          (AutoListH.list___mul___list_int_3 _ _ _ _ _ (by simp [Builtin.List.listFitsIndex]; omega) (by have : (#[y] : Array Value).size = 1 := rfl; rw [this]; omega) (by simp [Builtin.List.listTooLong, sizeLine]; omega)) ⟨g1, ?_⟩⟩)
    refine PO.newList r ?_ h3
    rw [if_neg (by simp), foldl_rep]
    simpa using RVs.rep ry _
  · obtain ⟨h1, h3⟩ := h
    cases hv; cases hu
    refine mod_int' (by omega) ?_
    rw [fmod_pos h1]; exact PO.pure r (.int _ _) h3
  · obtain ⟨h1, h2, h3⟩ := h
    cases hv; cases hu
    refine floordiv_int (by omega) ?_ (.inl (PyProof.noPylong_small (by unfold tiny at h2; omega)))
    rw [fdiv_pos h1]; exact PO.pure r (.int _ _) h3

mutual
theorem rd_reads {m : Mem} {h : Heap} (hm : ∀ a o, m a = some o → RO h a o) : ∀ (n : Nat) {cv : Value} {v : V} {d : PyData}, rd n m v = some d → RV h cv v → ∃ as, Reads h cv d as
  | n, _, .none, d, e, r => by cases r; cases n <;> (simp [rd] at e; subst e; exact ⟨_, .none⟩)
  | n, _, .bool b, d, e, r => by cases r; cases n <;> (simp [rd] at e; subst e; exact ⟨_, .bool b⟩)
  | n, _, .int i, d, e, r => by cases r; cases n <;> (simp [rd] at e; subst e; exact ⟨_, .int _ _⟩)
  | n, _, .str x, d, e, r => by cases r; cases n <;> (simp [rd] at e; subst e; exact ⟨_, .str _ _⟩)
  | n, _, .flt x, d, e, r => by cases n <;> simp [rd] at e
  | n, _, .rng _ _ _, d, e, r => by cases n <;> simp [rd] at e
  | 0, _, .tup vs, d, e, r => by simp [rd] at e
  | 0, _, .obj a, d, e, r => by simp [rd] at e
  | n + 1, _, .tup vs, d, e, r => by
    simp only [rd, Option.map_eq_some_iff] at e
    obtain ⟨ds, e, rfl⟩ := e
    cases r with
    | tup g rs =>
      obtain ⟨as, q⟩ := rds_reads hm n e rs
      exact ⟨as, .tuple g rfl rfl q⟩
  | n + 1, _, .obj a, d, e, r => by
    cases r
    simp only [rd] at e
    split at e
    · rename_i vs hma
      simp only [Option.map_eq_some_iff] at e
      obtain ⟨ds, e, rfl⟩ := e
      cases hm _ _ hma with
      | list g rs =>
        obtain ⟨as, q⟩ := rds_reads hm n e rs
        exact ⟨_, .list g rfl rfl q⟩
    · cases e
theorem rds_reads {m : Mem} {h : Heap} (hm : ∀ a o, m a = some o → RO h a o) : ∀ (n : Nat) {cs : List Value} {vs : List V} {ds : List PyData}, vs.mapM (rd n m) = some ds → RVs h cs vs → ∃ as, ReadsAll h cs ds as
  | n, _, [], ds, e, r => by cases r; simp at e; subst e; exact ⟨_, .nil⟩
  | n, _, v :: vs, ds, e, r => by
    cases r with
    | cons a b =>
      simp only [List.mapM_cons, Option.bind_eq_bind, Option.bind_eq_some_iff, Option.pure_def, Option.some.injEq] at e
      obtain ⟨d, e1, ds', e2, rfl⟩ := e
      obtain ⟨as, p⟩ := rd_reads hm n e1 a
      obtain ⟨bs, q⟩ := rds_reads hm n e2 b
      exact ⟨_, .cons p q⟩
end
theorem rd_shape {m : Mem} : ∀ (n : Nat) {v : V} {d : PyData}, rd n m v = some d → d.canLay0 = true ∧ d.depth ≤ n := by
  have all : ∀ (n : Nat), (∀ {v : V} {d : PyData}, rd n m v = some d → d.canLay0 = true ∧ d.depth ≤ n) → ∀ (vs : List V) {ds : List PyData}, vs.mapM (rd n m) = some ds →
      PyData.canLayAll0 ds = true ∧ PyData.depthAll ds ≤ n := by
    intro n ih vs
    induction vs with
    | nil => intro ds e; simp at e; subst e; simp [PyData.canLayAll0, PyData.depthAll]
    | cons v vs hi =>
      intro ds e
      simp only [List.mapM_cons, Option.bind_eq_bind, Option.bind_eq_some_iff, Option.pure_def, Option.some.injEq] at e
      obtain ⟨d, e1, ds', e2, rfl⟩ := e
      have p := ih e1
      have q := hi e2
      simp only [PyData.canLayAll0, PyData.depthAll, p.1, q.1, Bool.and_self, true_and]
      omega
  intro n
  induction n with
  | zero => intro v d e; cases v <;> simp [rd] at e <;> subst e <;> simp [PyData.canLay0, PyData.depth, mkS_ok]
  | succ n ih =>
    intro v d e
    cases v with
    | tup vs =>
      simp only [rd, Option.map_eq_some_iff] at e
      obtain ⟨ds, e, rfl⟩ := e
      have q := all n ih vs e
      simp only [PyData.canLay0, PyData.depth, q.1, true_and]
      omega
    | obj a =>
      simp only [rd] at e
      split at e
      · simp only [Option.map_eq_some_iff] at e
        obtain ⟨ds, e, rfl⟩ := e
        have q := all n ih _ e
        simp only [PyData.canLay0, PyData.depth, q.1, true_and]
        omega
      · cases e
    | _ => simp [rd] at e <;> subst e <;> simp [PyData.canLay0, PyData.depth, mkS_ok]
theorem rd_shaped {m : Mem} {v : V} {d : PyData} (e : rd 8 m v = some d) : SeqAt.shaped d = true := by
  have := rd_shape 8 e
  unfold SeqAt.shaped
  rw [this.1, Bool.true_and]
  exact decide_eq_true (Nat.le_trans this.2 (by decide))

/-- what a test hands on -/
noncomputable def PQ (G : GS) (Γ : FE) (frz : Frz) (σ : St) (s : Shared) (Q : Bool → Prop) : Value → Shared → Prop :=
  fun cv s' => ∃ b, cv = .bool b ∧ Rep G Γ frz σ s' ∧ TK s.heap s'.heap ∧ Q b
noncomputable def PT (G : GS) (Γ : FE) (frz : Frz) (σ : St) (s : Shared) (Q : Bool → Prop) : Bool → Shared → Prop :=
  fun b s' => Rep G Γ frz σ s' ∧ TK s.heap s'.heap ∧ Q b

noncomputable def roomU (A : Around) : Prop := A.units + 64 < cLine

theorem s_ord {v u : V} {cv cu : Value} {K : Int → Int → Prop} (h : ordI v u K) (hv : RV s.heap cv v) (hu : RV s.heap cu u) : ∃ a b t t', cv = .int a t ∧ cu = .int b t' ∧ K a b := by
  obtain ⟨a, rfl, h1⟩ := asI_inv h
  obtain ⟨b, rfl, h2⟩ := asI_inv h1
  cases hv; cases hu
  exact ⟨a, b, _, _, rfl, rfl, h2⟩
theorem s_eqv {v u : V} {cv cu : Value} {K : Bool → Prop} {ne : Bool} {Q : Bool → Prop} (hu' : roomU A) (h : eqAny σ.mem v u fun t => Q (if ne then !t else t)) (r : Rep G Γ frz σ s) (hv : RV s.heap cv v) (hu : RV s.heap cu u) :
    wpAny (model G.prog G.w) A (compareOp (if ne then .NotEq else .Eq) cv cu) (PQ G Γ frz σ s Q) NoE s := by
  obtain ⟨d, e, h1, h2, h3⟩ := h
  obtain ⟨as, ra⟩ := rd_reads r.hmem 8 h1 hv
  obtain ⟨bs, rb⟩ := rd_reads r.hmem 8 h2 hu
  cases ne with
  | false => exact eq_dataH ra rb (rd_shaped h1) (rd_shaped h2) hu' ⟨_, rfl, r, .refl _, h3⟩
  | true => exact ne_dataH ra rb (rd_shaped h1) (rd_shaped h2) hu' ⟨_, rfl, r, .refl _, h3⟩
theorem cmpEq_inv {m : Mem} {a b : V} {K : Bool → Prop} (h : cmpEq m a b K) : (∃ x y, a = .int x ∧ b = .int y ∧ K (decide (x = y))) ∨ (∃ x y, a = .str x ∧ b = .str y ∧ K (decide (x = y))) ∨ eqAny m a b K := by
  cases a <;> first
    | exact .inr (.inr h)
    | (cases b <;> first | exact .inr (.inr h) | exact .inl ⟨_, _, rfl, rfl, h⟩ | exact .inr (.inl ⟨_, _, rfl, rfl, h⟩))
theorem cmpIs_inv {a b : V} {K : Bool → Prop} (h : cmpIs a b K) : b = .none ∧ ((a = .none ∧ K true) ∨ ∃ vs, a = .tup vs ∧ K false) := by
  cases b <;> first
    | exact False.elim h
    | (cases a <;> first | exact False.elim h | exact ⟨rfl, .inl ⟨rfl, h⟩⟩ | exact ⟨rfl, .inr ⟨_, rfl, h⟩⟩)
theorem s_cmp {op : CmpOp} {v u : V} {cv cu : Value} {Q : Bool → Prop} (hu' : roomU A) (h : wpCmp σ.mem op v u Q) (r : Rep G Γ frz σ s) (hv : RV s.heap cv v) (hu : RV s.heap cu u) :
    wpAny (model G.prog G.w) A (compareOp op cv cu) (PQ G Γ frz σ s Q) NoE s := by
  cases op <;> first | exact False.elim h | skip
  · rcases cmpEq_inv h with ⟨x, y, rfl, rfl, h⟩ | ⟨x, y, rfl, rfl, h⟩ | h
    · cases hv; cases hu; exact eq_int ⟨_, rfl, r, .refl _, h⟩
    · cases hv; cases hu; exact eq_str ⟨_, rfl, r, .refl _, by rw [mkS_beq]; exact h⟩
    · exact s_eqv (ne := false) (K := Q) hu' h r hv hu
  · rcases cmpEq_inv (K := fun t => Q (!t)) h with ⟨x, y, rfl, rfl, h⟩ | ⟨x, y, rfl, rfl, h⟩ | h
    · cases hv; cases hu; exact ne_int ⟨_, rfl, r, .refl _, h⟩
    · cases hv; cases hu; exact ne_str ⟨_, rfl, r, .refl _, by rw [bne, mkS_beq]; exact h⟩
    · exact s_eqv (ne := true) (K := Q) hu' h r hv hu
  · obtain ⟨a, b, _, _, rfl, rfl, h⟩ := s_ord h hv hu; exact lt_int ⟨_, rfl, r, .refl _, h⟩
  · obtain ⟨a, b, _, _, rfl, rfl, h⟩ := s_ord h hv hu; exact le_int ⟨_, rfl, r, .refl _, h⟩
  · obtain ⟨a, b, _, _, rfl, rfl, h⟩ := s_ord h hv hu; exact gt_int ⟨_, rfl, r, .refl _, h⟩
  · obtain ⟨a, b, _, _, rfl, rfl, h⟩ := s_ord h hv hu; exact ge_int ⟨_, rfl, r, .refl _, h⟩
  · obtain ⟨rfl, ⟨rfl, h⟩ | ⟨vs, rfl, h⟩⟩ := cmpIs_inv h
    · cases hv; cases hu; exact is_none_none ⟨_, rfl, r, .refl _, h⟩
    · cases hv; cases hu; exact is_none_ne (by simp) ⟨_, rfl, r, .refl _, h⟩
  · obtain ⟨rfl, ⟨rfl, h⟩ | ⟨vs, rfl, h⟩⟩ := cmpIs_inv (K := fun t => Q (!t)) h
    · cases hv; cases hu; exact isnot_none_none ⟨_, rfl, r, .refl _, h⟩
    · cases hv; cases hu; exact isnot_none_ne (by simp) ⟨_, rfl, r, .refl _, h⟩

theorem small63 {n : Nat} (h : small n) : (n : Int) < 2 ^ 63 := by unfold small at h; omega

theorem isEmpty_of {arr : Array Value} {vs : List V} (e : arr.size = vs.length) : arr.isEmpty = vs.isEmpty := by
  unfold Array.isEmpty
  cases vs with
  | nil => simp at e; simp [e]
  | cons v vs => simp at e; simp [e]
theorem len_ne {α : Type} (x : List α) : ((x.length : Int) != 0) = !x.isEmpty := by
  cases x with
  | nil => rfl
  | cons a r => simp only [List.length_cons, List.isEmpty_cons, Bool.not_false, bne_iff_ne, ne_eq]; omega
theorem s_truth {v : V} {cv : Value} {Q : Bool → Prop} (h : wpTruth σ.mem v Q) (r : Rep G Γ frz σ s) (hv : RV s.heap cv v) :
    wpAny (model G.prog G.w) A (truthy cv) (PT G Γ frz σ s Q) NoE s := by
  cases v <;> first | exact h.elim | skip
  · cases hv; exact truthy_none ⟨r, .refl _, h⟩
  · cases hv; exact wpAny_truthy_bool ⟨r, .refl _, h⟩
  · cases hv; exact PyProof.Rows.truthy_int ⟨r, .refl _, h⟩
  · cases hv
    refine P.truthy_str (by rw [mkS_length]; have := small63 h.1; omega) ⟨r.toks _, .refl _, ?_⟩
    rw [mkS_length, len_ne]
    exact h.2
  · cases hv with
    | tup g rs =>
    have e := rs.length
    simp only [Array.length_toList] at e
    refine truthy_tuple ⟨_, g, rfl, _, rfl⟩ (by rw [e]; exact small63 h.1) ⟨r.toks _, .refl _, ?_⟩
    rw [isEmpty_of e]; exact h.2
  · obtain ⟨vs, h0, h1, h2⟩ := h
    cases hv
    cases r.hmem _ _ h0 with
    | list g rs =>
    have e := rs.length
    simp only [Array.length_toList] at e
    refine wpAny_truthy_list ⟨_, g, rfl, _, rfl⟩ (by rw [e]; exact small63 h1) ⟨r.toks _, .refl _, ?_⟩
    rw [isEmpty_of e]; exact h2

theorem w_tail {prog : Program} {w : World} {A : Around} {E : Value → Shared → Prop} {s : Shared} {value slice : Expr} {o i : Value} {T id : String} {Q : Value → Shared → Prop} (hT : s.TypeIs o T)
    (hl : typeLookup (.type T) "__getitem__" = pure (some (.builtin id))) (h : wpAny (model prog w) A (getItem o i) Q E s) :
    wpAny (model prog w) A (subscriptTail value slice o i) Q E s := by
  unfold subscriptTail
  refine wpAny_bind ?_
  rw [getitemInPython_of_ne hT.not_modules]
  refine wpAny_bind (wpAny_specialOf hT hl ?_)
  have fin : ∃ ops, subscripted slice false o i = operate ops (getItem o i) := by
    unfold subscripted
    split
    · exact ⟨_, rfl⟩
    · rename_i hh; cases hh
    · exact ⟨_, rfl⟩
  obtain ⟨ops, e⟩ := fin
  refine wpAny_pure ?_
  rw [e]
  exact wpAny_bind (wpAny_operating (wpAny_mono h (fun r s₃ h₃ => wpAny_bind (wpAny_letTemporaryGo (wpAny_pure h₃))) fun _ _ x => x))

theorem tiny_fit {k : Int} (h : tiny k) : Builtin.List.listFitsIndex k = true := by
  unfold tiny at h
  unfold Builtin.List.listFitsIndex
  simp only [Bool.and_eq_true, decide_eq_true_eq]
  omega
theorem seqIndex_lt {k : Int} {n j : Nat} (h : seqIndex? k n = some j) : j < n ∧ (0 ≤ k → j = k.toNat) := by
  unfold seqIndex? at h
  dsimp only at h
  by_cases h0 : k < 0
  · rw [if_pos h0] at h
    split at h
    · rename_i c
      have := Option.some.inj h
      simp only [Bool.and_eq_true, decide_eq_true_eq] at c
      omega
    · cases h
  · rw [if_neg h0] at h
    split at h
    · rename_i c
      have := Option.some.inj h
      simp only [Bool.and_eq_true, decide_eq_true_eq] at c
      omega
    · cases h

theorem getItem_list_any {prog : Program} {w : World} {A : Around} {E : Value → Shared → Prop} {s : Shared} {l : Addr} {items : Array Value} {k : Int} {t : Tok} {j : Nat} {x : Value} {Q : Value → Shared → Prop} (hl : s.heap.IsList l items)
    (hk : tiny k) (hj : seqIndex? k items.size = some j) (hx : items[j]? = some x) (h : Q x s) : wpAny (model prog w) A (getItem (.ref l) (.int k t)) Q E s := by
  by_cases h0 : 0 ≤ k
  · have := (seqIndex_lt hj).2 h0
    subst this
    exact wpAny_getItem_list hl h0 (by unfold tiny at hk; omega) hx h
  · obtain ⟨o, ho, hc, ne, hd⟩ := id hl
    unfold getItem
    try with_reducible refine wpAny_holding ?_
    first | refine wpAny_bind (wpAny_pure ?_) | skip
    refine wpAny_bind (wpAny_sequenceKey hl.typeIs (by decide) ?_)
    refine wpAny_bind (wpAny_callSpecial?_slot (name := Str.ofString "__getitem__") hl.typeIs slot_list_getitem
      (wpAny_call_entry slot_list_getitem hl.typeIs entry_list_getitem ?_ (args_list_getitem _ _)))
    show wpAny _ _ (Builtin.List.listSubscript? (.int k t) >>= _) _ _ s
    refine wpAny_bind (wpAny_listSubscript_int (tiny_fit hk) ?_)
    obtain ⟨m, rfl⟩ : ∃ m : Nat, k = Int.negSucc m := ⟨(-k - 1).toNat, by omega⟩
    show wpAny _ _ ((Builtin.List.listItems (.ref l) >>= fun xs => pure ((seqIndex? (Int.negSucc m) xs.size).bind fun j => xs[j]?.map (j, ·))) >>= _) _ _ s
    refine wpAny_bind (wpAny_bind (wpAny_listItems ho hd (wpAny_pure ?_)))
    rw [hj]
    simp only [Option.bind_some, hx, Option.map_some]
    first
      | exact wpAny_bind (wpAny_pure (wpAny_pure ⟨x, rfl, wpAny_pure h⟩))
      | exact wpAny_pure ⟨x, rfl, wpAny_pure h⟩

theorem map_get {α β : Type} (f : α → β) {xs : List α} {arr : Array β} (h : arr.toList = xs.map f) {j : Nat} {x : α} (e : xs[j]? = some x) : arr[j]? = some (f x) := by
  rw [← Array.getElem?_toList, h, List.getElem?_map, e]; rfl

theorem s_idx {v u : V} {cv cu : Value} {value slice : Expr} {Q : V → Prop} (h : wpIdx σ.mem v u Q) (r : Rep G Γ frz σ s) (hv : RV s.heap cv v) (hu : RV s.heap cu u) :
    wpAny (model G.prog G.w) A (subscriptTail value slice cv cu) (PO G Γ frz σ s fun r m => m = σ.mem ∧ Q r) NoE s := by
  cases v <;> first | exact h.elim | skip
  all_goals (cases u <;> first | exact h.elim | skip)
  · obtain ⟨ht, c, e, q⟩ := h
    cases hv; cases hu
    refine w_tail (typeIs_str s _ _) PySem.F.slot_str_getitem.lookup (P.getItem_str (c := c.toNat) ?_ ?_ ?_)
    · unfold tiny at ht
      simp only [Bool.or_eq_false_iff, decide_eq_false_iff_not]
      omega
    · unfold pyGet at e
      rw [Option.bind_eq_some_iff] at e
      obtain ⟨j, e1, e2⟩ := e
      rw [mkS_length, e1]
      exact map_get Char.toNat (by simp) e2
    · exact ⟨.str [c], σ.mem, .str [c] _, r.toks _, .refl _, rfl, q⟩
  · obtain ⟨ht, x, e, q⟩ := h
    cases hu
    cases hv with
    | tup g rs =>
    unfold pyGet at e
    rw [Option.bind_eq_some_iff] at e
    obtain ⟨j, e1, e2⟩ := e
    obtain ⟨cx, e3, e4⟩ := rs.get e2
    unfold tiny at ht
    refine w_tail ⟨_, g, rfl⟩ PySem.F.slot_tuple_getitem.lookup (PyProof.Rows.getItem_tuple (j := j) (x := cx) ⟨_, g, rfl, _, rfl⟩ (by omega) (by omega) ?_ ?_ ?_)
    · have := rs.length; simp only [Array.length_toList] at this; rw [this]; exact e1
    · simpa using e3
    · exact ⟨x, σ.mem, e4, r, .refl _, rfl, q⟩
  · obtain ⟨ht, vs, x, e0, e, q⟩ := h
    cases hu; cases hv
    cases r.hmem _ _ e0 with
    | list g rs =>
    unfold pyGet at e
    rw [Option.bind_eq_some_iff] at e
    obtain ⟨j, e1, e2⟩ := e
    obtain ⟨cx, e3, e4⟩ := rs.get e2
    refine w_tail ⟨_, g, rfl⟩ list_getitem_lookup (getItem_list_any (j := j) (x := cx) ⟨_, g, rfl, _, rfl⟩ ht ?_ ?_ ?_)
    · have := rs.length; simp only [Array.length_toList] at this; rw [this]; exact e1
    · simpa using e3
    · exact ⟨x, σ.mem, e4, r, .refl _, rfl, q⟩

theorem slInd_plain {α : Type} (xs : Array α) (lo hi : Option Int) : (Builtin.Str.strSliceIndices lo hi 1 xs.size).filterMap (xs[·]?) = pySl xs.toList lo hi := by
  have e : Builtin.Str.strSliceIndices lo hi 1 xs.size = sliceRange (sliceBounds lo hi none xs.size).1 (sliceBounds lo hi none xs.size).2.1 (sliceBounds lo hi none xs.size).2.2 := by
    cases lo <;> cases hi <;> rfl
  rw [e, sliceBounds_plain]
  simp only [sliceRange_one, pick_run]
  unfold pySl slLo slHi
  simp only [Array.length_toList]
  rfl
theorem pySl_map {α β : Type} (f : α → β) (xs : List α) (lo hi : Option Int) : pySl (xs.map f) lo hi = (pySl xs lo hi).map f := by
  unfold pySl; simp
theorem pySl_len {α : Type} (xs : List α) (lo hi : Option Int) : (pySl xs lo hi).length ≤ xs.length := by
  unfold pySl; simp; omega
theorem pySl_full {α : Type} (xs : List α) (lo hi : Option Int) (h : (pySl xs lo hi).length = xs.length) : pySl xs lo hi = xs := by
  unfold pySl at h ⊢
  rw [List.length_take, List.length_drop] at h
  by_cases h0 : xs.length = 0
  · have : xs = [] := List.length_eq_zero_iff.mp h0
    subst this; simp
  · have h1 : slLo xs.length lo = 0 := by omega
    rw [h1] at h ⊢
    rw [List.drop_zero, List.take_of_length_le (by omega)]
theorem clip_le (n : Nat) (i : Int) : clip n i ≤ n := by
  have := clipAt_cast n i
  unfold clip; omega
theorem slHi_le (n : Nat) (hi : Option Int) : slHi n hi ≤ n := by
  cases hi with
  | none => exact Nat.le_refl _
  | some i => exact clip_le n i
theorem slLo_le (n : Nat) (lo : Option Int) : slLo n lo ≤ n := by
  cases lo with
  | none => exact Nat.zero_le _
  | some i => exact clip_le n i
theorem slInd_len {α : Type} (lo hi : Option Int) (xs : List α) : (Builtin.Str.strSliceIndices lo hi 1 xs.length).length = (pySl xs lo hi).length := by
  have e : Builtin.Str.strSliceIndices lo hi 1 xs.length = sliceRange (sliceBounds lo hi none xs.length).1 (sliceBounds lo hi none xs.length).2.1 (sliceBounds lo hi none xs.length).2.2 := by
    cases lo <;> cases hi <;> rfl
  rw [e, sliceBounds_plain]
  simp only [sliceRange_one, List.length_map, List.length_range]
  unfold pySl
  rw [List.length_take, List.length_drop]
  have h1 := slHi_le xs.length hi
  show slHi xs.length hi - slLo xs.length lo = _
  omega

theorem slPart_is {h : Heap} {v : V} {cv : Value} {a : Option Int} (e : slPart v = some a) (r : RV h cv v) : ∃ p : Option (Int × Tok), cv = partValue p ∧ p.map (·.1) = a ∧ IsPart cv a := by
  unfold slPart at e
  split at e
  · cases e; cases r; exact ⟨none, rfl, rfl, .none⟩
  · cases e; cases r; exact ⟨some (_, _), rfl, rfl, .int _ _⟩
  · cases e

abbrev sliceO (l u st : Value) : Obj := { cls := .type "slice", data := .fields #[l, u, st] }

theorem s_slc {v l u st : V} {cv cl cu cs : Value} {value slice : Expr} (h : wpSlc σ.mem v l u st Q) (r : Rep G Γ frz σ s) (hv : RV s.heap cv v) (hl : RV s.heap cl l) (hu : RV s.heap cu u) (hs : RV s.heap cs st) :
    wpAny (model G.prog G.w) A (subscriptTail value slice cv (.ref s.heap.objs.size)) (PO G Γ frz σ s Q) NoE { s with heap := s.heap.push (sliceO cl cu cs) } := by
  have k := push_keeps s.heap (sliceO cl cu cs)
  have r1 := r.grow (tk := s.toks) k
  cases v <;> first | (exact False.elim h) | skip
  · rename_i x
    cases st <;> first | (exact False.elim h) | skip
    obtain ⟨a, b, ea, eb, h1, h2⟩ := sl_inv h
    obtain ⟨pa, rfl, ea', _⟩ := slPart_is ea hl
    obtain ⟨pb, rfl, eb', _⟩ := slPart_is eb hu
    cases hs
    cases hv
    refine w_tail (typeIs_str _ _ _) PySem.F.slot_str_getitem.lookup (getItem_meets (typeIs_str _ _ _) (by decide) PySem.F.slot_str_getitem PySem.F.entry_str_getitem (PySem.F.args_str_getitem_2 _ _)
      (meets_str_getitem_slice _ _ s.heap.objs.size pa pb none rfl) ⟨⟨_, Heap.get?_push_size _ rfl, rfl, rfl⟩, ?_⟩)
    unfold sliceMade slicePicked
    rw [ea', eb', mkS_length]
    simp only [Option.map_none, Option.getD_none, beq_self_eq_true, Bool.true_and]
    have hlen := slInd_len a b x
    split
    · rename_i hc
      have hc' : (pySl x a b).length = x.length := by rw [← hlen]; simpa using hc
      rw [pySl_full x a b hc'] at h2
      exact ⟨.str x, σ.mem, .str _ _, r1, .of k, h2⟩
    · have e : (Builtin.Str.strSliceIndices a b 1 x.length).filterMap ((mkS x).cps[·]?) = (pySl x a b).map Char.toNat := by
        have q := slInd_plain (mkS x).cps a b
        rw [show (mkS x).cps.size = x.length by simp] at q
        rw [q, ← pySl_map]
      rw [e]
      refine ⟨?_, .str (pySl x a b), σ.mem, .str _ _, r1.toks _, .of k, h2⟩
      show (mkS (pySl x a b)).length ≤ _
      rw [mkS_length]
      have := pySl_len x a b
      have := small_line h1
      omega
  · rename_i lst
    cases st <;> first | (exact False.elim h) | skip
    obtain ⟨a, b, vs, ea, eb, e0, h1, h2⟩ := h
    obtain ⟨pa, ha, ea', qa⟩ := slPart_is ea hl
    obtain ⟨pb, hb, eb', qb⟩ := slPart_is eb hu
    cases hs; cases hv
    obtain ⟨arr, g, rs⟩ : ∃ arr, s.heap.IsList lst arr ∧ RVs s.heap arr.toList vs := by
      rcases e0 with e0 | ⟨_, e0⟩
      · cases r.hmem _ _ e0 with
        | list g rs => exact ⟨_, ⟨_, g, rfl, _, rfl⟩, rs⟩
      · cases r.hmem _ _ e0 with
        | ro g c d rs => exact ⟨_, ⟨_, g, c, _, d⟩, rs⟩
    have hz := rs.length
    simp only [Array.length_toList] at hz
    refine w_tail (Heap.IsList.typeIs (g.push _)) list_getitem_lookup (wpAny_getItem_list_slice (g.push _) (Heap.IsSliceOf.new ..) qa qb .none (by simp) ?_ (by rw [hz]; exact small_line h1))
    have := PO.newList (Q := Q) r1 (tk := s.toks) (arr := slicePick arr a b none) (vs := pySl vs a b) ?_ h2
    · obtain ⟨v, m, p1, p2, p3, p4⟩ := this
      exact ⟨v, m, p1, p2, (TK.of k).trans p3, p4⟩
    · rw [slicePick_plain]
      unfold pySl slLo slHi
      rw [hz]
      have := (rs.drop (a.elim 0 (clipAt vs.length))).take (b.elim vs.length (clipAt vs.length) - a.elim 0 (clipAt vs.length))
      exact RVs.tk (.of k) this
end
end Mine
set_option autoImplicit false
set_option maxRecDepth 10000
namespace Mine
open PySem PyProof.Rows PySem.W

section
variable {G : GS} {A : Around} {Γ : FE} {frz : Frz} {σ : St} {s : Shared} {Q : V → Mem → Prop}

structure Rm (A : Around) : Prop where
  hd : A.handled = none
  un : A.units + 64 < cLine

theorem ints_of {h : Heap} : ∀ {cs : List Value} {ns : List Int}, RVs h cs (ns.map V.int) → IntsAre cs ns
  | [], [], _ => .nil
  | _ :: _, [], r => by cases r
  | [], _ :: _, r => by cases r
  | c :: cs, n :: ns, r => by
    cases r with
    | cons a b => cases a; exact .cons _ _ (ints_of b)

theorem PO.viaF (ok : Γ.ok) (r : Rep G Γ frz σ s) {h' : Heap} {m : PySem.Str → Option Value} (hn : ∀ m, s.heap.Ns Γ.env.locals m → h'.Ns Γ.env.locals m) (F : Fr G.base Γ.env.locals h' m) (N : News G.base Γ.env.locals h' (restOf G Γ.env.locals s.heap []))
    {cv : Value} {v : V} {tk : Nat} (h : ∀ h', RV h' cv v) (q : Q v σ.mem) : PO G Γ frz σ s Q cv { s with heap := h', toks := tk } := by
  have k : Kp Γ.env.locals s.heap h' := ⟨fun b o hb e => r.keep_of_rest F N b o (by simp) hb e, hn⟩
  exact ⟨v, σ.mem, h _, r.growL ok k, r.kp_tk k, q⟩

theorem PO.newRng (r : Rep G Γ frz σ s) {x y z : Int} {t u w : Tok} {tk : Nat} (q : Q (.rng x y z) σ.mem) :
    PO G Γ frz σ s Q (.ref s.heap.objs.size) { s with heap := s.heap.push { cls := .type "range", data := .fields #[.int x t, .int y u, .int z w] }, toks := tk } := by
  have k := push_keeps s.heap { cls := .type "range", data := .fields #[.int x t, .int y u, .int z w] }
  exact ⟨_, _, .rng (Heap.get?_push_size _ rfl), r.grow k, .of k, q⟩
theorem Rep.anyList (r : Rep G Γ frz σ s) {l : Addr} {vs : List V} (h0 : σ.mem l = some (.list vs) ∨ ∃ o, σ.mem l = some (.ro o vs)) : ∃ arr, s.heap.IsList l arr ∧ RVs s.heap arr.toList vs := by
  rcases h0 with e0 | ⟨_, e0⟩
  · cases r.hmem _ _ e0 with
    | list g rs => exact ⟨_, ⟨_, g, rfl, _, rfl⟩, rs⟩
  · cases r.hmem _ _ e0 with
    | ro g c d rs => exact ⟨_, ⟨_, g, c, _, d⟩, rs⟩

noncomputable def Bi.val : Bi → Value
  | .range => .type "range"
  | .list => .type "list"
  | b => .builtin b.name
theorem s_bi {b : Bi} {vs : List V} {cvs : List Value} (hA : Rm A) (ok : Γ.ok) (h : wpBi σ.mem b vs Q) (r : Rep G Γ frz σ s) (hv : RVs s.heap cvs vs) :
    wpAny (model G.prog G.w) A (call b.val cvs) (PO G Γ frz σ s Q) NoE s := by
  cases b <;> first | exact False.elim h | skip
  · obtain ⟨v, rfl, h⟩ := arg1_inv h
    cases hv with
    | cons a b =>
    cases b
    cases a with
    | str =>
      refine P.len_str (by rw [mkS_length]; have := small63 h.1; omega) ?_
      rw [mkS_length]; exact PO.pure r (.int _ _) h.2
    | tup g rs =>
      have e := rs.length
      simp only [Array.length_toList] at e
      refine PyProof.Rows.len_tuple ⟨_, g, rfl, _, rfl⟩ (by rw [e]; exact small63 h.1) ?_
      rw [e]; exact PO.pure r (.int _ _) h.2
    | obj =>
      obtain ⟨vs, h0, h1, h2⟩ := h
      obtain ⟨arr, g, rs⟩ := r.anyList h0
      have e := rs.length
      simp only [Array.length_toList] at e
      refine Calls.call_len_list g (by rw [e]; exact small63 h1) ?_
      rw [e]; exact PO.pure r (.int _ _) h2
    | _ => exact False.elim h
  · obtain ⟨v, u, rfl, h⟩ := arg2_inv h
    cases hv with
    | cons a b =>
    cases b with
    | cons c d =>
    cases d
    obtain ⟨x, y, _, _, rfl, rfl, h⟩ := s_ord h a c
    refine min_two_ints hA.hd fun h' tk k => ?_
    split
    · rename_i c; rw [if_pos c] at h; exact ⟨_, _, .int _ _, r.grow k, .of k, h⟩
    · rename_i c; rw [if_neg c] at h; exact ⟨_, _, .int _ _, r.grow k, .of k, h⟩
  · cases hv with
    | nil => exact False.elim h
    | cons a b =>
    cases b with
    | nil =>
      obtain ⟨l, rfl, ns, h0, h1, h2⟩ := asO_inv h
      cases a
      cases r.hmem _ _ h0 with
      | list g rs =>
      have hi := ints_of rs
      have hl : s.heap.IsList _ _ := ⟨_, g, rfl, _, rfl⟩
      obtain ⟨xs, e⟩ := hi.allInts.items
      rw [Array.toArray_toList] at e
      have hns : ns = xs.toList.map (·.1) := by
        rw [← hi.numsOf, ← nums_intItems, ← e]
      have hsz : 0 < xs.size := by
        have h3 := h1; rw [hns, List.length_map, Array.length_toList] at h3; exact h3
      rw [e] at hl
      refine max_intList hA.hd hl hsz fun v h' tk hv hk => ?_
      obtain ⟨t, rfl⟩ := intItems_at hv
      obtain ⟨g1, g2⟩ := argBest_gt (numAt xs) (xs.size - 1)
      refine ⟨_, _, .int _ _, r.grow hk, .of hk, h2 _ ?_ fun a ha => ?_⟩
      · rw [hns, numAt_eq]; exact getD_mem (by rw [List.length_map, Array.length_toList]; omega)
      · rw [hns] at ha
        obtain ⟨j, hj, rfl⟩ := mem_getD ha
        rw [List.length_map, Array.length_toList] at hj
        rw [← numAt_eq]; exact g2 j (by omega)
    | cons c d =>
    cases d with
    | cons => exact False.elim h
    | nil =>
    obtain ⟨x, y, _, _, rfl, rfl, h⟩ := s_ord h a c
    refine max_two_ints hA.hd fun h' tk k => ?_
    split
    · rename_i c; rw [if_pos (by omega)] at h; exact ⟨_, _, .int _ _, r.grow k, .of k, h⟩
    · rename_i c; rw [if_neg (by omega)] at h; exact ⟨_, _, .int _ _, r.grow k, .of k, h⟩
  · cases hv with
    | nil => exact False.elim h
    | cons a b =>
    cases b with
    | nil =>
      obtain ⟨x, rfl, h⟩ := asI_inv h
      cases a
      exact call_range_1 (PO.newRng r h.2)
    | cons c d =>
    cases d with
    | nil =>
      obtain ⟨x, y, _, _, rfl, rfl, h⟩ := s_ord h a c
      exact call_range_2 (PO.newRng r h.2.2)
    | cons e f =>
    cases f with
    | cons => exact False.elim h
    | nil =>
    obtain ⟨x, y, _, _, rfl, rfl, h⟩ := s_ord h a c
    obtain ⟨z, rfl, h1, h2, h3, h4, h5⟩ := asI_inv h
    cases e
    exact call_range_3 (by omega) (PO.newRng r h5) (.inl (PyProof.noPylong_small (by unfold tiny at h3; omega)))
  · obtain ⟨v, rfl, h⟩ := arg1_inv h
    cases hv with
    | cons a b =>
    cases b
    cases a with
    | tup g rs =>
      have e := rs.length
      simp only [Array.length_toList] at e
      refine call_list_seq _ (.inr rfl) g rfl rfl (fun h' c k g' => ?_) (by rw [e]; exact small_line h.1)
      exact ⟨.obj _, _, .obj _, r.fresh (Nat.le_refl _) k (.list g' (rs.tk (.of k))), .of k, h.2 _ (r.none_of_ge (Nat.le_refl _)).1⟩
    | obj =>
      obtain ⟨vs, h0, h1, h2⟩ := h
      cases r.hmem _ _ h0 with
      | list g rs =>
      have e := rs.length
      simp only [Array.length_toList] at e
      refine call_list_seq _ (.inl rfl) g rfl rfl (fun h' c k g' => ?_) (by rw [e]; exact small_line h1)
      exact ⟨.obj _, _, .obj _, r.fresh (Nat.le_refl _) k (.list g' (rs.tk (.of k))), .of k, h2 _ (r.none_of_ge (Nat.le_refl _)).1⟩
    | _ => exact False.elim h

theorem at_iff (x y : Tx) (i : Nat) : StrLaws.At (mkS x) (mkS y) (mkS x).length i ↔ Occ x y i := by
  unfold StrLaws.At Occ
  rw [StrLaws.subAt_eq, mkS_length, mkS_length]
  simp only [beq_iff_eq, ← List.map_drop, ← List.map_take]
  constructor
  · rintro ⟨a, b⟩; exact ⟨a, (List.map_inj_right fun x y e => toNat_inj e).mp b⟩
  · rintro ⟨a, b⟩; exact ⟨a, by rw [b]⟩
theorem find_is (x y : Tx) (k : Nat) : FindIs x y k (match Builtin.Str.occurrences (mkS x) (mkS y) k (mkS x).length 1 with | i :: _ => (i : Int) | [] => -1) := by
  rcases StrLaws.occ_head_from (mkS x) (mkS y) k 1 (Nat.le_refl _) with ⟨e, h⟩ | ⟨i, r, e, h1, h2, h3⟩
  · rw [e]; exact .inl ⟨rfl, fun i hi q => h i hi ((at_iff x y i).mpr q)⟩
  · rw [e]; exact .inr ⟨i, rfl, h1, (at_iff x y i).mp h2, fun j a b q => h3 j a b ((at_iff x y j).mpr q)⟩

theorem starts_eq (x y : Tx) : (decide (0 + (mkS y).length ≤ (mkS x).length) && Builtin.Str.subAt (mkS x) (mkS y) 0) = decide (x.take y.length = y) := by
  rw [Bool.eq_iff_iff, Bool.and_eq_true, decide_eq_true_eq, decide_eq_true_eq, StrLaws.subAt_eq, mkS_length, mkS_length]
  simp only [beq_iff_eq, ← List.map_take, List.drop_zero]
  constructor
  · rintro ⟨_, b⟩; exact (List.map_inj_right fun x y e => toNat_inj e).mp b
  · intro b; exact ⟨by have := congrArg List.length b; rw [List.length_take] at this; omega, by rw [b]⟩
theorem ends_eq (x y : Tx) : (decide (0 + (mkS y).length ≤ (mkS x).length) && Builtin.Str.subAt (mkS x) (mkS y) ((mkS x).length - (mkS y).length)) = decide (y.length ≤ x.length ∧ x.drop (x.length - y.length) = y) := by
  rw [Bool.eq_iff_iff, Bool.and_eq_true, decide_eq_true_eq, decide_eq_true_eq, StrLaws.subAt_eq, mkS_length, mkS_length]
  simp only [beq_iff_eq, ← List.map_take, ← List.map_drop]
  constructor
  · rintro ⟨a, b⟩
    have := (List.map_inj_right fun x y e => toNat_inj e).mp b
    exact ⟨by omega, by rw [List.take_of_length_le (by rw [List.length_drop]; omega)] at this; exact this⟩
  · rintro ⟨a, b⟩; exact ⟨by omega, by rw [b, List.take_length]⟩
theorem fromIndex_nn {n : Nat} {i : Int} (h : 0 ≤ i) : fromIndex n i = i.toNat := by unfold fromIndex; rw [if_neg (by omega)]; congr 1; omega

/-- the built-in's id -/
noncomputable def Me.id (m : Me) : String := match m with
  | .find => "str.find" | .startswith => "str.startswith" | .endswith => "str.endswith" | .join => "str.join"
  | .append => "list.append" | .pop => "list.pop" | .insert => "list.insert"

theorem noDict {h : Heap} {l : Addr} {o : Obj} (g : h.get? l = some o) (d : o.dict = none) : ∀ a, Value.ref l = .ref a → ∃ o, h.get? a = some o ∧ o.dict = none := fun a e => by cases e; exact ⟨_, g, d⟩
theorem listT {s : Shared} {l : Addr} {arr : Array Value} {n : Nat} (g : s.heap.get? l = some { cls := .type "list", data := .seq arr n }) : s.TypeIs (.ref l) "list" := ⟨_, g, rfl⟩
theorem s_getMe {v : V} {cv : Value} {m : Me} {pl : Sem Bool} {E : Value → Shared → Prop} {R : Value × List Value → Shared → Prop} (h : meOk σ.mem v m) (r : Rep G Γ frz σ s) (hv : RV s.heap cv v) (q : R (.builtin (m.id), [cv]) s) :
    wpAny (model G.prog G.w) A (getMethod cv (PySem.Str.ofString m.name) pl) R E s := by
  cases v <;> cases m <;> first | (exact False.elim h) | skip
  all_goals (simp only [Me.name, Me.id] at q ⊢)
  · cases hv; with_reducible exact GM.find q
  · cases hv; with_reducible exact GM.startswith q
  · cases hv; with_reducible exact GM.endswith q
  · cases hv
    obtain ⟨l, e⟩ := h
    cases r.hmem _ _ e with
    | list g rs =>
    have hT := listT g
    have hd := noDict g rfl
    with_reducible exact getMethod_builtin hT PySem.F.plainAttrs_list PySem.F.slot_list_append PySem.F.type_list_append hd q

theorem s_me {v : V} {m : Me} {vs : List V} {cv : Value} {cvs : List Value} (ok : Γ.ok) (h : wpMe σ.mem v m vs Q) (r : Rep G Γ frz σ s) (hv : RV s.heap cv v) (hvs : RVs s.heap cvs vs) :
    wpAny (model G.prog G.w) A (call (.builtin (m.id)) (cv :: cvs)) (PO G Γ frz σ s Q) NoE s := by
  cases m <;> first | exact False.elim h | skip
  · obtain ⟨x, rfl, h⟩ := asS_inv h
    cases hv
    cases hvs with
    | nil => exact False.elim h
    | cons a b =>
    cases b with
    | nil =>
      obtain ⟨y, rfl, h1, h2, h3⟩ := asS_inv h
      cases a
      refine call_meets PySem.F.slot_str_find (typeIs_str _ _ _) PySem.F.entry_str_find (PySem.F.args_str_find_2 _ _) (gives_str_find _ _ _ _).meets ?_
      exact PO.pure r (.int _ _) (h3 _ (find_is _ _ 0))
    | cons c d =>
    cases d with
    | cons => exact False.elim h
    | nil =>
    obtain ⟨y, rfl, h⟩ := asS_inv h
    obtain ⟨i, rfl, h1, h2, h0, h3⟩ := asI_inv h
    cases a; cases c
    refine call_meets PySem.F.slot_str_find (typeIs_str _ _ _) PySem.F.entry_str_find (PySem.F.args_str_find_3 _ _ _) (gives_str_find_from _ _ _ _ _ _).meets ?_
    refine PO.pure r (.int _ _) ?_
    rw [fromIndex_nn h0]
    exact h3 _ (find_is _ _ _)
  · obtain ⟨x, rfl, h⟩ := asS_inv h
    obtain ⟨v, rfl, h⟩ := arg1_inv h
    obtain ⟨y, rfl, h⟩ := asS_inv h
    cases hv
    cases hvs with
    | cons a b =>
    cases b; cases a
    refine call_meets PySem.F.slot_str_startswith (typeIs_str _ _ _) PySem.F.entry_str_startswith (PySem.F.args_str_startswith_2 _ _) (gives_str_startswith _ _ _ _).meets ?_
    refine PO.here r (.bool _) ?_
    rw [starts_eq]; exact h
  · obtain ⟨x, rfl, h⟩ := asS_inv h
    obtain ⟨v, rfl, h⟩ := arg1_inv h
    obtain ⟨y, rfl, h⟩ := asS_inv h
    cases hv
    cases hvs with
    | cons a b =>
    cases b; cases a
    refine call_meets PySem.F.slot_str_endswith (typeIs_str _ _ _) PySem.F.entry_str_endswith (PySem.F.args_str_endswith_2 _ _) (gives_str_endswith _ _ _ _).meets ?_
    refine PO.here r (.bool _) ?_
    rw [ends_eq]; exact h
  · obtain ⟨a, rfl, h⟩ := asO_inv h
    obtain ⟨v, rfl, l, e, h1, h2⟩ := arg1_inv h
    cases hv
    cases hvs with
    | cons a b =>
    cases b
    cases r.hmem _ _ e with
    | @list arr n _ g rs =>
    have hz := rs.length
    simp only [Array.length_toList] at hz
    refine call_meets PySem.F.slot_list_append ⟨_, g, rfl⟩ PySem.F.entry_list_append (PySem.F.args_list_append_2 _ _) (AutoListH.list_append_list_val_0 _ _ _ _ (by rw [hz]; exact small_line h1)) ⟨g, ?_⟩
    have q := r.change ok (tk := s.toks) (o := .list (l ++ _)) e (h' := s.heap.update _ (Obj.mapSeq fun x => x.push _)) (fun b o hb e => (Heap.get?_update_other _ _ (Ne.symm hb)).trans e)
      (fun k => .list (Heap.get?_update_self _ g rfl) (by simpa [Obj.mapSeq] using (rs.tk k).append (RVs.one (RV.tk k ‹RV s.heap _ _›))))
    exact ⟨.none, _, .none, q.1, q.2, h2⟩
end
end Mine
set_option autoImplicit false
set_option maxRecDepth 10000
namespace Mine
open PySem PyProof.Rows PySem.W

section
variable {G : GS} {A : Around} {Γ : FE} {frz : Frz} {σ : St} {s : Shared} {Q : V → Mem → Prop}

theorem fields_get {h : Heap} {n : String} : ∀ {es : List DictEntry} {fs : List (PySem.Str × V)}, Fields h es fs →
    (∀ v, lookF n fs = some v → ∃ cv, getL (PySem.Str.ofString n) es = some (some cv) ∧ RV h cv v) ∧ (lookF n fs = none → getL (PySem.Str.ofString n) es = some none)
  | [], [], _ => ⟨fun v e => by simp [lookF] at e, fun _ => rfl⟩
  | e :: es, (x, u) :: fs, ⟨⟨t, hk⟩, hr, hf⟩ => by
    obtain ⟨ih1, ih2⟩ := fields_get (n := n) hf
    have hi : e.key.isStr (PySem.Str.ofString n) = (x == PySem.Str.ofString n) := by rw [hk]; rfl
    have href : e.refKey = false := by unfold DictEntry.refKey; rw [hk]
    constructor
    · intro v hl
      unfold lookF at hl
      unfold getL
      rw [List.find?_cons, hi]
      split at hl
      · rename_i c
        rw [beq_iff_eq.mpr c]
        cases hl
        exact ⟨_, rfl, hr⟩
      · rename_i c
        rw [beq_eq_false_iff_ne.mpr c]
        obtain ⟨cv, g, q⟩ := ih1 v hl
        refine ⟨cv, ?_, q⟩
        unfold getL at g
        split at g
        · rename_i c2; rw [c2]; exact g
        · split at g <;> cases g
    · intro hl
      unfold lookF at hl
      unfold getL
      rw [List.find?_cons, hi]
      split at hl
      · cases hl
      · rename_i c
        rw [beq_eq_false_iff_ne.mpr c]
        have g := ih2 hl
        unfold getL at g
        split at g
        · cases g
        · rename_i c2
          rw [c2]
          split at g
          · cases g
          · rename_i c3
            simp only [List.any_cons, href, Bool.false_or]
            rw [if_neg c3]
  | [], _ :: _, x => x.elim
  | _ :: _, [], x => x.elim

structure PC.ok (G : GS) (P : PC) : Prop where
  hd : hasDictIn G.K P.cls = true
  get : ∀ n, P.fld n = true → plainGet G.K P.cls (PySem.Str.ofString n) = true ∧ findIn G.K (.ref P.cls) (PySem.Str.ofString n) = some none ∧ takerIn G.K P.cls (PySem.Str.ofString n) = some none
  cc : ∀ n v, P.cc n = some v → plainGet G.K P.cls (PySem.Str.ofString n) = true ∧ copiedNames.contains (PySem.Str.ofString n) = false ∧
    ∃ a, findIn G.K (.ref P.cls) (PySem.Str.ofString n) = some (some a) ∧ specialIn G.K a "__get__" = some none ∧ handedIn a = true ∧ ∀ h, RV h a v
  set : findIn G.K (.ref P.cls) "__setattr__" = some (some (.builtin "object.__setattr__"))
  over : plainOver G.K P.cls = true

theorem Rep.kin (gok : G.ok) (r : Rep G Γ frz σ s) : G.K.In s.heap := fun a o e => r.hfrz _ _ (r.hbase _ _ (gok.k a o e))

theorem rv_handed {h : Heap} {cv : Value} {v : V} (r : RV h cv v) : handedIn cv = true := by cases r <;> rfl

theorem inst_at (r : Rep G Γ frz σ s) {C a d : Addr} {fs : List (PySem.Str × V)} (e1 : σ.mem a = some (.inst C d)) (e2 : σ.mem d = some (.dict fs)) :
    ∃ es n, InstAt s.heap a (instObj C d) C (some (dictOf es n)) ∧ Fields s.heap es fs ∧ s.heap.get? d = some (dictOf es n) := by
  cases r.hmem _ _ e1 with
  | inst g1 =>
  cases r.hmem _ _ e2 with
  | @dict es n _ g2 hf => exact ⟨es, n, ⟨g1, rfl, rfl, g2⟩, hf, g2⟩

theorem s_attr {P : PC} {v : V} {cv : Value} {n : String} {expr : Bool} {Q : V → Prop} (gok : G.ok) (pok : P.ok G) (h : wpAttr P σ.mem v n Q) (r : Rep G Γ frz σ s) (hv : RV s.heap cv v) :
    wpAny (model G.prog G.w) A (getAttr cv (PySem.Str.ofString n) expr) (PO G Γ frz σ s fun r m => m = σ.mem ∧ Q r) NoE s := by
  unfold wpAttr at h
  split at h
  · obtain ⟨d, fs, e1, e2, h⟩ := h
    cases hv
    obtain ⟨es, k, I, hf, _⟩ := inst_at r e1 e2
    have X := r.kin gok
    obtain ⟨q1, q2⟩ := fields_get (n := _) hf
    split at h
    · rename_i v hl
      obtain ⟨cv, g, rv⟩ := q1 _ hl
      obtain ⟨a1, a2, a3⟩ := pok.get _ h.1
      exact get_value X I (plainGet_of a1).1 (findObj_own pok.hd a2 rfl g) (rv_handed rv) ⟨_, _, rv.tk (.refl _), r.toks _, .refl _, rfl, h.2⟩
    · rename_i hl
      obtain ⟨v, hc, q⟩ := h
      obtain ⟨a1, a2, a, a3, a4, a5, a6⟩ := pok.cc _ _ hc
      exact get_value X I (plainGet_of a1).1 (findObj_cls pok.hd a3 a4 a5 a2 (q2 hl)) a5 ⟨_, _, a6 _, r.toks _, .refl _, rfl, q⟩
  · exact h.elim

theorem Fields.length {h : Heap} : ∀ {es : List DictEntry} {fs : List (PySem.Str × V)}, Fields h es fs → es.length = fs.length
  | [], [], _ => rfl
  | _ :: _, _ :: _, ⟨_, _, f⟩ => by simp [f.length]
  | [], _ :: _, x => x.elim
  | _ :: _, [], x => x.elim
theorem fields_put {h : Heap} {n : String} {hs : Int} {tk : Tok} {cv : Value} {v : V} (rv : RV h cv v) : ∀ {es : List DictEntry} {fs : List (PySem.Str × V)}, Fields h es fs →
    Fields h (putL (PySem.Str.ofString n) hs (.str (PySem.Str.ofString n) tk) cv es) (setF n v fs) ∧ (putL (PySem.Str.ofString n) hs (.str (PySem.Str.ofString n) tk) cv es).length ≤ fs.length + 1
  | [], [], _ => ⟨⟨⟨tk, rfl⟩, rv, trivial⟩, by simp [putL]⟩
  | e :: es, (x, u) :: fs, ⟨⟨t, hk⟩, hr, hf⟩ => by
    obtain ⟨ih1, ih2⟩ := fields_put (n := n) (hs := hs) (tk := tk) rv hf
    have hi : e.key.isStr (PySem.Str.ofString n) = (x == PySem.Str.ofString n) := by rw [hk]; rfl
    unfold putL setF
    rw [hi]
    by_cases c : x = PySem.Str.ofString n
    · rw [if_pos (by simpa using c), if_pos c]
      have hlen : es.length = fs.length := by
        exact hf.length
      exact ⟨⟨⟨t, hk⟩, rv, hf⟩, by simp [hlen]⟩
    · rw [if_neg (by simpa using c), if_neg c]
      exact ⟨⟨⟨t, hk⟩, hr, ih1⟩, by simp; omega⟩
  | [], _ :: _, x => x.elim
  | _ :: _, [], x => x.elim


theorem ns_uniq {h : Heap} {a : Addr} {m m' : PySem.Str → Option Value} (x : h.Ns a m) (y : h.Ns a m') : m = m' := by
  obtain ⟨o, es, ep, e, d, _, f⟩ := x
  obtain ⟨o', es', ep', e', d', _, f'⟩ := y
  rw [e] at e'; cases e'
  rw [d] at d'; cases d'
  funext n; rw [← f, ← f']
theorem s_setattr {P : PC} {a d : Addr} {fs : List (PySem.Str × V)} {v : V} {cv : Value} {n : String} (gok : G.ok) (pok : P.ok G) (ok : Γ.ok) (r : Rep G Γ frz σ s) (e1 : σ.mem a = some (.inst P.cls d)) (e2 : σ.mem d = some (.dict fs))
    (hf : P.fld n = true) (hz : fs.length ≤ 100) (hv : RV s.heap cv v) :
    wpAny (model G.prog G.w) A (setAttr (.ref a) (PySem.Str.ofString n) cv) (fun _ s' => Rep G Γ frz { σ with mem := upd σ.mem d (.dict (setF n v fs)) } s' ∧ TK s.heap s'.heap) NoE s := by
  obtain ⟨es, k, I, hF, g⟩ := inst_at r e1 e2
  obtain ⟨m, nm, _⟩ := r.hns
  have X := r.kin gok
  obtain ⟨q1, q2⟩ := fields_get (n := n) hF
  obtain ⟨a1, a2, a3⟩ := pok.get _ hf
  obtain ⟨p1, p2⟩ := fields_put (n := n) (hs := PyData.keyHash G.w.params (PySem.Str.ofString n)) (tk := s.toks + 1) hv hF
  have hl : (lookIn (PySem.Str.ofString n) (dictOf es k)).isSome = true := by
    rw [lookIn_dict]
    cases hq : lookF n fs with
    | none => rw [q2 hq]; rfl
    | some u => obtain ⟨cu, gu, _⟩ := q1 u hq; rw [gu]; rfl
  have hdL : d ≠ Γ.env.locals := r.mem_ne e2
  have hdb : G.base.get? d = none := by
    cases q : G.base.get? d with
    | none => rfl
    | some o => have := r.hbase _ _ q; rw [r.hmemF _ _ e2] at this; cases this
  have N : News G.base Γ.env.locals s.heap ([] ++ (d, dictOf es k) :: restOf G Γ.env.locals s.heap [d]) := fun p hp => by
    rcases List.mem_cons.mp hp with rfl | hp
    · exact ⟨g, hdL, hdb⟩
    · exact r.rest [d] p hp
  refine set_plain X I pok.set ?_
  refine osa_dict (s := { s with toks := s.toks + 1 }) (r.fr nm) N X I rfl pok.over a3 pok.hd hl (fun _ h => (nomatch h)) (fun p hp => ?_) (putName_dict _ _ _ _ _ _) rfl (Nat.le_trans p2 (by omega)) fun h' F' N' => ?_
  · obtain ⟨b, o⟩ := p
    have := (restOf_mem.mp hp).2.1
    simpa using this
  · have N2 : News G.base Γ.env.locals h' (restOf G Γ.env.locals s.heap [d]) := fun p hp => N' p (List.mem_cons_of_mem _ hp)
    have g' := (N' _ (List.mem_cons_self)).1
    exact r.changeL ok e2 (fun b o hb hl e => r.keep_of_rest F' N2 b o (by simpa using hb) hl e) (fun m' n' => ns_uniq nm n' ▸ F'.ns) (fun k => .dict g' (p1.tk k))
end
end Mine
set_option autoImplicit false
set_option maxRecDepth 10000
namespace Mine
open PySem PyProof.Rows PySem.W

noncomputable def CallS (G : GS) (A : Around) (f : Value) (vs : List V) (Q : V → Mem → Prop) (m : Mem) : Prop :=
  ∀ Γ frz σ s cvs, FE.ok Γ → Rep G Γ frz σ s → σ.mem = m → RVs s.heap cvs vs → wpAny (model G.prog G.w) A (call f cvs) (PO G Γ frz σ s Q) NoE s

structure PC.run (G : GS) (A : Around) (P : PC) : Prop where
  ok : P.ok G
  call : ∀ n, n ∈ G.fns → ∃ f, nsIn G.K mainGlobals (PySem.Str.ofString n) = some (some f) ∧ keepIn G.K f = true ∧ ∀ vs Q m, P.call n vs Q m → CallS G A f vs Q m
  meth : ∀ n, n ∈ G.meths → ∃ f, findIn G.K (.ref P.cls) (PySem.Str.ofString n) = some (some (.ref f)) ∧ isFn G.K (.ref f) = true ∧ plainGet G.K P.cls (PySem.Str.ofString n) = true ∧ keepIn G.K (.ref f) = true ∧
    ∀ vs Q m, P.meth n vs Q m → CallS G A (.ref f) vs Q m
  loc : ∀ v vs Q m, P.loc v vs Q m → ∃ a fo fd, v = .obj a ∧ m a = some (.raw fo) ∧ fo.data = .func fd ∧ CallS G A (.ref a) vs Q m

structure GS.bi (G : GS) : Prop where
  bi : ∀ b : Bi, G.mg (PySem.Str.ofString b.name) = none ∧ G.mb (PySem.Str.ofString b.name) = some b.val

structure SC.ok (G : GS) (C : SC) (Γ : FE) : Prop where
  fns : ∀ n, n ∈ C.fns → n ∈ G.fns
  meths : ∀ n, n ∈ C.meths → n ∈ G.meths
  vars : ∀ (i : Nat) x r, C.vars[i]? = some (x, r) → ∃ k, Γ.vars[i]? = some (x, k) ∧ (r = false → ∀ c, k ≠ .ref c)
  names : ∀ x, C.names.lookup x = some .globalImplicit → Γ.env.kindOf x = some .globalImplicit

section
variable {G : GS} {A : Around} {Γ : FE} {frz : Frz} {σ : St} {s : Shared}

theorem PV.after {s₁ s' : Shared} {Q : V → St → Prop} {cv : Value} (k : TK s.heap s₁.heap) (h : PV G Γ frz s₁ Q cv s') : PV G Γ frz s Q cv s' :=
  let ⟨v, σ', a, b, c, d⟩ := h; ⟨v, σ', a, b, k.trans c, d⟩
theorem PVs.after {s₁ s' : Shared} {Q : List V → St → Prop} {cv : List Value} (k : TK s.heap s₁.heap) (h : PVs G Γ frz s₁ Q cv s') : PVs G Γ frz s Q cv s' :=
  let ⟨v, σ', a, b, c, d⟩ := h; ⟨v, σ', a, b, k.trans c, d⟩
theorem PB.after {s₁ s' : Shared} {Q : Bool → St → Prop} {b : Bool} (k : TK s.heap s₁.heap) (h : PB G Γ frz s₁ Q b s') : PB G Γ frz s Q b s' :=
  let ⟨σ', b, c, d⟩ := h; ⟨σ', b, k.trans c, d⟩
theorem PU.after {s₁ s' : Shared} {Q : St → Prop} {b : Unit} (k : TK s.heap s₁.heap) (h : PU G Γ frz s₁ Q b s') : PU G Γ frz s Q b s' :=
  let ⟨σ', b, c, d⟩ := h; ⟨σ', b, k.trans c, d⟩
theorem PF.after {s₁ s' : Shared} {Q : Fl → St → Prop} {f : Flow} (k : TK s.heap s₁.heap) (h : PF G Γ frz s₁ Q f s') : PF G Γ frz s Q f s' :=
  let ⟨v, σ', a, b, c, d⟩ := h; ⟨v, σ', a, b, k.trans c, d⟩
theorem PO.toPV {Q' : V → Mem → Prop} {Q : V → St → Prop} {cv : Value} {s' : Shared} (h : PO G Γ frz σ s Q' cv s') (q : ∀ r m, Q' r m → Q r { σ with mem := m }) : PV G Γ frz s Q cv s' :=
  let ⟨v, m, a, b, c, d⟩ := h; ⟨v, _, a, b, c, q v m d⟩
theorem PO.imp {Q' Q : V → Mem → Prop} {cv : Value} {s' : Shared} (h : PO G Γ frz σ s Q' cv s') (q : ∀ r m, Q' r m → Q r m) : PO G Γ frz σ s Q cv s' :=
  let ⟨v, m, a, b, c, d⟩ := h; ⟨v, _, a, b, c, q v m d⟩

/-- evaluate, go on -/
theorem W.then {t : Sem Value} {Q : V → St → Prop} {post : Value → Shared → Prop} (h : W G A Γ t Q σ) (r : Rep G Γ frz σ s)
    (k : ∀ cv v σ₁ s₁, RV s₁.heap cv v → Rep G Γ frz σ₁ s₁ → TK s.heap s₁.heap → Q v σ₁ → post cv s₁) : wpAny (model G.prog G.w) A t post NoE s :=
  wpAny_mono (h frz s r) (fun cv s₁ ⟨v, σ₁, a, b, c, d⟩ => k cv v σ₁ s₁ a b c d) fun _ _ x => x
theorem Ws.then {t : Sem (List Value)} {Q : List V → St → Prop} {post : List Value → Shared → Prop} (h : Ws G A Γ t Q σ) (r : Rep G Γ frz σ s)
    (k : ∀ cv v σ₁ s₁, RVs s₁.heap cv v → Rep G Γ frz σ₁ s₁ → TK s.heap s₁.heap → Q v σ₁ → post cv s₁) : wpAny (model G.prog G.w) A t post NoE s :=
  wpAny_mono (h frz s r) (fun cv s₁ ⟨v, σ₁, a, b, c, d⟩ => k cv v σ₁ s₁ a b c d) fun _ _ x => x
theorem WB.then {t : Sem Bool} {Q : Bool → St → Prop} {post : Bool → Shared → Prop} (h : WB G A Γ t Q σ) (r : Rep G Γ frz σ s)
    (k : ∀ b σ₁ s₁, Rep G Γ frz σ₁ s₁ → TK s.heap s₁.heap → Q b σ₁ → post b s₁) : wpAny (model G.prog G.w) A t post NoE s :=
  wpAny_mono (h frz s r) (fun b s₁ ⟨σ₁, a, c, d⟩ => k b σ₁ s₁ a c d) fun _ _ x => x

theorem w_lit {v : V} {c : Const} {k : Nat} {pos : Pos} {Q : V → St → Prop} (h : litOk v c = true) (q : Q v σ) : W G A Γ (eval (.Constant c k pos) Γ.env) Q σ := fun frz s r => by
  rw [arm_eval_Constant]
  cases v with
  | none => cases (beq_iff_eq.mp h); exact wpAny_pure ⟨_, _, .none, r, .refl _, q⟩
  | bool => cases (beq_iff_eq.mp h); exact wpAny_pure ⟨_, _, .bool _, r, .refl _, q⟩
  | int => cases (beq_iff_eq.mp h); exact wpAny_mkInt ⟨_, _, .int _ _, r.toks _, .refl _, q⟩
  | flt => cases (beq_iff_eq.mp h); exact wpAny_bind (wpAny_fresh (wpAny_pure ⟨_, _, .flt _ _, r.toks _, .refl _, q⟩))
  | str => cases (beq_iff_eq.mp h); exact wpAny_mkText ⟨_, _, .str _ _, r.toks _, .refl _, q⟩
  | tup => exact absurd h Bool.false_ne_true
  | rng => exact absurd h Bool.false_ne_true
  | obj => exact absurd h Bool.false_ne_true

theorem getElem_some_mem {α : Type} {l : List α} {i : Nat} {x : α} (h : l[i]? = some x) : x ∈ l := List.mem_of_getElem? h

theorem w_name {i : Nat} {x : PySem.Str} {pos : Pos} {k : VK} {v : V} {Q : V → St → Prop} (ok : Γ.ok) (hx : Γ.vars[i]? = some (x, k)) (hv : σ.loc[i]? = some (some v)) (q : Q v σ) :
    W G A Γ (eval (.Name x pos) Γ.env) Q σ := fun frz s r => by
  refine wpAny_Name ?_ (ok.dbg i x k hx).1
  cases k with
  | loc =>
    obtain ⟨m, n, f⟩ := r.hns
    obtain ⟨cv, e, rv⟩ := f i x v hx hv
    exact wpAny_loadName_local ok.fn (ok.loc i x hx) n e ⟨v, σ, rv, r, .refl _, q⟩
  | own c =>
    obtain ⟨_, _, o, ov, g, d, f⟩ := r.hown i x c hx
    obtain ⟨cv, e, rv⟩ := f v hv
    subst e
    obtain ⟨a1, a2, _⟩ := ok.own i x c hx
    exact wpAny_loadName_cell ok.fn a1 a2 ⟨_, g, d⟩ ⟨v, σ, rv, r, .refl _, q⟩
  | ref c =>
    obtain ⟨o, ov, g, d, f⟩ := r.href i x c hx
    obtain ⟨cv, e, rv⟩ := f v hv
    subst e
    have g' := r.hfrz _ _ g
    obtain ⟨a1, a2⟩ := ok.ref i x c hx
    rcases a1 with a1 | a1
    · exact wpAny_loadName_cell ok.fn a1 a2 ⟨_, g', d⟩ ⟨v, σ, rv, r, .refl _, q⟩
    · exact wpAny_loadName_free ok.fn a1 a2 ⟨_, g', d⟩ ⟨v, σ, rv, r, .refl _, q⟩ (ok.dbg i x _ hx).2

/-- no starred among them -/
theorem star_plain {e : Expr} {es : List Expr} {env : Env} (h : plainE e = true) : starEach (e :: es) env = (false, eval e env) :: starEach es env := by
  cases e <;> first | rfl | exact absurd h Bool.false_ne_true
theorem star_of {C : SC} {env : Env} : ∀ {es : List Ex} {xs : List Expr}, chkEs C es xs = true → starEach xs env = xs.map fun e => (false, eval e env)
  | [], xs, h => by rw [chkEs_nil h]; rfl
  | a :: as, xs, h => by
    obtain ⟨e, es, rfl, hp, _, h⟩ := chkEs_cons h
    rw [star_plain hp, star_of h]; rfl
theorem each_of (env : Env) : ∀ xs : List Expr, evalEach xs env = xs.map fun e => eval e env
  | [] => rfl
  | e :: es => by rw [List.map_cons, ← each_of env es]; rfl
theorem marks_plain {e : Expr} (h : plainE e = true) (op : CmpOp) : behindInMarks op e = false := by
  cases e <;> first | rfl | exact absurd h Bool.false_ne_true
theorem marked_of {C : SC} {env : Env} : ∀ {es : List Ex} {xs : List Expr} (ops : List CmpOp), chkEs C es xs = true → markedEach ops xs (evalEach xs env) = evalEach xs env
  | [], xs, ops, h => by
    rw [chkEs_nil h]
    cases ops with
    | nil => rfl
    | cons o os => cases os <;> rfl
  | a :: as, xs, ops, h => by
    obtain ⟨e, es, rfl, hp, _, h⟩ := chkEs_cons h
    have ih := fun os => marked_of (env := env) os h
    cases ops with
    | nil => cases es <;> rfl
    | cons o os =>
      show markedEach (o :: os) (e :: es) (eval e env :: evalEach es env) = eval e env :: evalEach es env
      cases es with
      | nil =>
        cases os with
        | nil => simp only [evalEach, markedEach, markedBehindIn_of_false (marks_plain hp o)]
        | cons o' os => simp only [evalEach, markedEach]
      | cons e' es =>
        have q := ih os
        cases os with
        | nil => simp only [evalEach, markedEach]
        | cons o' os =>
          simp only [evalEach] at q ⊢
          simp only [markedEach] at q ⊢
          rw [q]
end
end Mine
set_option autoImplicit false
set_option maxRecDepth 10000
set_option linter.unusedVariables false
namespace Mine
open PySem PyProof.Rows PySem.W

section
variable {G : GS} {A : Around} {Γ : FE} {frz : Frz} {σ : St} {s : Shared}

theorem back_of (pos : Pos) (env : Env) (xs : List Expr) : backTo pos (xs.map fun e => (false, eval e env)) = xs.map fun e => (false, eval e env) := by
  unfold backTo
  rw [List.map_map]
  apply List.map_congr_left
  intro e _; rfl

theorem ws_nil {Q : List V → St → Prop} (q : Q [] σ) : Ws G A Γ (spliced []) Q σ := fun frz s r => Calls.spliced_nil ⟨[], σ, .nil, r, .refl _, q⟩
theorem ws_cons {t : Sem Value} {rest : List (Bool × Sem Value)} {Q : List V → St → Prop} (h : W G A Γ t (fun v σ₁ => Ws G A Γ (spliced rest) (fun vs σ₂ => Q (v :: vs) σ₂) σ₁) σ) :
    Ws G A Γ (spliced ((false, t) :: rest)) Q σ := fun frz s r =>
  Calls.spliced_cons (h.then r fun cv v σ₁ s₁ a b c d => d.then b fun cvs vs σ₂ s₂ a' b' c' d' => ⟨v :: vs, σ₂, .cons (a.tk c') a', b', c.trans c', d'⟩)

/-- arguments -/
theorem w_args {f : Value} {xs : List Expr} {Q : List V → St → Prop} (h : Ws G A Γ (spliced (xs.map fun e => (false, eval e Γ.env))) Q σ) (r : Rep G Γ frz σ s) {post : Args → Shared → Prop}
    (k : ∀ cvs vs σ₁ s₁, RVs s₁.heap cvs vs → Rep G Γ frz σ₁ s₁ → TK s.heap s₁.heap → Q vs σ₁ → post ⟨cvs, []⟩ s₁) :
    wpAny (model G.prog G.w) A (evalArgs f true (xs.map fun e => (false, eval e Γ.env)) []) post NoE s := by
  cases xs with
  | nil =>
    unfold evalArgs
    show wpAny _ _ (spliced [] >>= _) _ _ s
    refine wpAny_bind (h.then r fun cvs vs σ₁ s₁ a b c d => wpAny_bind (wpAny_pure ?_))
    refine wpAny_holding ?_
    exact wpAny_bind (wpAny_pure (wpAny_bind (wpAny_pure (wpAny_pure (k cvs vs σ₁ s₁ a b c d)))))
  | cons x xs => exact Calls.evalArgs_plain (h.then r fun cvs vs σ₁ s₁ a b c d => k cvs vs σ₁ s₁ a b c d)

/-- with their number -/
noncomputable def Wn (G : GS) (A : Around) (Γ : FE) (n : Nat) (t : Sem (List Value)) (Q : List V → St → Prop) (σ : St) : Prop :=
  ∀ frz s, Rep G Γ frz σ s → wpAny (model G.prog G.w) A t (fun cvs s' => cvs.length = n ∧ PVs G Γ frz s Q cvs s') NoE s
theorem Wn.ws {n : Nat} {t : Sem (List Value)} {Q : List V → St → Prop} (h : Wn G A Γ n t Q σ) : Ws G A Γ t Q σ := fun frz s r => wpAny_mono (h frz s r) (fun _ _ q => q.2) fun _ _ x => x
theorem Wn.then {n : Nat} {t : Sem (List Value)} {Q : List V → St → Prop} {post : List Value → Shared → Prop} (h : Wn G A Γ n t Q σ) (r : Rep G Γ frz σ s)
    (k : ∀ cv v σ₁ s₁, cv.length = n → RVs s₁.heap cv v → Rep G Γ frz σ₁ s₁ → TK s.heap s₁.heap → Q v σ₁ → post cv s₁) : wpAny (model G.prog G.w) A t post NoE s :=
  wpAny_mono (h frz s r) (fun cv s₁ ⟨l, v, σ₁, a, b, c, d⟩ => k cv v σ₁ s₁ l a b c d) fun _ _ x => x
theorem wn_nil {Q : List V → St → Prop} (q : Q [] σ) : Wn G A Γ 0 (spliced []) Q σ := fun frz s r => Calls.spliced_nil ⟨rfl, [], σ, .nil, r, .refl _, q⟩
theorem wn_cons {n : Nat} {t : Sem Value} {rest : List (Bool × Sem Value)} {Q : List V → St → Prop} (h : W G A Γ t (fun v σ₁ => Wn G A Γ n (spliced rest) (fun vs σ₂ => Q (v :: vs) σ₂) σ₁) σ) :
    Wn G A Γ (n + 1) (spliced ((false, t) :: rest)) Q σ := fun frz s r =>
  Calls.spliced_cons (h.then r fun cv v σ₁ s₁ a b c d => d.then b fun cvs vs σ₂ s₂ l a' b' c' d' => ⟨by simp [l], v :: vs, σ₂, .cons (a.tk c') a', b', c.trans c', d'⟩)

theorem w_global {x : PySem.Str} {pos : Pos} {f : Value} {post : Value → Shared → Prop} (gok : G.ok) (ok : Γ.ok) (r : Rep G Γ frz σ s) (hx : Γ.env.kindOf x = some .globalImplicit) (hd : (x == PySem.Str.ofString "__debug__") = false)
    (e : nsIn G.K mainGlobals x = some (some f)) (h : post f s) : wpAny (model G.prog G.w) A (eval (.Name x pos) Γ.env) post NoE s := by
  refine Calls.Name_function_global ok.fn hx ?_ hd
  refine Calls.loadGlobal_global (mg := G.mg) ?_ (mg_of gok.k gok.g e) h
  rw [ok.glb]
  exact gok.g.keeps fun b o e => r.hfrz _ _ (r.hbase _ _ e)
theorem w_builtin {b : Bi} {pos : Pos} {post : Value → Shared → Prop} (gok : G.ok) (gbi : G.bi) (ok : Γ.ok) (r : Rep G Γ frz σ s) (hx : Γ.env.kindOf (PySem.Str.ofString b.name) = some .globalImplicit) (hd : (PySem.Str.ofString b.name == PySem.Str.ofString "__debug__") = false)
    (h : post b.val s) : wpAny (model G.prog G.w) A (eval (.Name (PySem.Str.ofString b.name) pos) Γ.env) post NoE s := by
  refine Calls.Name_function_global ok.fn hx ?_ hd
  have k : ∀ b o, G.base.get? b = some o → s.heap.get? b = some o := fun b o e => r.hfrz _ _ (r.hbase _ _ e)
  refine Calls.loadGlobal_builtin (mg := G.mg) (mb := G.mb) ?_ (gbi.bi b).1 ?_ (gbi.bi b).2 h
  · rw [ok.glb]; exact gok.g.keeps k
  · rw [ok.bui]; exact gok.b.keeps k

theorem plain_args (env : Env) (xs : List Expr) : (xs.map fun e => (false, eval e env)).any (·.1) = false := by
  induction xs with
  | nil => rfl
  | cons x xs ih => simpa using ih

theorem call_val {b : Bi} {pos : Pos} {args : List (Bool × Sem Value)} {post : Value → Shared → Prop} {s : Shared} (hp : args.any (·.1) = false)
    (h : wpAny (model G.prog G.w) A (evalArgs b.val true args []) (fun a s₁ => wpAny (model G.prog G.w) A (call b.val a.pos a.kw) post NoE s₁) NoE s) :
    wpAny (model G.prog G.w) A (callWith pos b.val [] args []) post NoE s := by
  cases b
  case range => exact PyProof.Rows.callWith_type (T := "range") (first := []) hp h
  case list => exact PyProof.Rows.callWith_type (T := "list") (first := []) hp h
  case len => exact Calls.callWith_builtin (id := "len") (first := []) hp h
  case min => exact Calls.callWith_builtin (id := "min") (first := []) hp h
  case max => exact Calls.callWith_builtin (id := "max") (first := []) hp h
  case sum => exact Calls.callWith_builtin (id := "sum") (first := []) hp h
  case chr => exact Calls.callWith_builtin (id := "chr") (first := []) hp h
  case ord => exact Calls.callWith_builtin (id := "ord") (first := []) hp h

theorem eval_CallName (f : PySem.Str) (p pos : Pos) (xs : List Expr) (env : Env) : eval (.Call (.Name f p) xs [] pos) env = (do
    callWith pos (← eval (.Name f p) env) [] (backTo pos (starEach xs env)) (backToKw pos (keywordEach [] env))) := rfl

theorem keep_raw {a : Addr} {fo : Obj} {fd : FuncData} (h : Heap) (e : h.get? a = some fo) (d : fo.data = .func fd) : ∃ k, (k = Keeper.frame ∨ k = Keeper.machine ∨ k = Keeper.boundFrame) ∧ Looks (model G.prog G.w) h (keeperOf (.ref a)) k := by
  obtain ⟨c, dd, dt, sl⟩ := fo
  cases d
  exact keeps_F (q := a) h ⟨_, _, _, _, e⟩

theorem w_default {e : Expr} {Q : Bool → St → Prop} (h : W G A Γ (eval e Γ.env) (fun v σ₁ => wpTruth σ₁.mem v fun b => Q b σ₁) σ)
    (he : isTrue e Γ.env (eval e Γ.env) = (do let v ← eval e Γ.env; standAt e.pos; holding [v] (truthy v))) : WB G A Γ (isTrue e Γ.env (eval e Γ.env)) Q σ := fun frz s r => by
  rw [he]
  refine wpAny_bind (h.then r fun cv v σ₁ s₁ a b c d => wpAny_bind (wpAny_standAt (wpAny_holding ?_)))
  exact wpAny_mono (s_truth d b a) (fun b' s₂ ⟨p, q, t⟩ => ⟨σ₁, p, c.trans q, t⟩) fun _ _ x => x

theorem glob_of {C : SC} {n : String} {x : PySem.Str} (hC : C.ok G Γ) (h : C.glob n x = true) : x = PySem.Str.ofString n ∧ Γ.env.kindOf x = some .globalImplicit ∧ (x == PySem.Str.ofString "__debug__") = false := by
  unfold SC.glob at h
  simp only [Bool.and_eq_true, beq_iff_eq, Bool.not_eq_true'] at h
  exact ⟨h.1.1.symm, hC.names x h.1.2, h.2⟩
theorem is_of {C : SC} {i : Nat} {x : PySem.Str} (hC : C.ok G Γ) (h : C.is i x = true) : ∃ k, Γ.vars[i]? = some (x, k) := by
  unfold SC.is at h
  split at h
  · rename_i y r e
    obtain ⟨k, hk, _⟩ := hC.vars i y r e
    rw [beq_iff_eq.mp h] at hk
    exact ⟨k, hk⟩
  · cases h
end
end Mine
set_option autoImplicit false
set_option maxRecDepth 10000
set_option linter.unusedVariables false
namespace Mine
open PySem PyProof.Rows PySem.W

section
variable {G : GS} {A : Around} {Γ : FE} {C : SC} {P : PC}

theorem base_of {o : Expr} {attr : PySem.Str} {env : Env} {t : Sem Value} (h : notCall o = true) : attributeBase o attr env t = t := by
  unfold attributeBase
  split
  · cases h
  · rfl

theorem meth_few {o : Expr} {name : PySem.Str} {ap pos : Pos} {env : Env} {ov : Value} {xs : List Expr} {s : Shared} {Q : Value → Shared → Prop} (hn : xs.length < 20) (hl : ap.endLine = pos.line)
    (h : ∀ pl : Sem Bool, wpAny (model G.prog G.w) A (getMethod ov name pl) (fun p s₁ => wpAny (model G.prog G.w) A (callWith pos p.1 p.2 (xs.map fun e => (false, eval e env)) []) Q NoE s₁) NoE s) :
    wpAny (model G.prog G.w) A (methodCall o name ap pos env ov (xs.length + ([] : List Keyword).length) (xs.map fun e => (false, eval e env)) (backToKw pos (keywordEach [] env))) Q NoE s := by
  have few : methodCallForm (xs.length + ([] : List Keyword).length) (xs.map fun e => (false, eval e env)) (backToKw pos (keywordEach [] env)) = true := by
    unfold methodCallForm
    simp only [Bool.and_eq_true, decide_eq_true_eq]
    refine ⟨⟨?_, rfl⟩, ?_⟩
    · rw [List.all_map, List.all_eq_true]; intro _ _; rfl
    · show xs.length + 0 + 0 < 30
      omega
  unfold methodCall
  rw [few]
  refine wpAny_bind (wpAny_holding ?_)
  refine wpAny_mono (h _) (fun p s₁ h₁ => ?_) fun _ _ x => x
  obtain ⟨f, first⟩ := p
  refine wpAny_bind ?_
  unfold methodCallPos
  rw [if_pos (by simp [hl])]
  exact wpAny_pure h₁

theorem w_release {M : Model} {A : Around} {E : Value → Shared → Prop} {s : Shared} {vs keep : List Value} {Q : Unit → Shared → Prop} (h : Q () s) : wpAny M A (release vs keep) Q E s :=
  fun Γ p _ => by rw [Sem.wp_release]; exact h

theorem soundO {x : Ex} (ih : ∀ (e : Expr), chkE C x e = true → ∀ (Q : V → St → Prop) (σ : St), wpE P x Q σ → W G A Γ (eval e Γ.env) Q σ) (e : Option Expr) (h : chkO C x e = true) {Q : V → St → Prop} {σ : St} (w : wpE P x Q σ) :
    W G A Γ (valueOrNone (evalOpt e Γ.env)) Q σ := by
  cases e with
  | none =>
    have hx : x = .lit .none := by
      cases x with
      | lit v => cases v <;> first | rfl | exact absurd h Bool.false_ne_true
      | _ => exact absurd h Bool.false_ne_true
    subst hx
    exact fun frz s r => wpAny_pure ⟨_, _, .none, r, .refl _, w⟩
  | some e => exact ih e h _ _ w

noncomputable def plainT : Expr → Bool
  | .UnaryOp o _ _ => !(o == .Not)
  | .BoolOp .. => false
  | .Compare .. => false
  | .IfExp .. => false
  | .NamedExpr .. => false
  | _ => true
theorem isTrue_plain {e : Expr} {env : Env} (h : plainT e = true) : isTrue e env (eval e env) = (do let v ← eval e env; standAt e.pos; holding [v] (truthy v)) := by
  cases e <;> first | rfl | exact absurd h Bool.false_ne_true | skip
  rename_i o _ _
  cases o <;> first | rfl | exact absurd h Bool.false_ne_true
noncomputable def logicX : Ex → Bool
  | .not _ => true
  | .ite .. => true
  | .cmp .. => true
  | .band _ => true
  | .bor _ => true
  | _ => false
theorem plainT_of {C : SC} {x : Ex} {e : Expr} (h : chkE C x e = true) (hx : logicX x = false) : plainT e = true := by
  cases x with
  | lit => obtain ⟨t, ht, _⟩ := any_inv h; obtain ⟨_, _, rfl⟩ := asConst_inv ht; rfl
  | var => obtain ⟨t, ht, _⟩ := any_inv h; obtain ⟨_, rfl⟩ := asName_inv ht; rfl
  | bin => obtain ⟨t, ht, _⟩ := any_inv h; obtain ⟨_, rfl⟩ := asBin_inv ht; rfl
  | neg =>
    replace h := any_inv h
    obtain ⟨⟨t1, t2⟩, ht, h⟩ := h
    obtain ⟨_, rfl⟩ := asUn_inv ht
    rw [Bool.and_eq_true, beq_iff_eq] at h
    obtain ⟨rfl, _⟩ := h
    rfl
  | list => obtain ⟨t, ht, _⟩ := any_inv h; obtain ⟨_, rfl⟩ := asList_inv ht; rfl
  | tup => obtain ⟨t, ht, _⟩ := any_inv h; obtain ⟨_, _, rfl⟩ := asTup_inv ht; rfl
  | idx => obtain ⟨t, ht, _⟩ := any_inv h; obtain ⟨_, rfl⟩ := asSub_inv ht; rfl
  | slc => obtain ⟨t, ht, _⟩ := any_inv h; obtain ⟨_, rfl⟩ := asSub_inv ht; rfl
  | attr => obtain ⟨t, ht, _⟩ := any_inv h; cases asAttr_inv ht; rfl
  | bi => obtain ⟨t, ht, _⟩ := any_inv h; cases asCall_inv ht; rfl
  | call => obtain ⟨t, ht, _⟩ := any_inv h; cases asCall_inv ht; rfl
  | me => obtain ⟨t, ht, _⟩ := any_inv h; cases asCall_inv ht; rfl
  | imeth => obtain ⟨t, ht, _⟩ := any_inv h; cases asCall_inv ht; rfl
  | lcall => obtain ⟨t, ht, _⟩ := any_inv h; cases asCall_inv ht; rfl
  | _ => exact absurd hx.symm Bool.false_ne_true

mutual
theorem soundE (gok : G.ok) (gbi : G.bi) (hA : Rm A) (ok : Γ.ok) (hC : C.ok G Γ) (hP : P.run G A) (x : Ex) (e : Expr) (h : chkE C x e = true) {Q : V → St → Prop} {σ : St} (w : wpE P x Q σ) :
    W G A Γ (eval e Γ.env) Q σ := by
  cases x with
  | lit v =>
    replace h := any_inv h
    obtain ⟨c, hc, h⟩ := h
    obtain ⟨k, p, rfl⟩ := asConst_inv hc
    exact w_lit h w
  | var i =>
    replace h := any_inv h
    obtain ⟨n, hn, h⟩ := h
    obtain ⟨p, rfl⟩ := asName_inv hn
    obtain ⟨k, hk⟩ := is_of hC h
    obtain ⟨v, hv, q⟩ := loc_inv w
    exact w_name ok hk hv q
  | bin op a b =>
    replace h := any_inv h
    obtain ⟨t, ht, h⟩ := h
    obtain ⟨p, rfl⟩ := asBin_inv ht
    obtain ⟨t1, t2, t3⟩ := t
    simp only [Bool.and_eq_true, beq_iff_eq] at h
    obtain ⟨⟨rfl, h1⟩, h2⟩ := h
    intro frz s r
    refine wpAny_BinOp ((soundE gok gbi hA ok hC hP a _ h1 w).then r fun cv v σ₁ s₁ a1 b1 c1 d1 => (soundE gok gbi hA ok hC hP b _ h2 d1).then b1 fun cu u σ₂ s₂ a2 b2 c2 d2 => ?_)
    exact wpAny_mono (s_bin d2 b2 (a1.tk c2) a2) (fun cr s₃ h3 => (h3.toPV fun _ _ q => q).after (c1.trans c2)) fun _ _ x => x
  | neg a =>
    replace h := any_inv h
    obtain ⟨t, ht, h⟩ := h
    obtain ⟨p, rfl⟩ := asUn_inv ht
    rw [Bool.and_eq_true, beq_iff_eq] at h
    obtain ⟨t1, t2⟩ := t
    obtain ⟨rfl, h⟩ := h
    intro frz s r
    rw [arm_eval_UnaryOp]
    refine wpAny_bind ((soundE gok gbi hA ok hC hP a _ h w).then r fun cv v σ₁ s₁ a1 b1 c1 d1 => wpAny_bind (wpAny_standAt (wpAny_holding ?_)))
    cases v <;> first | (exact False.elim d1) | skip
    cases a1
    exact neg_int ⟨_, _, .int _ _, b1.toks _, c1, d1⟩
  | not a =>
    replace h := any_inv h
    obtain ⟨t, ht, h⟩ := h
    obtain ⟨p, rfl⟩ := asUn_inv ht
    rw [Bool.and_eq_true, beq_iff_eq] at h
    obtain ⟨t1, t2⟩ := t
    obtain ⟨rfl, h⟩ := h
    intro frz s r
    rw [arm_eval_UnaryOp]
    refine wpAny_bind ((soundE gok gbi hA ok hC hP a _ h w).then r fun cv v σ₁ s₁ a1 b1 c1 d1 => wpAny_bind (wpAny_standAt (wpAny_holding (not_of ?_))))
    exact wpAny_mono (s_truth d1 b1 a1) (fun b s₂ ⟨p, q, t⟩ => ⟨_, _, .bool _, p, c1.trans q, t⟩) fun _ _ x => x
  | ite c a b =>
    replace h := any_inv h
    obtain ⟨t, ht, h⟩ := h
    obtain ⟨p, rfl⟩ := asIf_inv ht
    simp only [Bool.and_eq_true] at h
    intro frz s r
    rw [arm_eval_IfExp]
    refine wpAny_bind ((soundT gok gbi hA ok hC hP c (fun e h _ _ w => soundE gok gbi hA ok hC hP c e h w) _ h.1.1 w).then r fun t σ₁ s₁ b1 c1 d1 => ?_)
    cases t with
    | true => exact wpAny_mono (soundE gok gbi hA ok hC hP a _ h.1.2 d1 frz s₁ b1) (fun cr s₃ h3 => h3.after c1) fun _ _ x => x
    | false => exact wpAny_mono (soundE gok gbi hA ok hC hP b _ h.2 d1 frz s₁ b1) (fun cr s₃ h3 => h3.after c1) fun _ _ x => x
  | list es =>
    replace h := any_inv h
    obtain ⟨t, ht, h⟩ := h
    obtain ⟨p, rfl⟩ := asList_inv ht
    simp only [Bool.and_eq_true, decide_eq_true_eq] at h
    intro frz s r
    refine List_ ?_
    rw [star_of h.2, back_of]
    refine (soundEs gok gbi hA ok hC hP es _ h.2 w).then r fun cvs vs σ₁ s₁ l1 a1 b1 c1 d1 => wpAny_newObj_type ?_ (by show cvs.toArray.size ≤ _; rw [List.size_toArray, sizeLine_eq]; omega)
    exact ((PO.newList (Q := fun r m => Q r { σ₁ with mem := m }) b1 (tk := s₁.toks) (arr := cvs.toArray) (by simpa using a1) d1).toPV fun _ _ q => q).after c1
  | tup es =>
    replace h := any_inv h
    obtain ⟨t, ht, h⟩ := h
    obtain ⟨k, p, rfl⟩ := asTup_inv ht
    simp only [Bool.and_eq_true, decide_eq_true_eq] at h
    intro frz s r
    refine Tuple_ ?_
    rw [star_of h.2, back_of]
    refine (soundEs gok gbi hA ok hC hP es _ h.2 w).then r fun cvs vs σ₁ s₁ l1 a1 b1 c1 d1 => wpAny_newObj_type ?_ (by show cvs.toArray.size ≤ _; rw [List.size_toArray, sizeLine_eq]; omega)
    exact ((PO.newTup (Q := fun r m => Q r { σ₁ with mem := m }) b1 (tk := s₁.toks) (arr := cvs.toArray) (by simpa using a1) d1).toPV fun _ _ q => q).after c1
  | cmp a ops es =>
    replace h := any_inv h
    obtain ⟨t, ht, h⟩ := h
    obtain ⟨p, rfl⟩ := asCmp_inv ht
    obtain ⟨t1, t2, t3⟩ := t
    simp only [Bool.and_eq_true, beq_iff_eq] at h
    obtain ⟨⟨h1, rfl⟩, h2⟩ := h
    intro frz s r
    rw [arm_eval_Compare, marked_of _ h2]
    refine wpAny_bind ((soundE gok gbi hA ok hC hP a _ h1 w).then r fun cv v σ₁ s₁ a1 b1 c1 d1 => ?_)
    exact wpAny_mono (soundCh gok gbi hA ok hC hP es _ _ h2 d1 frz s₁ cv b1 a1) (fun cr s₃ ⟨b, σ', e, p, q, t⟩ => ⟨_, _, e ▸ .bool _, p, c1.trans q, t⟩) fun _ _ x => x
  | band es =>
    replace h := any_inv h
    obtain ⟨t, ht, h⟩ := h
    obtain ⟨pos, rfl⟩ := asBool_inv ht
    rw [Bool.and_eq_true, beq_iff_eq] at h
    obtain ⟨t1, t2⟩ := t
    obtain ⟨rfl, h⟩ := h
    intro frz s r
    rw [arm_eval_BoolOp]
    exact soundBo gok gbi hA ok hC hP true es _ h w frz s r
  | bor es =>
    replace h := any_inv h
    obtain ⟨t, ht, h⟩ := h
    obtain ⟨pos, rfl⟩ := asBool_inv ht
    rw [Bool.and_eq_true, beq_iff_eq] at h
    obtain ⟨t1, t2⟩ := t
    obtain ⟨rfl, h⟩ := h
    intro frz s r
    rw [arm_eval_BoolOp]
    exact soundBo gok gbi hA ok hC hP false es _ h w frz s r
  | idx a i =>
    replace h := any_inv h
    obtain ⟨t, ht, h⟩ := h
    obtain ⟨p, rfl⟩ := asSub_inv ht
    simp only [Bool.and_eq_true] at h
    intro frz s r
    refine Subscript_ ((soundE gok gbi hA ok hC hP a _ h.1 w).then r fun cv v σ₁ s₁ a1 b1 c1 d1 => (soundE gok gbi hA ok hC hP i _ h.2 d1).then b1 fun cu u σ₂ s₂ a2 b2 c2 d2 => ?_)
    exact wpAny_mono (s_idx d2 b2 (a1.tk c2) a2) (fun cr s₃ h3 => (h3.toPV fun r m ⟨e, q⟩ => by subst e; exact q).after (c1.trans c2)) fun _ _ x => x
  | slc a lo hi st =>
    replace h := any_inv h
    obtain ⟨t, ht, h⟩ := h
    obtain ⟨p, rfl⟩ := asSub_inv ht
    replace h := any_inv h
    obtain ⟨u, hu, h⟩ := h
    obtain ⟨t1, t2⟩ := t
    obtain ⟨p', rfl⟩ := asSlice_inv hu
    simp only [Bool.and_eq_true] at h
    intro frz s r
    refine Subscript_ ((soundE gok gbi hA ok hC hP a _ h.1.1.1 w).then r fun cv v σ₁ s₁ a1 b1 c1 d1 => ?_)
    rw [arm_eval_Slice]
    refine wpAny_bind ((soundO (fun e h _ _ w => soundE gok gbi hA ok hC hP lo e h w) _ h.1.1.2 d1).then b1 fun cl l σ₂ s₂ a2 b2 c2 d2 => wpAny_bind (wpAny_holding ((soundO (fun e h _ _ w => soundE gok gbi hA ok hC hP hi e h w) _ h.1.2 d2).then b2 fun ch hh σ₃ s₃ a3 b3 c3 d3 =>
      wpAny_bind (wpAny_holding ((soundO (fun e h _ _ w => soundE gok gbi hA ok hC hP st e h w) _ h.2 d3).then b3 fun cs ss σ₄ s₄ a4 b4 c4 d4 => wpAny_newObj_type ?_)))))
    exact wpAny_mono (s_slc d4 b4 (a1.tk (c2.trans (c3.trans c4))) (a2.tk (c3.trans c4)) (a3.tk c4) a4) (fun cr s₃ h3 => (h3.toPV fun r m q => q).after (c1.trans (c2.trans (c3.trans c4)))) fun _ _ x => x
  | attr o n =>
    replace h := any_inv h
    obtain ⟨t, ht, h⟩ := h
    obtain ⟨t1, t2, t3⟩ := t
    cases asAttr_inv ht
    simp only [Bool.and_eq_true, beq_iff_eq] at h
    obtain ⟨⟨rfl, h1⟩, h2⟩ := h
    intro frz s r
    rw [arm_eval_Attribute, base_of h1]
    refine wpAny_bind ((soundE gok gbi hA ok hC hP o _ h2 w).then r fun cv v σ₁ s₁ a1 b1 c1 d1 => wpAny_bind (wpAny_standAt (wpAny_bind (wpAny_holding (wpAny_mono (s_attr gok hP.ok d1 b1 a1) (fun cr s₂ h2 => ?_) fun _ _ x => x)))))
    exact wpAny_bind (wpAny_letTemporaryGo (wpAny_pure ((h2.toPV fun r m ⟨e, q⟩ => by subst e; exact q).after c1)))
  | bi b args =>
    replace h := any_inv h
    obtain ⟨t, ht, h⟩ := h
    replace h := any_inv h
    obtain ⟨f, hf, h⟩ := h
    obtain ⟨t1, t2, t3, t4⟩ := t
    cases asCall_inv ht
    obtain ⟨p, rfl⟩ := asName_inv hf
    simp only [Bool.and_eq_true, List.isEmpty_iff] at h
    obtain ⟨⟨rfl, hg⟩, h⟩ := h
    obtain ⟨rfl, hk, hd⟩ := glob_of hC hg
    intro frz s r
    rw [eval_CallName, star_of h, back_of]
    refine wpAny_bind (w_builtin gok gbi ok r hk hd (call_val (plain_args _ _) (w_args (soundEs gok gbi hA ok hC hP args _ h w).ws r fun cvs vs σ₁ s₁ a1 b1 c1 d1 => ?_)))
    exact wpAny_mono (s_bi hA ok d1 b1 a1) (fun cr s₃ h3 => (h3.toPV fun r m q => q).after c1) fun _ _ x => x
  | call n args =>
    replace h := any_inv h
    obtain ⟨t, ht, h⟩ := h
    replace h := any_inv h
    obtain ⟨f, hf, h⟩ := h
    obtain ⟨t1, t2, t3, t4⟩ := t
    cases asCall_inv ht
    obtain ⟨p, rfl⟩ := asName_inv hf
    simp only [Bool.and_eq_true, List.isEmpty_iff] at h
    obtain ⟨⟨⟨rfl, hn⟩, hg⟩, h⟩ := h
    obtain ⟨rfl, hk, hd⟩ := glob_of hC hg
    obtain ⟨f, hf1, hf2, hf3⟩ := hP.call n (hC.fns n (List.contains_iff_mem.mp hn))
    intro frz s r
    rw [eval_CallName, star_of h, back_of]
    refine wpAny_bind (w_global gok ok r hk hd hf1 (callWith_of (P := G.K.In) (by rw [plain_args]; rfl) (keeps_K hf2) (w_args (soundEs gok gbi hA ok hC hP args _ h w).ws r fun cvs vs σ₁ s₁ a1 b1 c1 d1 => ⟨b1.kin gok, ?_⟩)))
    exact wpAny_mono (hf3 _ _ _ d1 Γ frz σ₁ s₁ cvs ok b1 rfl a1) (fun cr s₃ h3 => (h3.toPV fun r m q => q).after c1) fun _ _ x => x
  | me o m args =>
    replace h := any_inv h
    obtain ⟨t, ht, h⟩ := h
    replace h := any_inv h
    obtain ⟨a', ha', h⟩ := h
    obtain ⟨t1, t2, t3, t4⟩ := t
    obtain ⟨a1', a2', a3'⟩ := a'
    cases asCall_inv ht
    cases asAttr_inv ha'
    simp only [Bool.and_eq_true, beq_iff_eq, decide_eq_true_eq, List.isEmpty_iff] at h
    obtain ⟨⟨⟨⟨⟨⟨⟨rfl, hm⟩, rfl⟩, hl⟩, hn⟩, hc⟩, ho⟩, hx⟩ := h
    intro frz s r
    rw [arm_eval_Call, base_of hc, star_of hx, back_of]
    refine wpAny_bind ((soundE gok gbi hA ok hC hP o _ ho w).then r fun cv v σ₁ s₁ a1 b1 c1 d1 => wpAny_bind (wpAny_standAt ?_))
    refine meth_few hn hl (fun pl => s_getMe d1.1 b1 a1 ?_)
    refine Calls.callWith_builtin (plain_args _ _) (w_args (soundEs gok gbi hA ok hC hP args _ hx d1.2).ws b1 fun cvs vs σ₂ s₂ a2 b2 c2 d2 => ?_)
    exact wpAny_mono (s_me ok d2 b2 (a1.tk c2) a2) (fun cr s₃ h3 => (h3.toPV fun r m q => q).after (c1.trans c2)) fun _ _ x => x
  | imeth o n args =>
    replace h := any_inv h
    obtain ⟨t, ht, h⟩ := h
    replace h := any_inv h
    obtain ⟨a', ha', h⟩ := h
    obtain ⟨t1, t2, t3, t4⟩ := t
    obtain ⟨a1', a2', a3'⟩ := a'
    cases asCall_inv ht
    cases asAttr_inv ha'
    simp only [Bool.and_eq_true, beq_iff_eq, decide_eq_true_eq, List.isEmpty_iff] at h
    obtain ⟨⟨⟨⟨⟨⟨⟨rfl, hm⟩, rfl⟩, hl⟩, hn⟩, hc⟩, ho⟩, hx⟩ := h
    obtain ⟨f, hf1, hf2, hf3, hf4, hf5⟩ := hP.meth n (hC.meths n (List.contains_iff_mem.mp hm))
    intro frz s r
    rw [arm_eval_Call, base_of hc, star_of hx, back_of]
    refine wpAny_bind ((soundE gok gbi hA ok hC hP o _ ho w).then r fun cv v σ₁ s₁ a1 b1 c1 d1 => wpAny_bind (wpAny_standAt ?_))
    obtain ⟨⟨a, d, fs, rfl, e1, e2, e3⟩, w1⟩ := d1
    cases a1
    obtain ⟨es, k, I, hF, _⟩ := inst_at b1 e1 e2
    refine meth_few hn hl (fun pl => method_fn (b1.kin gok) I (plainGet_of hf3).1 (plainGet_of hf3).2 hf1 (beq_iff_eq.mp hf2) ?_ ?_)
    · show (lookIn _ (dictOf es k)).map _ = _
      rw [lookIn_dict, (fields_get hF).2 e3]; rfl
    refine callWith_of (P := G.K.In) (by rw [plain_args]; rfl) (keeps_K hf4) (w_args (soundEs gok gbi hA ok hC hP args _ hx w1).ws b1 fun cvs vs σ₂ s₂ a2 b2 c2 d2 => ⟨b2.kin gok, ?_⟩)
    exact wpAny_mono (hf5 _ _ _ d2 Γ frz σ₂ s₂ _ ok b2 rfl (.cons (.obj _) a2)) (fun cr s₃ h3 => (h3.toPV fun r m q => q).after (c1.trans c2)) fun _ _ x => x
  | lcall i args =>
    replace h := any_inv h
    obtain ⟨t, ht, h⟩ := h
    replace h := any_inv h
    obtain ⟨f, hf, h⟩ := h
    obtain ⟨t1, t2, t3, t4⟩ := t
    cases asCall_inv ht
    obtain ⟨p, rfl⟩ := asName_inv hf
    simp only [Bool.and_eq_true, List.isEmpty_iff] at h
    obtain ⟨⟨rfl, hi⟩, h⟩ := h
    obtain ⟨k, hk⟩ := is_of hC hi
    obtain ⟨v, hv, w⟩ := loc_inv w
    intro frz s r
    rw [eval_CallName, star_of h, back_of]
    refine wpAny_bind ((w_name (Q := fun u σ' => u = v ∧ σ' = σ) ok hk hv ⟨rfl, rfl⟩).then r fun cv v' σ₁ s₁ a1 b1 c1 ⟨e1, e2⟩ => ?_)
    subst e1 e2
    refine callWith_of (P := fun h => ∃ a fo fd, cv = .ref a ∧ h.get? a = some fo ∧ fo.data = .func fd) (by rw [plain_args]; rfl) (fun h ⟨a, fo, fd, e, g, d⟩ => e ▸ keep_raw h g d)
      (w_args (soundEs gok gbi hA ok hC hP args _ h w).ws b1 fun cvs vs σ₂ s₂ a2 b2 c2 d2 => ?_)
    obtain ⟨a, fo, fd, rfl, g1, g2, hs⟩ := hP.loc _ _ _ _ d2
    cases a1
    refine ⟨⟨a, fo, fd, rfl, ?_, g2⟩, ?_⟩
    · cases b2.hmem _ _ g1 with
      | raw g _ => exact g
    · exact wpAny_mono (hs Γ frz σ₂ s₂ cvs ok b2 rfl a2) (fun cr s₃ h3 => (h3.toPV fun r m q => q).after (c1.trans c2)) fun _ _ x => x
theorem soundEs (gok : G.ok) (gbi : G.bi) (hA : Rm A) (ok : Γ.ok) (hC : C.ok G Γ) (hP : P.run G A) (xs : List Ex) (es : List Expr) (h : chkEs C xs es = true) {Q : List V → St → Prop} {σ : St} (w : wpEs P xs Q σ) :
    Wn G A Γ es.length (spliced (es.map fun e => (false, eval e Γ.env))) Q σ := by
  cases xs with
  | nil =>
    cases chkEs_nil h
    exact wn_nil w
  | cons x xs =>
    obtain ⟨e, es, rfl, _, h1, h2⟩ := chkEs_cons h
    exact wn_cons fun frz s r => (soundE gok gbi hA ok hC hP x _ h1 w).then r fun cv v σ₁ s₁ a1 b1 c1 d1 => ⟨v, σ₁, a1, b1, c1, soundEs gok gbi hA ok hC hP xs _ h2 d1⟩
theorem soundCh (gok : G.ok) (gbi : G.bi) (hA : Rm A) (ok : Γ.ok) (hC : C.ok G Γ) (hP : P.run G A) (xs : List Ex) (es : List Expr) (ops : List CmpOp) (h : chkEs C xs es = true) {v : V} {Q : Bool → St → Prop} {σ : St} (w : wpCh P ops xs v Q σ)
    {pos : Pos} : ∀ frz s cv, Rep G Γ frz σ s → RV s.heap cv v → wpAny (model G.prog G.w) A (compareChain pos cv ops (evalEach es Γ.env)) (fun cr s' => ∃ b σ', cr = .bool b ∧ Rep G Γ frz σ' s' ∧ TK s.heap s'.heap ∧ Q b σ') NoE s := by
  cases xs with
  | nil => cases ops <;> exact False.elim w
  | cons x xs =>
    obtain ⟨e, es, rfl, _, h⟩ := chkEs_cons h
    cases ops with
    | nil => exact False.elim w
    | cons op ops =>
      intro frz s cv r hv
      cases ops with
      | nil =>
        simp only [wpCh] at w
        obtain ⟨rfl, w⟩ := w
        cases chkEs_nil h.2
        refine wpAny_bind (wpAny_holding ((soundE gok gbi hA ok hC hP x _ h.1 w).then r fun cu u σ₁ s₁ a1 b1 c1 d1 => wpAny_bind (wpAny_standAt (wpAny_operating ?_))))
        exact wpAny_mono (s_cmp hA.un d1 b1 (hv.tk c1) a1) (fun cr s₂ ⟨b, e, p, q, t⟩ => ⟨b, σ₁, e, p, c1.trans q, t⟩) fun _ _ x => x
      | cons op' ops =>
        simp only [wpCh] at w
        refine wpAny_bind (wpAny_holding ((soundE gok gbi hA ok hC hP x _ h.1 w).then r fun cu u σ₁ s₁ a1 b1 c1 d1 => wpAny_bind (wpAny_standAt ?_)))
        refine wpAny_bind (wpAny_holding (wpAny_mono (s_cmp hA.un d1 b1 (hv.tk c1) a1) (fun cr s₂ ⟨b, e, p, q, t⟩ => ?_) fun _ _ x => x))
        subst e
        refine wpAny_bind (w_release (wpAny_bind (wpAny_holding (wpAny_truthy_bool ?_))))
        cases b with
        | true => exact wpAny_mono (soundCh gok gbi hA ok hC hP xs _ _ h.2 t frz s₂ cu p (a1.tk q)) (fun cr s₃ ⟨b, σ', e, p', q', t'⟩ => ⟨b, σ', e, p', c1.trans (q.trans q'), t'⟩) fun _ _ x => x
        | false => exact wpAny_pure ⟨false, σ₁, rfl, p, c1.trans q, t⟩
theorem soundBo (gok : G.ok) (gbi : G.bi) (hA : Rm A) (ok : Γ.ok) (hC : C.ok G Γ) (hP : P.run G A) (k : Bool) (xs : List Ex) (es : List Expr) (h : chkEs C xs es = true) {Q : V → St → Prop} {σ : St} (w : wpBo P k xs Q σ)
    {pos : Pos} : W G A Γ (boolOp pos (if k then .And else .Or) (evalEach es Γ.env)) Q σ := by
  cases xs with
  | nil => exact False.elim w
  | cons x xs =>
    obtain ⟨e, es, rfl, _, h⟩ := chkEs_cons h
    intro frz s r
    cases xs with
    | nil =>
      cases chkEs_nil h.2
      simp only [wpBo] at w
      exact soundE gok gbi hA ok hC hP x _ h.1 w frz s r
    | cons x' xs =>
      simp only [wpBo] at w
      obtain ⟨e', es', rfl, _, hx⟩ := chkEs_cons h.2
      refine wpAny_bind ((soundE gok gbi hA ok hC hP x _ h.1 w).then r fun cv v σ₁ s₁ a1 b1 c1 d1 => wpAny_bind (wpAny_standAt (wpAny_bind (wpAny_holding ?_))))
      refine wpAny_mono (s_truth d1 b1 a1) (fun b s₂ ⟨p, q, t⟩ => ?_) fun _ _ x => x
      have rest : ∀ (hbk : b = k), wpAny (model G.prog G.w) A (boolOp pos (if k then .And else .Or) (evalEach (e' :: es') Γ.env)) (PV G Γ frz s Q) NoE s₂ := fun hbk => by
        replace t : if b = k then wpBo P k (x' :: xs) Q σ₁ else Q v σ₁ := t
        rw [if_pos hbk] at t
        exact wpAny_mono (soundBo gok gbi hA ok hC hP k (x' :: xs) _ h.2 t frz s₂ p) (fun cr s₃ h3 => h3.after (c1.trans q)) fun _ _ x => x
      have stop : ∀ (hbk : ¬ b = k), PV G Γ frz s Q cv s₂ := fun hbk => by
        replace t : if b = k then wpBo P k (x' :: xs) Q σ₁ else Q v σ₁ := t
        rw [if_neg hbk] at t
        exact ⟨v, σ₁, a1.tk q, p, c1.trans q, t⟩
      cases k <;> cases b
      · exact rest rfl
      · exact wpAny_pure (stop (by simp))
      · exact wpAny_pure (stop (by simp))
      · exact rest rfl
theorem soundT (gok : G.ok) (gbi : G.bi) (hA : Rm A) (ok : Γ.ok) (hC : C.ok G Γ) (hP : P.run G A) (x : Ex) (ih : ∀ (e : Expr), chkE C x e = true → ∀ (Q : V → St → Prop) (σ : St), wpE P x Q σ → W G A Γ (eval e Γ.env) Q σ)
    (e : Expr) (h : chkE C x e = true) {Q : Bool → St → Prop} {σ : St} (w : wpT P x (wpE P x) Q σ) : WB G A Γ (isTrue e Γ.env (eval e Γ.env)) Q σ := by
  cases x with
  | not a =>
    replace h := any_inv h
    obtain ⟨t, ht, h⟩ := h
    obtain ⟨p, rfl⟩ := asUn_inv ht
    rw [Bool.and_eq_true, beq_iff_eq] at h
    obtain ⟨t1, t2⟩ := t
    obtain ⟨rfl, h⟩ := h
    simp only [wpT] at w
    intro frz s r
    rw [arm_isTrue_UnaryOp]
    exact wpAny_bind ((soundT gok gbi hA ok hC hP a (fun e h _ _ w => soundE gok gbi hA ok hC hP a e h w) _ h w).then r fun b σ₁ s₁ b1 c1 d1 => wpAny_pure ⟨σ₁, b1, c1, d1⟩)
  | band es =>
    replace h := any_inv h
    obtain ⟨t, ht, h⟩ := h
    obtain ⟨p, rfl⟩ := asBool_inv ht
    rw [Bool.and_eq_true, beq_iff_eq] at h
    obtain ⟨t1, t2⟩ := t
    obtain ⟨rfl, h⟩ := h
    simp only [wpT] at w
    intro frz s r
    rw [arm_isTrue_BoolOp]
    exact soundTs gok gbi hA ok hC hP true es _ h w frz s r
  | bor es =>
    replace h := any_inv h
    obtain ⟨t, ht, h⟩ := h
    obtain ⟨p, rfl⟩ := asBool_inv ht
    rw [Bool.and_eq_true, beq_iff_eq] at h
    obtain ⟨t1, t2⟩ := t
    obtain ⟨rfl, h⟩ := h
    simp only [wpT] at w
    intro frz s r
    rw [arm_isTrue_BoolOp]
    exact soundTs gok gbi hA ok hC hP false es _ h w frz s r
  | ite c a b =>
    replace h := any_inv h
    obtain ⟨t, ht, h⟩ := h
    obtain ⟨p, rfl⟩ := asIf_inv ht
    simp only [Bool.and_eq_true] at h
    simp only [wpT] at w
    intro frz s r
    rw [arm_isTrue_IfExp]
    refine wpAny_bind ((soundT gok gbi hA ok hC hP c (fun e h _ _ w => soundE gok gbi hA ok hC hP c e h w) _ h.1.1 w).then r fun t σ₁ s₁ b1 c1 d1 => ?_)
    cases t with
    | true => exact wpAny_mono (soundT gok gbi hA ok hC hP a (fun e h _ _ w => soundE gok gbi hA ok hC hP a e h w) _ h.1.2 d1 frz s₁ b1) (fun cr s₃ h3 => h3.after c1) fun _ _ x => x
    | false => exact wpAny_mono (soundT gok gbi hA ok hC hP b (fun e h _ _ w => soundE gok gbi hA ok hC hP b e h w) _ h.2 d1 frz s₁ b1) (fun cr s₃ h3 => h3.after c1) fun _ _ x => x
  | cmp a ops es =>
    replace h := any_inv h
    obtain ⟨t, ht, h⟩ := h
    obtain ⟨p, rfl⟩ := asCmp_inv ht
    obtain ⟨t1, t2, t3⟩ := t
    simp only [Bool.and_eq_true, beq_iff_eq] at h
    obtain ⟨⟨h1, rfl⟩, h2⟩ := h
    simp only [wpT] at w
    intro frz s r
    rw [arm_isTrue_Compare, marked_of _ h2]
    refine wpAny_bind ((soundE gok gbi hA ok hC hP a _ h1 w).then r fun cv v σ₁ s₁ a1 b1 c1 d1 => ?_)
    exact wpAny_mono (soundCT gok gbi hA ok hC hP es _ _ h2 d1 frz s₁ cv b1 a1) (fun b s₃ h3 => h3.after c1) fun _ _ x => x
  | _ =>
    simp only [wpT] at w
    have hh := ih _ h _ _ w
    exact w_default hh (isTrue_plain (plainT_of h rfl))
theorem soundTs (gok : G.ok) (gbi : G.bi) (hA : Rm A) (ok : Γ.ok) (hC : C.ok G Γ) (hP : P.run G A) (k : Bool) (xs : List Ex) (es : List Expr) (h : chkEs C xs es = true) {Q : Bool → St → Prop} {σ : St} (w : wpTs P k xs Q σ) :
    WB G A Γ (allTrue (if k then .And else .Or) es Γ.env) Q σ := by
  cases xs with
  | nil =>
    cases chkEs_nil h
    simp only [wpTs] at w
    intro frz s r
    rw [arm_allTrue_nil]
    cases k <;> exact wpAny_pure ⟨σ, r, .refl _, w⟩
  | cons x xs =>
    obtain ⟨e, es, rfl, _, h⟩ := chkEs_cons h
    simp only [wpTs] at w
    intro frz s r
    rw [arm_allTrue_cons]
    refine wpAny_bind ((soundT gok gbi hA ok hC hP x (fun e h _ _ w => soundE gok gbi hA ok hC hP x e h w) _ h.1 w).then r fun b σ₁ s₁ b1 c1 d1 => ?_)
    have rest : ∀ (hbk : b = k), wpAny (model G.prog G.w) A (allTrue (if k then .And else .Or) _ Γ.env) (PB G Γ frz s Q) NoE s₁ := fun hbk => by
      rw [if_pos hbk] at d1
      exact wpAny_mono (soundTs gok gbi hA ok hC hP k xs _ h.2 d1 frz s₁ b1) (fun cr s₃ h3 => h3.after c1) fun _ _ x => x
    have stop : ∀ (hbk : ¬ b = k), PB G Γ frz s Q (!k) s₁ := fun hbk => by
      rw [if_neg hbk] at d1
      exact ⟨σ₁, b1, c1, d1⟩
    cases k <;> cases b
    · exact rest rfl
    · exact wpAny_pure (stop (by simp))
    · exact wpAny_pure (stop (by simp))
    · exact rest rfl
theorem soundCT (gok : G.ok) (gbi : G.bi) (hA : Rm A) (ok : Γ.ok) (hC : C.ok G Γ) (hP : P.run G A) (xs : List Ex) (es : List Expr) (ops : List CmpOp) (h : chkEs C xs es = true) {v : V} {Q : Bool → St → Prop} {σ : St} (w : wpCh P ops xs v Q σ)
    {pos : Pos} : ∀ frz s cv, Rep G Γ frz σ s → RV s.heap cv v → wpAny (model G.prog G.w) A (testChain pos cv ops (evalEach es Γ.env)) (PB G Γ frz s Q) NoE s := by
  cases xs with
  | nil => cases ops <;> exact False.elim w
  | cons x xs =>
    obtain ⟨e, es, rfl, _, h⟩ := chkEs_cons h
    cases ops with
    | nil => exact False.elim w
    | cons op ops =>
      intro frz s cv r hv
      cases ops with
      | nil =>
        simp only [wpCh] at w
        obtain ⟨rfl, w⟩ := w
        cases chkEs_nil h.2
        refine wpAny_bind (wpAny_holding ((soundE gok gbi hA ok hC hP x _ h.1 w).then r fun cu u σ₁ s₁ a1 b1 c1 d1 => wpAny_bind (wpAny_standAt (wpAny_bind (wpAny_operating ?_)))))
        refine wpAny_mono (s_cmp hA.un d1 b1 (hv.tk c1) a1) (fun cr s₂ ⟨b, e, p, q, t⟩ => ?_) fun _ _ x => x
        subst e
        exact wpAny_holding (wpAny_truthy_bool ⟨σ₁, p, c1.trans q, t⟩)
      | cons op' ops =>
        simp only [wpCh] at w
        refine wpAny_bind (wpAny_holding ((soundE gok gbi hA ok hC hP x _ h.1 w).then r fun cu u σ₁ s₁ a1 b1 c1 d1 => wpAny_bind (wpAny_standAt ?_)))
        refine wpAny_bind (wpAny_holding (wpAny_mono (s_cmp hA.un d1 b1 (hv.tk c1) a1) (fun cr s₂ ⟨b, e, p, q, t⟩ => ?_) fun _ _ x => x))
        subst e
        refine wpAny_bind (w_release (wpAny_bind (wpAny_holding (wpAny_truthy_bool ?_))))
        cases b with
        | true => exact wpAny_mono (soundCT gok gbi hA ok hC hP xs _ _ h.2 t frz s₂ cu p (a1.tk q)) (fun cr s₃ h3 => h3.after (c1.trans q)) fun _ _ x => x
        | false => exact wpAny_pure ⟨σ₁, p, c1.trans q, t⟩
end
end
end Mine
set_option autoImplicit false
set_option maxRecDepth 10000
set_option linter.unusedVariables false
namespace Mine
open PySem PyProof.Rows PySem.W

section
variable {G : GS} {A : Around} {Γ : FE} {frz : Frz} {σ : St} {s : Shared}

theorem set_loc {l : List (Option V)} {i j : Nat} {v u : V} (h : (l.set i (some v))[j]? = some (some u)) : (i = j ∧ u = v) ∨ (i ≠ j ∧ l[j]? = some (some u)) := by
  rw [List.getElem?_set] at h
  split at h
  · rename_i e
    split at h
    · cases h; exact .inl ⟨e, rfl⟩
    · cases h
  · rename_i e; exact .inr ⟨e, h⟩

/-- a name takes a value -/
theorem s_store {i : Nat} {x : PySem.Str} {k : VK} {v : V} {cv : Value} (ok : Γ.ok) (r : Rep G Γ frz σ s) (hx : Γ.vars[i]? = some (x, k)) (hk : ∀ c, k ≠ .ref c) (hv : RV s.heap cv v) :
    wpAny (model G.prog G.w) A (storeName Γ.env x cv) (fun _ s' => Rep G Γ frz (σ.set i v) s' ∧ TK s.heap s'.heap) NoE s := by
  cases k with
  | ref c => exact absurd rfl (hk c)
  | loc =>
    obtain ⟨m, n, f⟩ := r.hns
    refine wpAny_storeName_local (ok.loc i x hx) n (fun h' hn hs => ?_) (by rw [ok.fn]; rfl)
    have tk : TK s.heap h' := fun b o e im => by
      by_cases hb : b = Γ.env.locals
      · subst hb; exact absurd im (ns_not_imm n e)
      · exact (hs.2 b hb).trans e
    refine ⟨⟨let ⟨_, _, e⟩ := r.same; ⟨h', _, by rw [e]⟩, r.hbase, r.hkeep, fun b o e => (hs.2 b (r.frz_ne e)).trans (r.hfrz b o e), fun a o e => (r.hmem a o e).keep tk fun y ey => (hs.2 a (r.mem_ne e)).trans ey, r.hmemF, r.hab, r.hlf, r.hlm, ?_, ?_, ?_⟩, tk⟩
    · refine ⟨_, hn, fun j y u hy hu => ?_⟩
      rcases set_loc hu with ⟨rfl, rfl⟩ | ⟨hne, hu⟩
      · rw [hx] at hy
        cases hy
        exact ⟨cv, by simp, hv.tk tk⟩
      · obtain ⟨cu, e1, e2⟩ := f j y u hy hu
        refine ⟨cu, ?_, e2.tk tk⟩
        have : y ≠ x := fun q => by subst q; exact hne (ok.names _ _ _ _ _ hx hy)
        simp [this, e1]
    · intro j y c hy
      obtain ⟨p, q, o, ov, g, d, f'⟩ := r.hown j y c hy
      refine ⟨p, q, o, ov, (hs.2 c (ok.own j y c hy).2.2).trans g, d, fun u hu => ?_⟩
      rcases set_loc hu with ⟨rfl, rfl⟩ | ⟨hne, hu⟩
      · rw [hx] at hy; cases hy
      · obtain ⟨cu, e1, e2⟩ := f' u hu; exact ⟨cu, e1, e2.tk tk⟩
    · intro j y c hy
      obtain ⟨o, ov, e1, d, f'⟩ := r.href j y c hy
      refine ⟨o, ov, e1, d, fun u hu => ?_⟩
      rcases set_loc hu with ⟨rfl, rfl⟩ | ⟨hne, hu⟩
      · rw [hx] at hy; cases hy
      · obtain ⟨cu, e1, e2⟩ := f' u hu; exact ⟨cu, e1, e2.tk tk⟩
  | own c =>
    obtain ⟨p, q, o, ov, g, d, f⟩ := r.hown i x c hx
    obtain ⟨a1, a2, a3⟩ := ok.own i x c hx
    refine wpAny_storeName_cell ok.fn a1 a2 ⟨o, g, d⟩ fun h' hc hs => ?_
    obtain ⟨o', g', d'⟩ := hc
    have tk : TK s.heap h' := fun b ob e im => by
      by_cases hb : b = c
      · subst hb
        rw [g] at e; cases e
        rcases im with ⟨_, _, _, q⟩ | ⟨_, _, q, _⟩ <;> rw [d] at q <;> cases q
      · exact (hs.2 b hb).trans e
    have fne : ∀ b ob, frz b = some ob → b ≠ c := fun b ob e z => by subst z; rw [p] at e; cases e
    have mne : ∀ b ob, σ.mem b = some ob → b ≠ c := fun b ob e z => by subst z; rw [q] at e; cases e
    refine ⟨⟨let ⟨_, _, e⟩ := r.same; ⟨h', _, by rw [e]⟩, r.hbase, r.hkeep, fun b o e => (hs.2 b (fne b o e)).trans (r.hfrz b o e), fun a o e => (r.hmem a o e).keep tk fun y ey => (hs.2 a (mne a o e)).trans ey, r.hmemF, r.hab, r.hlf, r.hlm, ?_, ?_, ?_⟩, tk⟩
    · obtain ⟨m, n, f'⟩ := r.hns
      refine ⟨m, n.sameBut hs (Ne.symm a3), fun j y u hy hu => ?_⟩
      rcases set_loc hu with ⟨rfl, rfl⟩ | ⟨hne, hu⟩
      · rw [hx] at hy; cases hy
      · obtain ⟨cu, e1, e2⟩ := f' j y u hy hu; exact ⟨cu, e1, e2.tk tk⟩
    · intro j y c' hy
      obtain ⟨p', q', o₂, ov', g₂, d₂, f'⟩ := r.hown j y c' hy
      by_cases hcc : c' = c
      · subst hcc
        have hij : i = j := ok.cells _ _ _ _ _ hx hy
        subst hij
        refine ⟨p', q', o', some cv, g', d', fun u hu => ?_⟩
        rcases set_loc hu with ⟨_, rfl⟩ | ⟨hne, hu⟩
        · exact ⟨cv, rfl, hv.tk tk⟩
        · exact absurd rfl hne
      · refine ⟨p', q', o₂, ov', (hs.2 c' hcc).trans g₂, d₂, fun u hu => ?_⟩
        rcases set_loc hu with ⟨rfl, rfl⟩ | ⟨hne, hu⟩
        · rw [hx] at hy; cases hy; exact absurd rfl hcc
        · obtain ⟨cu, e1, e2⟩ := f' u hu; exact ⟨cu, e1, e2.tk tk⟩
    · intro j y c' hy
      obtain ⟨o, ov, e1, d, f'⟩ := r.href j y c' hy
      refine ⟨o, ov, e1, d, fun u hu => ?_⟩
      rcases set_loc hu with ⟨rfl, rfl⟩ | ⟨hne, hu⟩
      · rw [hx] at hy; cases hy
      · obtain ⟨cu, e1, e2⟩ := f' u hu; exact ⟨cu, e1, e2.tk tk⟩

theorem s_bind {i : Nat} {x : PySem.Str} {k : VK} {v : V} {cv : Value} (ok : Γ.ok) (r : Rep G Γ frz σ s) (hx : Γ.vars[i]? = some (x, k)) (hk : ∀ c, k ≠ .ref c) (hv : RV s.heap cv v) :
    wpAny (model G.prog G.w) A (bindName Γ.env x cv) (fun _ s' => Rep G Γ frz (σ.set i v) s' ∧ TK s.heap s'.heap) NoE s :=
  wpAny_bindName (s_store ok r hx hk hv)

theorem s_unpack {n : Nat} {cv : Value} {vs : List V} {post : List Value → Shared → Prop} (hA : Rm A) (r : Rep G Γ frz σ s) (hv : RV s.heap cv (.tup vs)) (hn : vs.length = n)
    (k : ∀ cvs s₁, RVs s₁.heap cvs vs → Rep G Γ frz σ s₁ → TK s.heap s₁.heap → post cvs s₁) : wpAny (model G.prog G.w) A (unpackItems cv n none) post NoE s := by
  cases hv with
  | @tup a arr k' _ g rs =>
  have hz := rs.length
  simp only [Array.length_toList] at hz
  have e : n = arr.size := by omega
  rw [e]
  refine unpackItems_tuple hA.hd ⟨_, g, rfl, _, rfl⟩ fun h' hk => ?_
  have kk : ∀ b o, s.heap.get? b = some o → h'.get? b = some o := fun b o e => hk b o (Nat.ne_of_lt (Heap.lt_size e)) e
  exact k _ _ (rs.tk (.of kk)) (r.grow (tk := s.toks) kk) (.of kk)

/-- names in order -/
theorem s_binds (ok : Γ.ok) : ∀ (is : List Nat) (xs : List PySem.Str) (cvs : List Value) (vs : List V) {σ : St} {s : Shared} {post : Unit → Shared → Prop}, Rep G Γ frz σ s → RVs s.heap cvs vs → is.length = xs.length → is.length = vs.length →
    (∀ p ∈ is.zip xs, ∃ k, Γ.vars[p.1]? = some (p.2, k) ∧ ∀ c, k ≠ .ref c) →
    (∀ s', Rep G Γ frz (σ.setAll is vs) s' → TK s.heap s'.heap → post () s') → wpAny (model G.prog G.w) A (assignInOrder (xs.map fun n => bindName Γ.env n) cvs) post NoE s
  | [], [], [], [], σ, s, post, r, _, _, _, _, k => wpAny_pure (k s r (.refl _))
  | i :: is, x :: xs, c :: cs, v :: vs, σ, s, post, r, hv, h1, h2, hn, k => by
    cases hv with
    | cons a b =>
    obtain ⟨kk, hx, hk⟩ := hn (i, x) (by simp)
    refine wpAny_bind (wpAny_holding (wpAny_mono (s_bind ok r hx hk a) (fun _ s₁ ⟨r₁, t₁⟩ => ?_) fun _ _ x => x))
    exact s_binds ok is xs cs vs r₁ (b.tk t₁) (by simpa using h1) (by simpa using h2) (fun p hp => hn p (by simp [hp])) fun s' r' t' => k s' r' (t₁.trans t')
  | [], [], _ :: _, [], _, _, _, _, hv, _, _, _, _ => by cases hv
  | [], _ :: _, _, _, _, _, _, _, _, h, _, _, _ => by simp at h
  | _ :: _, [], _, _, _, _, _, _, _, h, _, _, _ => by simp at h
  | [], [], _, _ :: _, _, _, _, _, _, _, h, _, _ => by simp at h
  | _ :: _, _ :: _, _, [], _, _, _, _, _, _, h, _, _ => by simp at h
  | _ :: _, _ :: _, [], _ :: _, _, _, _, _, hv, _, _, _, _ => by cases hv
end
end Mine
set_option autoImplicit false
set_option maxRecDepth 10000
set_option linter.unusedVariables false
namespace Mine
open PySem PyProof.Rows PySem.W

/-- an iterator's object and what it has left; g: what the memory must say -/
inductive IterAt (h : Heap) : Obj → (Mem → Prop) → List V → Prop
  | list {o : Obj} {l : Addr} {i : Nat} {vs : List V} : o.cls = .type "list_iterator" → o.data = .fields #[.ref l, .int i 0] → IterAt h o (fun m => m l = some (.list vs)) (vs.drop i)
  | tup {o : Obj} {t : Addr} {i : Nat} {arr : Array Value} {n : Nat} {vs : List V} : o.cls = .type "tuple_iterator" → o.data = .fields #[.ref t, .int i 0] →
      h.get? t = some { cls := .type "tuple", data := .seq arr n } → RVs h arr.toList vs → IterAt h o (fun _ => True) (vs.drop i)
  | rng {x c : Int} {n : Nat} : IterAt h { cls := .type "range_iterator", dict := none, data := .fields #[rawInt x, rawInt n, rawInt c], slots := #[] } (fun _ => True) (rngFrom x c n)
  | str {o : Obj} {x : Tx} {t : Tok} {i : Nat} : o.cls = .type (strIterType (mkS x)) → o.data = .fields #[.str (mkS x) t, .int i 0] → IterAt h o (fun _ => True) ((x.drop i).map fun c => V.str [c])

theorem IterAt.tk {h h' : Heap} (k : TK h h') {o : Obj} {g : Mem → Prop} {vs : List V} (i : IterAt h o g vs) : IterAt h' o g vs := by
  cases i with
  | list a b => exact .list a b
  | tup a b c d => exact .tup a b (k _ _ c (.inl ⟨rfl, _, _, rfl⟩)) (d.tk k)
  | rng => exact .rng
  | str a b => exact .str a b
theorem IterAt.notImm {h : Heap} {o : Obj} {g : Mem → Prop} {vs : List V} (i : IterAt h o g vs) : ¬ Imm o := by
  cases i with
  | list a b => simp [Imm, a]
  | tup a b c d => simp [Imm, a]
  | rng => simp [Imm]
  | str a b =>
    have : strIterType (mkS ‹Tx›) ≠ "tuple" ∧ strIterType (mkS ‹Tx›) ≠ "range" := by unfold strIterType; split <;> decide
    rintro (⟨q, _⟩ | ⟨q, _⟩) <;> rw [a] at q <;> injection q with q
    · exact this.1 q
    · exact this.2 q

section
variable {G : GS} {A : Around} {Γ : FE} {frz : Frz} {σ : St} {s : Shared}

/-- what the next step of an iterator gives -/
noncomputable def NextPost (G : GS) (Γ : FE) (frz : Frz) (σ : St) (s : Shared) (it : Addr) (g : Mem → Prop) : List V → Option Value → Shared → Prop
  | [], none, s' => Rep G Γ frz σ s' ∧ TK s.heap s'.heap
  | v :: r, some cv, s' => RV s'.heap cv v ∧ Rep G Γ frz σ s' ∧ TK s.heap s'.heap ∧ ∃ o, s'.heap.get? it = some o ∧ IterAt s'.heap o g r
  | _, _, _ => False

theorem at_self {a : Addr} {P : Obj → Prop} {h : Heap} (x : ∃ o, h.get? a = some o ∧ P o) : ∃ o, h.get? a = some o ∧ P o := x

theorem iter_next (hA : Rm A) (r : Rep G Γ frz σ s) {it : Addr} {o : Obj} {g : Mem → Prop} {vs : List V} (d : Aside G Γ frz σ it) (ho : s.heap.get? it = some o) (i : IterAt s.heap o g vs) (hg : g σ.mem) :
    wpAny (model G.prog G.w) A (pyNext (.ref it)) (NextPost G Γ frz σ s it g vs) NoE s := by
  have ni := i.notImm
  cases i with
  | @list _ l i vs a b =>
    have hit : s.heap.IsListIter it l i := ⟨o, ho, a, b⟩
    cases r.hmem l _ hg with
    | @list arr n _ e rv =>
    have hl : s.heap.IsList l arr := ⟨_, e, rfl, n, rfl⟩
    have hz := rv.length
    simp only [Array.length_toList] at hz
    by_cases hi : i < vs.length
    · have hd : vs.drop i = vs[i] :: vs.drop (i + 1) := List.drop_eq_getElem_cons hi
      obtain ⟨cv, e1, e2⟩ := rv.get (i := i) (x := vs[i]) (by simp [hi])
      refine wpAny_pyNext_list_item hit hl (x := cv) (by simpa using e1) fun h' hit' hs => ?_
      obtain ⟨r', t⟩ := r.aside d ho ni (h' := h') (tk := s.toks) fun b o hb e => (hs.2 b hb).trans e
      rw [hd]
      obtain ⟨o', ho', ha', hb'⟩ := hit'
      exact ⟨e2.tk t, r', t, o', ho', .list ha' hb'⟩
    · have hd : vs.drop i = [] := List.drop_of_length_le (by omega)
      refine wpAny_pyNext_list_end hA.hd hit hl (by simp; omega) fun h' hs => ?_
      obtain ⟨r', t⟩ := r.aside d ho ni (h' := h') (tk := s.toks) hs
      rw [hd]; exact ⟨r', t⟩
  | @tup _ l i arr n vs a b e rv =>
    have hit : IsTupIter s.heap it l i := ⟨o, ho, a, b⟩
    have hl : IsTup s.heap l arr := ⟨_, e, rfl, n, rfl⟩
    have hz := rv.length
    simp only [Array.length_toList] at hz
    by_cases hi : i < vs.length
    · have hd : vs.drop i = vs[i] :: vs.drop (i + 1) := List.drop_eq_getElem_cons hi
      obtain ⟨cv, e1, e2⟩ := rv.get (i := i) (x := vs[i]) (by simp [hi])
      refine next_tuple_item hit hl (x := cv) (by simpa using e1) fun h' hit' hs => ?_
      obtain ⟨r', t⟩ := r.aside d ho ni (h' := h') (tk := s.toks) fun b o hb e => (hs.2 b hb).trans e
      rw [hd]
      obtain ⟨o', ho', ha', hb'⟩ := hit'
      exact ⟨e2.tk t, r', t, o', ho', .tup ha' hb' (t _ _ e (.inl ⟨rfl, _, _, rfl⟩)) (rv.tk t)⟩
    · have hd : vs.drop i = [] := List.drop_of_length_le (by omega)
      refine next_tuple_end hA.hd hit hl (by simp; omega) fun h' hs => ?_
      obtain ⟨r', t⟩ := r.aside d ho ni (h' := h') (tk := s.toks) hs
      rw [hd]; exact ⟨r', t⟩
  | @rng x c n =>
    cases n with
    | zero =>
      refine wpAny_pyNext_range_end hA.hd ho (by simp) fun h' hs => ?_
      obtain ⟨r', t⟩ := r.aside d ho ni (h' := h') (tk := s.toks) hs
      exact ⟨r', t⟩
    | succ n =>
      refine wpAny_pyNext_range_item ho (by omega) fun h' hit' hs => ?_
      obtain ⟨r', t⟩ := r.aside d ho ni (h' := h') (tk := s.toks + 1) fun b o hb e => (hs.2 b hb).trans e
      refine ⟨.int _ _, r', t, _, hit', ?_⟩
      rw [show (((n + 1 : Nat) : Int) - 1) = (n : Int) by omega]
      exact .rng
  | @str _ x t i a b =>
    have hx : ∀ j : Nat, (mkS x).cps[j]? = (x[j]?).map Char.toNat := fun j => by simp
    by_cases hi : i < x.length
    · have hd : x.drop i = x[i] :: x.drop (i + 1) := List.drop_eq_getElem_cons hi
      have hc : (mkS x).cps[i]? = some (x[i]).toNat := by rw [hx]; simp [hi]
      rw [hd, List.map_cons]
      have fin : ∀ h', (∃ o, h'.get? it = some o ∧ o.cls = .type (strIterType (mkS x)) ∧ o.data = .fields #[.str (mkS x) t, .int ((i + 1 : Nat) : Int) 0]) → Heap.SameBut it s.heap h' →
          NextPost G Γ frz σ s it (fun _ => True) (V.str [x[i]] :: (x.drop (i + 1)).map fun c => V.str [c]) (some (.str ⟨#[(x[i]).toNat]⟩ s.toks)) { s with heap := h', toks := s.toks + 1 } := fun h' hit' hs => by
        obtain ⟨r', t'⟩ := r.aside d ho ni (h' := h') (tk := s.toks + 1) fun b o hb e => (hs.2 b hb).trans e
        obtain ⟨o', ho', ha', hb'⟩ := hit'
        exact ⟨.str [x[i]] _, r', t', o', ho', .str ha' hb'⟩
      cases hasc : (mkS x).cps.all (· < 128) with
      | true =>
        have st : strIterType (mkS x) = "str_ascii_iterator" := by unfold strIterType; rw [hasc]; rfl
        rw [st] at a fin
        exact wpAny_pyNext_ascii_item ⟨o, ho, a, b⟩ hc fun h' hit' hs => fin h' hit' hs
      | false =>
        have st : strIterType (mkS x) = "str_iterator" := by unfold strIterType; rw [hasc]; rfl
        rw [st] at a fin
        exact wpAny_pyNext_wide_item ⟨o, ho, a, b⟩ hc fun h' hit' hs => fin h' hit' hs
    · have hd : x.drop i = [] := List.drop_of_length_le (by omega)
      have hc : (mkS x).cps[i]? = none := by rw [hx]; simp; omega
      rw [hd, List.map_nil]
      have fin : ∀ h', Heap.ExtBut it s.heap h' → NextPost G Γ frz σ s it (fun _ => True) [] none { s with heap := h' } := fun h' hs => by
        obtain ⟨r', t'⟩ := r.aside d ho ni (h' := h') (tk := s.toks) hs
        exact ⟨r', t'⟩
      cases hasc : (mkS x).cps.all (· < 128) with
      | true =>
        have st : strIterType (mkS x) = "str_ascii_iterator" := by unfold strIterType; rw [hasc]; rfl
        rw [st] at a
        exact wpAny_pyNext_ascii_end hA.hd ⟨o, ho, a, b⟩ hc fin
      | false =>
        have st : strIterType (mkS x) = "str_iterator" := by unfold strIterType; rw [hasc]; rfl
        rw [st] at a
        exact wpAny_pyNext_wide_end hA.hd ⟨o, ho, a, b⟩ hc fin

noncomputable def MakePost (G : GS) (Γ : FE) (frz : Frz) (σ : St) (s : Shared) (g : Mem → Prop) (vs : List V) : Value → Shared → Prop :=
  fun cv s' => ∃ it o, cv = .ref it ∧ Rep G Γ frz σ s' ∧ TK s.heap s'.heap ∧ Aside G Γ frz σ it ∧ s'.heap.get? it = some o ∧ IterAt s'.heap o g vs

theorem make_push (r : Rep G Γ frz σ s) {o : Obj} {g : Mem → Prop} {vs : List V} (fr : o.isFreed = false) (i : IterAt s.heap o g vs) : MakePost G Γ frz σ s g vs (.ref s.heap.objs.size) { s with heap := s.heap.push o } := by
  have k : ∀ b ob, s.heap.get? b = some ob → (s.heap.push o).get? b = some ob := fun b ob e => Heap.get?_push_of_some _ e
  exact ⟨_, o, rfl, r.grow (tk := s.toks) k, .of k, r.asideNew (Nat.le_refl _), Heap.get?_push_size _ fr, i.tk (.of k)⟩

theorem rng_size_pos (a b : Int) {c : Int} (h0 : 0 < c) : 0 ≤ Builtin.Range.rangeSize a b c := by
  unfold Builtin.Range.rangeSize
  rw [if_pos h0]
  split
  · have := Int.ediv_nonneg (a := b - a - 1) (b := c) (by omega) (by omega)
    omega
  · omega
theorem rng_small {a b c : Int} (ha : tiny a) (hb : tiny b) (hc : tiny c) (h0 : 0 < c) : Builtin.Range.small a b c = true := by
  have h1 := rng_size_pos a b h0
  have h2 : Builtin.Range.rangeSize a b c ≤ 2000000000 := by
    unfold Builtin.Range.rangeSize
    rw [if_pos h0]
    unfold tiny at *
    split
    · have : (b - a - 1) / c ≤ b - a - 1 := by
        have := Int.ediv_le_self (a := b - a - 1) c (by omega)
        omega
      omega
    · omega
  unfold tiny at *
  unfold Builtin.Range.small Builtin.Range.rangeFitsLong
  simp only [Bool.and_eq_true, Bool.or_eq_true, decide_eq_true_eq, beq_iff_eq]
  refine ⟨⟨⟨⟨⟨?_, ?_⟩, ⟨?_, ?_⟩⟩, ⟨?_, ?_⟩⟩, ⟨?_, ?_⟩⟩, .inr ?_⟩ <;> first | omega | skip
  rw [if_pos h0]
  simp only [Bool.and_eq_true, decide_eq_true_eq]
  omega

theorem iter_make (r : Rep G Γ frz σ s) {cv : Value} {v : V} (hv : RV s.heap cv v) {K : List V → (Mem → Prop) → Prop} (w : wpItems σ.mem v K) :
    ∃ vs g, K vs g ∧ wpAny (model G.prog G.w) A (pyIter cv) (MakePost G Γ frz σ s g vs) NoE s := by
  cases hv with
  | none => exact w.elim
  | bool => exact w.elim
  | int => exact w.elim
  | flt => exact w.elim
  | str x t => exact ⟨_, _, w.2, wpAny_pyIter_strU (make_push r rfl (.str (i := 0) rfl rfl))⟩
  | tup e rv => exact ⟨_, _, w.2, iter_tuple ⟨_, e, rfl, _, rfl⟩ (make_push r rfl (.tup (i := 0) rfl rfl e rv))⟩
  | @rng l a b c t u v e =>
    obtain ⟨h1, h2, h3, h4, w⟩ := w
    refine ⟨_, _, w, wpAny_pyIter_range e (rng_small h1 h2 h3 h4) ?_⟩
    have hn : (Builtin.Range.rangeSize a b c) = ((Builtin.Range.rangeSize a b c).toNat : Int) := (Int.toNat_of_nonneg (rng_size_pos a b h4)).symm
    rw [hn]
    exact make_push r rfl .rng
  | obj a =>
    obtain ⟨vs, hm, _, w⟩ := w
    cases r.hmem a _ hm with
    | @list arr n _ e rv => exact ⟨_, _, w, wpAny_pyIter_list ⟨_, e, rfl, n, rfl⟩ (make_push r rfl (.list (i := 0) rfl rfl))⟩

/-- no owned tuple among the iterators here -/
theorem letGo_none {E : Value → Shared → Prop} {target : Expr} {it : Addr} {cv : Value} {o : Obj} {g : Mem → Prop} {vs : List V} {post : Unit → Shared → Prop} (ho : s.heap.get? it = some o) (i : IterAt s.heap o g vs) (q : post () s) :
    wpAny (model G.prog G.w) A (letOwnedTupleGo target (.ref it) cv) post E s := by
  have hh : ∃ n fs, o.cls = .type n ∧ o.data = .fields fs ∧ (["enumerate", "zip", "dict_itemiterator", "dict_reverseitemiterator", "odict_iterator", "itertools.zip_longest", "itertools.pairwise"].contains n) = false := by
    cases i with
    | list a b => exact ⟨_, _, a, b, by decide⟩
    | tup a b _ _ => exact ⟨_, _, a, b, by decide⟩
    | rng => exact ⟨_, _, rfl, rfl, by decide⟩
    | str a b => refine ⟨_, _, a, b, ?_⟩; unfold strIterType; split <;> decide
  obtain ⟨n, fs, hc, hd, hn⟩ := hh
  have main : wpAny (model G.prog G.w) A (do
    let (.ref r, .ref a) := (Value.ref it, cv) | return
    let o ← load r
    match o.cls, o.data with
    | .type n, .fields vs =>
      if ["enumerate", "zip", "dict_itemiterator", "dict_reverseitemiterator", "odict_iterator", "itertools.zip_longest", "itertools.pairwise"].contains n && vs[0]? == some (rawInt a) then
        rule "for.unpacks-the-owned-tuple"
        updateField r 0 .none
    | _, _ => pure ()) post E s := by
    cases cv with
    | ref b =>
      refine wpAny_bind (wpAny_load ho ?_)
      rw [hc, hd]
      dsimp only
      rw [hn, Bool.false_and, if_neg (by decide)]
      exact wpAny_pure q
    | _ => exact wpAny_pure q
  cases target <;> first | exact main | exact wpAny_pure q
end
end Mine
set_option autoImplicit false
set_option maxRecDepth 10000
set_option linter.unusedVariables false
namespace Mine
open PySem PyProof.Rows PySem.W

noncomputable def notComp : Expr → Bool
  | .ListComp .. | .SetComp .. | .DictComp .. => false
  | _ => true
theorem swaps_none {value : Expr} (h : notComp value = true) (t : Option Expr) (l : Nat) (env : Env) : swapsWith value t l env = pure false := by
  cases value <;> first | (cases h; done) | rfl
theorem swaps_sole {targets : List Expr} {value : Expr} (h : notComp value = true) (l : Nat) (env : Env) : swapsWithSole targets value l env = pure false := by
  unfold swapsWithSole
  split
  · exact swaps_none h _ _ _
  · rfl

noncomputable def chkIs (C : SC) : List Nat → List Expr → Bool
  | [], xs => xs.isEmpty
  | i :: is, xs => xs.head?.any fun e => (asName e).any fun x => C.isW i x && chkIs C is xs.tail
theorem chkIs_nil {C : SC} {xs : List Expr} (h : chkIs C [] xs = true) : xs = [] := by
  cases xs with
  | nil => rfl
  | cons => cases h
theorem chkIs_cons {C : SC} {i : Nat} {is : List Nat} {xs : List Expr} (h : chkIs C (i :: is) xs = true) : ∃ n p es, xs = .Name n p :: es ∧ C.isW i n = true ∧ chkIs C is es = true := by
  cases xs with
  | nil => cases h
  | cons e es =>
    replace h : ((asName e).any fun x => C.isW i x && chkIs C is es) = true := h
    replace h := any_inv h
    obtain ⟨n, hn, h⟩ := h
    obtain ⟨p, rfl⟩ := asName_inv hn
    rw [Bool.and_eq_true] at h
    exact ⟨n, p, es, rfl, h⟩
noncomputable def nodupN : List Nat → Bool
  | [] => true
  | i :: is => !is.contains i && nodupN is
noncomputable def chkTg (C : SC) (t : Tg) (x : Expr) : Bool := match t with
  | .var i => (asName x).any fun n => C.isW i n
  | .tup is => (asTup x).any fun xs => nodupN is && chkIs C is xs
  | .idx o i => (asSub x).any fun t => chkE C o t.1 && chkE C i t.2
  | .slc .. => false
  | .attr o n => (asAttr x).any fun t => PySem.Str.ofString n == t.2.1 && chkE C o t.1
noncomputable def chkTgs (C : SC) : List Tg → List Expr → Bool
  | [], xs => xs.isEmpty
  | t :: ts, xs => xs.head?.any fun e => plainE e && chkTg C t e && chkTgs C ts xs.tail
theorem chkTgs_nil {C : SC} {xs : List Expr} (h : chkTgs C [] xs = true) : xs = [] := by
  cases xs with
  | nil => rfl
  | cons => cases h
theorem chkTgs_cons {C : SC} {t : Tg} {ts : List Tg} {xs : List Expr} (h : chkTgs C (t :: ts) xs = true) : ∃ e es, xs = e :: es ∧ plainE e = true ∧ chkTg C t e = true ∧ chkTgs C ts es = true := by
  cases xs with
  | nil => cases h
  | cons e es =>
    have h : (plainE e && chkTg C t e && chkTgs C ts es) = true := h
    rw [Bool.and_eq_true, Bool.and_eq_true] at h
    exact ⟨e, es, rfl, h.1.1, h.1.2, h.2⟩

/-- no display of constants alone, no list as a target -/
noncomputable def swapOk (targets : List Expr) (value : Expr) : Bool :=
  (targets.head?.any fun t => (asList t).isNone && (asTup t).elim true fun _ => (asTup value).elim true fun vs => !vs.all (constantsAlone 8) || vs.all (foldedForSure 8))

-- views of a given statement
noncomputable def asExprS : Stmt → Option Expr
  | .Expr y _ => some y
  | _ => none
noncomputable def asAssign : Stmt → Option (List Expr × Expr)
  | .Assign xs y _ => some (xs, y)
  | _ => none
noncomputable def asAug : Stmt → Option (Expr × Operator × Expr)
  | .AugAssign t o y _ => some (t, o, y)
  | _ => none
noncomputable def asIfS : Stmt → Option (Expr × List Stmt × List Stmt)
  | .If t y z _ => some (t, y, z)
  | _ => none
noncomputable def asWhile : Stmt → Option (Expr × List Stmt × List Stmt)
  | .While t y z _ => some (t, y, z)
  | _ => none
noncomputable def asFor : Stmt → Option (Expr × Expr × List Stmt × List Stmt)
  | .For tg e y z _ => some (tg, e, y, z)
  | _ => none
noncomputable def asRet : Stmt → Option (Option Expr)
  | .Return y _ => some y
  | _ => none
noncomputable def asBrk : Stmt → Option Unit
  | .Break _ => some ()
  | _ => none
theorem asExprS_inv {e : Stmt} {t : Expr} (h : asExprS e = some t) : ∃ p, e = .Expr t p := by cases e <;> first | exact no_some h | (cases h; exact ⟨_, rfl⟩)
theorem asAssign_inv {e : Stmt} {t : List Expr × Expr} (h : asAssign e = some t) : ∃ p, e = .Assign t.1 t.2 p := by cases e <;> first | exact no_some h | (cases h; exact ⟨_, rfl⟩)
theorem asAug_inv {e : Stmt} {t : Expr × Operator × Expr} (h : asAug e = some t) : ∃ p, e = .AugAssign t.1 t.2.1 t.2.2 p := by cases e <;> first | exact no_some h | (cases h; exact ⟨_, rfl⟩)
theorem asIfS_inv {e : Stmt} {t : Expr × List Stmt × List Stmt} (h : asIfS e = some t) : ∃ p, e = .If t.1 t.2.1 t.2.2 p := by cases e <;> first | exact no_some h | (cases h; exact ⟨_, rfl⟩)
theorem asWhile_inv {e : Stmt} {t : Expr × List Stmt × List Stmt} (h : asWhile e = some t) : ∃ p, e = .While t.1 t.2.1 t.2.2 p := by cases e <;> first | exact no_some h | (cases h; exact ⟨_, rfl⟩)
theorem asFor_inv {e : Stmt} {t : Expr × Expr × List Stmt × List Stmt} (h : asFor e = some t) : ∃ p, e = .For t.1 t.2.1 t.2.2.1 t.2.2.2 p := by cases e <;> first | exact no_some h | (cases h; exact ⟨_, rfl⟩)
theorem asRet_inv {e : Stmt} {t : Option Expr} (h : asRet e = some t) : ∃ p, e = .Return t p := by cases e <;> first | exact no_some h | (cases h; exact ⟨_, rfl⟩)
theorem asBrk_inv {e : Stmt} {t : Unit} (h : asBrk e = some t) : ∃ p, e = .Break p := by cases e <;> first | exact no_some h | (cases h; exact ⟨_, rfl⟩)

mutual
noncomputable def chkS (C : SC) : Sm → Stmt → Bool
  | .expr e, x => (asExprS x).any fun y => notComp y && chkE C e y
  | .assign ts e, x => (asAssign x).any fun t => notComp t.2 && swapOk t.1 t.2 && chkTgs C ts t.1 && chkE C e t.2
  | .aug i op e, x => (asAug x).any fun t => (asName t.1).any fun n => C.isW i n && op == t.2.1 && chkE C e t.2.2
  | .del .., _ => false
  | .ife c a b, x => (asIfS x).any fun t => chkE C c t.1 && chkSs C a t.2.1 && chkSs C b t.2.2
  | .whl c b, x => (asWhile x).any fun t => t.2.2.isEmpty && chkE C c t.1 && chkSs C b t.2.1
  | .fr t it b, x => (asFor x).any fun u => u.2.2.2.isEmpty && plainE u.2.1 && chkTg C t u.1 && chkE C it u.2.1 && chkSs C b u.2.2.1
  | .ret e, x => (asRet x).any fun y => chkO C e y
  | .brk, x => (asBrk x).isSome
  | .raise, _ => false
noncomputable def chkSs (C : SC) : List Sm → List Stmt → Bool
  | [], xs => xs.isEmpty
  | a :: as, xs => xs.head?.any fun e => chkS C a e && chkSs C as xs.tail
end
theorem chkSs_nil {C : SC} {xs : List Stmt} (h : chkSs C [] xs = true) : xs = [] := by
  cases xs with
  | nil => rfl
  | cons => cases h
theorem chkSs_cons {C : SC} {t : Sm} {ts : List Sm} {xs : List Stmt} (h : chkSs C (t :: ts) xs = true) : ∃ e es, xs = e :: es ∧ chkS C t e = true ∧ chkSs C ts es = true := by
  cases xs with
  | nil => cases h
  | cons e es =>
    have h : (chkS C t e && chkSs C ts es) = true := h
    rw [Bool.and_eq_true] at h
    exact ⟨e, es, rfl, h⟩

section
variable {G : GS} {A : Around} {Γ : FE} {frz : Frz} {σ : St} {s : Shared}

theorem setItem_list_any {l : Addr} {arr : Array Value} {n : Nat} {k : Int} {t : Tok} {j : Nat} {v : Value} {E : Value → Shared → Prop} {Q : Unit → Shared → Prop} (hl : s.heap.get? l = some { cls := .type "list", data := .seq arr n })
    (hk : tiny k) (hj : seqIndex? k arr.size = some j) (h : Q () { s with heap := s.heap.update l (Obj.mapSeq (·.setIfInBounds j v)) }) : wpAny (model G.prog G.w) A (setItem (.ref l) (.int k t) v) Q E s := by
  have hL : s.heap.IsList l arr := ⟨_, hl, rfl, n, rfl⟩
  obtain ⟨j0, hx⟩ : j < arr.size ∧ (0 ≤ k → j = k.toNat) := ⟨(seqIndex_lt hj).1, (seqIndex_lt hj).2⟩
  have hx' : arr[j]? = some arr[j] := Array.getElem?_eq_getElem j0
  unfold setItem
  try with_reducible refine wpAny_holding ?_
  first | refine wpAny_bind (wpAny_pure ?_) | skip
  refine wpAny_bind (wpAny_sequenceKey hL.typeIs (by decide) ?_)
  refine wpAny_bind (wpAny_callSpecial?_slot (name := Str.ofString "__setitem__") hL.typeIs slot_list_setitem
    (wpAny_call_entry slot_list_setitem hL.typeIs entry_list_setitem ?_ (args_list_setitem _ _ _)))
  show wpAny _ _ (Builtin.List.listSubscript? (.int k t) >>= _) _ _ s
  refine wpAny_bind (wpAny_listSubscript_int (tiny_fit hk) ?_)
  by_cases h0 : 0 ≤ k
  · have := hx h0
    subst this
    obtain ⟨j, rfl⟩ := Int.eq_ofNat_of_zero_le h0
    show wpAny _ _ ((seqItemAt l j >>= fun r => pure (r.map (j, ·))) >>= _) _ _ s
    refine wpAny_bind (wpAny_bind (wpAny_seqItemAt hl rfl (wpAny_pure ?_)))
    rw [show arr[j]? = some arr[j] from hx']
    show wpAny _ _ (setSeqItemAt l j v >>= _) _ _ s
    refine wpAny_bind (wpAny_setSeqItemAt hl rfl ?_)
    first
      | exact wpAny_bind (wpAny_pure (wpAny_pure ⟨.none, rfl, wpAny_pure h⟩))
      | exact wpAny_pure ⟨.none, rfl, wpAny_pure h⟩
  · obtain ⟨m, rfl⟩ : ∃ m : Nat, k = Int.negSucc m := ⟨(-k - 1).toNat, by omega⟩
    show wpAny _ _ ((Builtin.List.listItems (.ref l) >>= fun xs => pure ((seqIndex? (Int.negSucc m) xs.size).bind fun j => xs[j]?.map (j, ·))) >>= _) _ _ s
    refine wpAny_bind (wpAny_bind (wpAny_listItems hl rfl (wpAny_pure ?_)))
    rw [hj]
    simp only [Option.bind_some, hx', Option.map_some]
    show wpAny _ _ (setSeqItemAt l j v >>= _) _ _ s
    refine wpAny_bind (wpAny_setSeqItemAt hl rfl ?_)
    first
      | exact wpAny_bind (wpAny_pure (wpAny_pure ⟨.none, rfl, wpAny_pure h⟩))
      | exact wpAny_pure ⟨.none, rfl, wpAny_pure h⟩

theorem s_setItem {l : Addr} {vs : List V} {k : Int} {j : Nat} {v : V} {cv ck : Value} (ok : Γ.ok) (r : Rep G Γ frz σ s) (e : σ.mem l = some (.list vs)) (hk : tiny k) (hj : pyIx vs.length k = some j) (hc : RV s.heap ck (.int k)) (hv : RV s.heap cv v) :
    wpAny (model G.prog G.w) A (setItem (.ref l) ck cv) (fun _ s' => Rep G Γ frz { σ with mem := upd σ.mem l (.list (vs.set j v)) } s' ∧ TK s.heap s'.heap) NoE s := by
  cases hc
  cases r.hmem _ _ e with
  | @list arr n _ g rs =>
  have hz := rs.length
  simp only [Array.length_toList] at hz
  refine setItem_list_any g hk (by rw [hz]; exact hj) ?_
  exact r.change ok (tk := s.toks) (o := .list (vs.set j v)) e (h' := s.heap.update l (Obj.mapSeq (·.setIfInBounds j cv))) (fun b o hb e => (Heap.get?_update_other _ _ (Ne.symm hb)).trans e)
    (fun k => .list (Heap.get?_update_self _ g rfl) (by simpa [Obj.mapSeq] using (rs.tk k).set j (hv.tk k)))

theorem isW_of {C : SC} {i : Nat} {x : PySem.Str} (hC : C.ok G Γ) (h : C.isW i x = true) : ∃ k, Γ.vars[i]? = some (x, k) ∧ ∀ c, k ≠ .ref c := by
  unfold SC.isW at h
  split at h
  · rename_i y r e
    simp only [Bool.and_eq_true, beq_iff_eq, Bool.not_eq_true'] at h
    obtain ⟨rfl, rfl⟩ := h
    obtain ⟨k, a, b⟩ := hC.vars _ _ _ e
    exact ⟨k, a, b rfl⟩
  · cases h

/-- a writer of one name -/
noncomputable def BindsAt (G : GS) (A : Around) (Γ : FE) (f : Value → Sem Unit) (i : Nat) : Prop :=
  ∀ frz σ s v cv, Rep G Γ frz σ s → RV s.heap cv v → wpAny (model G.prog G.w) A (f cv) (fun _ s' => Rep G Γ frz (σ.set i v) s' ∧ TK s.heap s'.heap) NoE s
inductive Bs (G : GS) (A : Around) (Γ : FE) : List (Value → Sem Unit) → List Nat → Prop
  | nil : Bs G A Γ [] []
  | cons {f i fs is} : BindsAt G A Γ f i → Bs G A Γ fs is → Bs G A Γ (f :: fs) (i :: is)
theorem Bs.length {fs : List (Value → Sem Unit)} {is : List Nat} (b : Bs G A Γ fs is) : fs.length = is.length := by
  induction b with
  | nil => rfl
  | cons _ _ ih => simp [ih]
theorem Bs.append {fs fs' : List (Value → Sem Unit)} {is is' : List Nat} (b : Bs G A Γ fs is) (c : Bs G A Γ fs' is') : Bs G A Γ (fs ++ fs') (is ++ is') := by
  induction b with
  | nil => exact c
  | cons h _ ih => exact .cons h ih
theorem Bs.reverse {fs : List (Value → Sem Unit)} {is : List Nat} (b : Bs G A Γ fs is) : Bs G A Γ fs.reverse is.reverse := by
  induction b with
  | nil => exact .nil
  | cons h _ ih => rw [List.reverse_cons, List.reverse_cons]; exact ih.append (.cons h .nil)
theorem RVs.reverse {h : Heap} : ∀ {cvs : List Value} {vs : List V}, RVs h cvs vs → RVs h cvs.reverse vs.reverse
  | _, _, .nil => .nil
  | _, _, .cons a r => by rw [List.reverse_cons, List.reverse_cons]; exact r.reverse.append (.one a)

theorem s_bindsF {fs : List (Value → Sem Unit)} {is : List Nat} (b : Bs G A Γ fs is) : ∀ {cvs : List Value} {vs : List V} {σ : St} {s : Shared} {post : Unit → Shared → Prop}, Rep G Γ frz σ s → RVs s.heap cvs vs → is.length = vs.length →
    (∀ s', Rep G Γ frz (σ.setAll is vs) s' → TK s.heap s'.heap → post () s') → wpAny (model G.prog G.w) A (assignInOrder fs cvs) post NoE s := by
  induction b with
  | nil =>
    intro cvs vs σ s post r hv hl k
    cases vs with
    | nil => cases hv; exact wpAny_pure (k s r (.refl _))
    | cons => simp at hl
  | cons h _ ih =>
    intro cvs vs σ s post r hv hl k
    cases hv with
    | nil => simp at hl
    | cons a rs =>
      refine wpAny_bind (wpAny_holding (wpAny_mono (h _ _ _ _ _ r a) (fun _ s₁ ⟨r₁, t₁⟩ => ?_) fun _ _ x => x))
      exact ih r₁ (rs.tk t₁) (by simpa using hl) fun s' r' t' => k s' r' (t₁.trans t')

theorem assign_binds {C : SC} {i : Nat} {x : PySem.Str} {pos : Pos} (ok : Γ.ok) (hC : C.ok G Γ) (h : C.isW i x = true) : BindsAt G A Γ (assign (.Name x pos) Γ.env) i := fun frz σ s v cv r hv => by
  obtain ⟨k, hx, hk⟩ := isW_of hC h
  rw [arm_assign_Name]
  exact wpAny_bind (wpAny_standAt (s_bind ok r hx hk hv))
theorem bind_binds {C : SC} {i : Nat} {x : PySem.Str} (ok : Γ.ok) (hC : C.ok G Γ) (h : C.isW i x = true) : BindsAt G A Γ (bindName Γ.env x) i := fun frz σ s v cv r hv => by
  obtain ⟨k, hx, hk⟩ := isW_of hC h
  exact s_bind ok r hx hk hv

/-- names as targets -/
theorem is_names {C : SC} (ok : Γ.ok) (hC : C.ok G Γ) : ∀ {is : List Nat} {xs : List Expr}, chkIs C is xs = true → Bs G A Γ ((assignEach xs Γ.env).map (·.2)) is ∧ (assignEach xs Γ.env).findIdx? (·.1) = none
  | [], xs, h => by rw [chkIs_nil h]; exact ⟨.nil, rfl⟩
  | i :: is, xs, h => by
    obtain ⟨n, pos, es, rfl, h1, h2⟩ := chkIs_cons h
    obtain ⟨a, b⟩ := is_names ok hC h2
    have e : assignEach (.Name n pos :: es) Γ.env = (false, assign (.Name n pos) Γ.env) :: assignEach es Γ.env := rfl
    refine ⟨?_, ?_⟩
    · rw [e]; exact .cons (assign_binds ok hC h1) a
    · rw [e, List.findIdx?_cons, b]; rfl
noncomputable def nameIf (f : PySem.Str → Pos → Bool) : Expr → Option PySem.Str
  | .Name id pos => if f id pos then some id else none
  | _ => none
theorem names_bs {C : SC} (ok : Γ.ok) (hC : C.ok G Γ) (f : PySem.Str → Pos → Bool) : ∀ {is : List Nat} {xs : List Expr}, chkIs C is xs = true → (xs.filterMap (nameIf f)).length = xs.length → Bs G A Γ ((xs.filterMap (nameIf f)).map (bindName Γ.env)) is
  | [], xs, h, _ => by rw [chkIs_nil h]; exact .nil
  | i :: is, xs, h, hf => by
    obtain ⟨n, pos, es, rfl, h1, h2⟩ := chkIs_cons h
    have := List.length_filterMap_le (nameIf f) es
    rw [List.filterMap_cons] at hf ⊢
    unfold nameIf at hf ⊢
    dsimp only at hf ⊢
    by_cases c : f n pos = true
    · rw [if_pos c] at hf ⊢
      have hh : (es.filterMap (nameIf f)).length + 1 = es.length + 1 := hf
      exact .cons (bind_binds ok hC h1) (names_bs ok hC f h2 (by omega))
    · rw [if_neg c] at hf ⊢
      have hh : (es.filterMap (nameIf f)).length = es.length + 1 := hf
      omega

theorem swapped_of {ts vs : List Expr} {k k' : Nat} {p p' : Pos} {env : Env} (h : (!vs.all (constantsAlone 8) || vs.all (foldedForSure 8)) = true) :
    swappedStores [.Tuple ts k p] (.Tuple vs k' p') env = pure none ∨ ∃ f, swappedStores [.Tuple ts k p] (.Tuple vs k' p') env = pure (some (ts.filterMap (nameIf f))) ∧ (ts.filterMap (nameIf f)).length = ts.length ∧ (ts.length = 2 ∨ ts.length = 3) := by
  unfold swappedStores
  dsimp only
  split
  · exact .inl rfl
  · rename_i c1
    split
    · exact .inl rfl
    · split
      · exact .inl rfl
      · rename_i c3
        split
        · exact .inl rfl
        · rename_i c4
          split
          · rename_i c5
            rw [c5] at h
            simp at h
            exact absurd (by simpa using h) c4
          · refine .inr ⟨fun id pos => env.kindOf id == some .local && pos.line == (ts.head?.map (·.pos.line)).getD 0, rfl, ?_, ?_⟩
            · have := c3
              simp only [Bool.or_eq_true, not_or, bne_iff_ne, ne_eq, Decidable.not_not] at this
              exact this.1
            · simp only [Bool.or_eq_true, not_or, bne_iff_ne, ne_eq, Decidable.not_not, Bool.not_eq_true', Bool.or_eq_false_iff, not_and, beq_eq_false_iff_ne] at c1
              by_cases q : ts.length = 2
              · exact .inl q
              · exact .inr (c1.1.1 q)

theorem set_swap (σ : St) {i j : Nat} (a b : V) (h : i ≠ j) : (σ.set i a).set j b = (σ.set j b).set i a := by
  unfold St.set
  simp only [St.mk.injEq, and_true]
  exact List.set_comm _ _ h
theorem setAll_rev {σ : St} {is : List Nat} {vs : List V} (h : nodupN is = true) (hl : is.length = vs.length) (hn : is.length = 2 ∨ is.length = 3) : σ.setAll is.reverse vs.reverse = σ.setAll is vs := by
  match is, vs, hl with
  | [i, j], [a, b], _ =>
    simp [nodupN] at h
    show (σ.set j b).set i a = (σ.set i a).set j b
    rw [set_swap]; omega
  | [i, j, k], [a, b, c], _ =>
    simp [nodupN] at h
    show ((σ.set k c).set j b).set i a = ((σ.set i a).set j b).set k c
    rw [set_swap σ c b (by omega), set_swap _ c a (by omega), set_swap σ b a (by omega)]
  | [], _, _ => simp at hn
  | [_], _, _ => simp at hn
  | _ :: _ :: _ :: _ :: _, _, _ => simp at hn

end
end Mine
set_option autoImplicit false
set_option maxRecDepth 10000
set_option linter.unusedVariables false
namespace Mine
open PySem PyProof.Rows PySem.W

section
variable {G : GS} {A : Around} {Γ : FE} {frz : Frz} {σ : St} {s : Shared}

theorem s_target {C : SC} {P : PC} (gok : G.ok) (gbi : G.bi) (hA : Rm A) (ok : Γ.ok) (hC : C.ok G Γ) (hP : P.run G A) (t : Tg) (e : Expr) (h : chkTg C t e = true) {v : V} {cv : Value} {Q : St → Prop} (w : wpTg P t v Q σ)
    (r : Rep G Γ frz σ s) (hv : RV s.heap cv v) : wpAny (model G.prog G.w) A (assign e Γ.env cv) (PU G Γ frz s Q) NoE s := by
  cases t with
  | var i =>
    replace h := any_inv h
    obtain ⟨n, hn, h⟩ := h
    obtain ⟨p, rfl⟩ := asName_inv hn
    exact wpAny_mono (assign_binds ok hC h _ _ _ _ _ r hv) (fun _ s₁ ⟨a, b⟩ => ⟨_, a, b, w⟩) fun _ _ x => x
  | tup is =>
    replace h := any_inv h
    obtain ⟨xs, hx, h⟩ := h
    obtain ⟨k, p, rfl⟩ := asTup_inv hx
    rw [Bool.and_eq_true] at h
    obtain ⟨b1, b2⟩ := is_names (A := A) ok hC h.2
    obtain ⟨vs, rfl, hl, w⟩ := tup_inv w
    rw [arm_assign_Tuple]
    refine wpAny_bind (wpAny_standAt ?_)
    unfold unpack
    rw [b2]
    have hn := b1.length
    rw [List.length_map] at hn
    exact wpAny_bind (wpAny_holding (s_unpack hA r hv (hl.trans hn.symm) fun cvs s₁ rs r₁ t₁ => s_bindsF b1 r₁ rs hl.symm fun s' r' t' => ⟨_, r', t₁.trans t', w⟩))
  | idx o i =>
    replace h := any_inv h
    obtain ⟨u, hu, h⟩ := h
    obtain ⟨p, rfl⟩ := asSub_inv hu
    rw [Bool.and_eq_true] at h
    rw [arm_assign_Subscript]
    refine wpAny_bind (wpAny_holding ((soundE gok gbi hA ok hC hP o _ h.1 w).then r fun co ov σ₁ s₁ a1 r1 t1 w1 => ?_))
    refine wpAny_bind (wpAny_holding ((soundE gok gbi hA ok hC hP i _ h.2 w1).then r1 fun ci iv σ₂ s₂ a2 r2 t2 w2 => ?_))
    obtain ⟨a, k, vs, j, rfl, rfl, hk, hm, hj, w⟩ := w2
    cases a1
    exact wpAny_bind (wpAny_standAt (wpAny_bind (wpAny_holding (wpAny_mono (s_setItem ok r2 hm hk hj a2 (hv.tk (t1.trans t2))) (fun _ s₃ ⟨r3, t3⟩ => w_release ⟨_, r3, (t1.trans t2).trans t3, w⟩) fun _ _ x => x))))
  | slc => exact absurd h Bool.false_ne_true
  | attr o n =>
    replace h := any_inv h
    obtain ⟨⟨u1, u2, u3⟩, hu, h⟩ := h
    cases asAttr_inv hu
    rw [Bool.and_eq_true, beq_iff_eq] at h
    obtain ⟨rfl, h⟩ := h
    rw [arm_assign_Attribute]
    refine wpAny_bind (wpAny_holding ((soundE gok gbi hA ok hC hP o _ h w).then r fun co ov σ₁ s₁ a1 r1 t1 w1 => ?_))
    obtain ⟨a, d, fs, rfl, e1, e2, e3, e4, w⟩ := w1
    cases a1
    exact wpAny_bind (wpAny_standAt (wpAny_bind (wpAny_holding (wpAny_mono (s_setattr gok hP.ok ok r1 e1 e2 e4 e3 (hv.tk t1)) (fun _ s₃ ⟨r3, t3⟩ => w_release ⟨_, r3, t1.trans t3, w⟩) fun _ _ x => x))))

theorem each_plain {e : Expr} {es : List Expr} {env : Env} (h : plainE e = true) : assignEach (e :: es) env = (false, assign e env) :: assignEach es env := by
  cases e <;> first | rfl | exact absurd h Bool.false_ne_true
theorem s_targets {C : SC} {P : PC} (gok : G.ok) (gbi : G.bi) (hA : Rm A) (ok : Γ.ok) (hC : C.ok G Γ) (hP : P.run G A) : ∀ (ts : List Tg) (es : List Expr), chkTgs C ts es = true → ∀ {v : V} {cv : Value} {Q : St → Prop} {σ : St} {s : Shared}, wpTgs P ts v Q σ →
    Rep G Γ frz σ s → RV s.heap cv v → wpAny (model G.prog G.w) A (assignAll cv ((assignEach es Γ.env).map (·.2))) (PU G Γ frz s Q) NoE s
  | [], es, h, v, cv, Q, σ, s, w, r, hv => by rw [chkTgs_nil h]; exact wpAny_pure ⟨σ, r, .refl _, w⟩
  | t :: ts, es, h, v, cv, Q, σ, s, w, r, hv => by
    obtain ⟨e, es, rfl, hp, h1, h2⟩ := chkTgs_cons h
    rw [each_plain hp, List.map_cons]
    have hd := s_target (A := A) gok gbi hA ok hC hP t e h1 w r hv
    cases es with
    | nil =>
      refine wpAny_mono hd (fun _ s₁ p => ?_) fun _ _ x => x
      obtain ⟨σ₁, r1, t1, w1⟩ := p
      cases ts with
      | nil => exact ⟨σ₁, r1, t1, w1⟩
      | cons t' ts => obtain ⟨_, _, e, _⟩ := chkTgs_cons h2; cases e
    | cons e' es =>
      have ih : ∀ {s₁ : Shared} {σ₁ : St}, wpTgs P ts v Q σ₁ → Rep G Γ frz σ₁ s₁ → RV s₁.heap cv v → wpAny (model G.prog G.w) A (assignAll cv ((assignEach (e' :: es) Γ.env).map (·.2))) (PU G Γ frz s₁ Q) NoE s₁ := fun w1 r1 hv1 => s_targets gok gbi hA ok hC hP ts (e' :: es) h2 w1 r1 hv1
      cases ts with
      | nil => cases chkTgs_nil h2
      | cons t' ts =>
        obtain ⟨_, _, e, hp', _, _⟩ := chkTgs_cons h2
        cases e
        rw [each_plain hp', List.map_cons] at ih ⊢
        exact wpAny_bind (wpAny_holding (wpAny_mono hd (fun _ s₁ ⟨σ₁, r1, t1, w1⟩ => wpAny_mono (ih w1 r1 (hv.tk t1)) (fun _ s₂ p => p.after t1) fun _ _ x => x) fun _ _ x => x))

theorem s_assign {C : SC} {P : PC} (gok : G.ok) (gbi : G.bi) (hA : Rm A) (ok : Γ.ok) (hC : C.ok G Γ) (hP : P.run G A) {ts : List Tg} {e : Ex} {xs : List Expr} {y : Expr} {pos : Pos} (h1 : notComp y = true) (h2 : swapOk xs y = true) (h3 : chkTgs C ts xs = true) (h4 : chkE C e y = true)
    {Q : Fl → St → Prop} (w : wpS P (.assign ts e) Q σ) : WF G A Γ (exec (.Assign xs y pos) Γ.env) Q σ := fun frz s r => by
  simp only [wpS] at w
  rw [PyProof.Rows.exec_Assign]
  refine wpAny_bind (wpAny_standAt ?_)
  rw [swaps_sole h1]
  refine wpAny_bind (wpAny_pure ?_)
  rw [if_neg (by decide)]
  refine wpAny_bind ((soundE gok gbi hA ok hC hP e _ h4 w).then r fun cv v σ₁ s₁ a1 r1 t1 w1 => ?_)
  have plain : wpAny (model G.prog G.w) A (assignStores Γ.env cv none ((assignEach xs Γ.env).map (·.2))) (PF G Γ frz s Q) NoE s₁ := by
    show wpAny _ _ (do assignAll cv _; pure Flow.next) _ _ s₁
    exact wpAny_bind (wpAny_mono (s_targets gok gbi hA ok hC hP ts xs h3 w1 r1 a1) (fun _ s₂ ⟨σ₂, r2, t2, w2⟩ => wpAny_pure ⟨.next, σ₂, .next, r2, t1.trans t2, w2⟩) fun _ _ x => x)
  have go : ∀ {z : Sem (Option (List PySem.Str))} , z = pure none → wpAny (model G.prog G.w) A (do assignStores Γ.env cv (← z) ((assignEach xs Γ.env).map (·.2))) (PF G Γ frz s Q) NoE s₁ := fun e => by
    subst e; exact wpAny_bind (wpAny_pure plain)
  by_cases hT : ∃ es k p vs k' p', xs = [.Tuple es k p] ∧ y = .Tuple vs k' p'
  · obtain ⟨es, k, p, vs, k', p', rfl, rfl⟩ := hT
    rcases swapped_of (ts := es) (vs := vs) (k := k) (k' := k') (p := p) (p' := p') (env := Γ.env) h2 with q | ⟨f, q, hlen, h23⟩
    · exact go q
    · rw [q]
      refine wpAny_bind (wpAny_pure ?_)
      show wpAny _ _ (do rule "assign.swapped-stores"; let items ← unpackItems cv (es.filterMap (nameIf f)).length none; assignInOrder ((es.filterMap (nameIf f)).reverse.map fun n => bindName Γ.env n) items.reverse; pure Flow.next) _ _ s₁
      cases ts with
      | nil => cases chkTgs_nil h3
      | cons t ts =>
      obtain ⟨_, _, eq, _, ht, hts⟩ := chkTgs_cons h3
      cases eq
      cases ts with
      | cons t' ts => obtain ⟨_, _, eq, _⟩ := chkTgs_cons hts; cases eq
      | nil =>
      cases t with
      | tup is =>
        replace ht : (nodupN is && chkIs C is es) = true := ht
        rw [Bool.and_eq_true] at ht
        obtain ⟨vals, rfl, hl, w2⟩ := tup_inv w1
        have bs := names_bs (A := A) ok hC f ht.2 hlen
        have hbl := bs.length
        rw [List.length_map] at hbl
        refine wpAny_bind (wpAny_rule (wpAny_bind (s_unpack hA r1 a1 (hl.trans hbl.symm) fun cvs s₂ rs r2 t2 => wpAny_bind ?_)))
        have bs' := bs.reverse
        rw [← List.map_reverse] at bs'
        refine s_bindsF bs' r2 rs.reverse (by rw [List.length_reverse, List.length_reverse]; exact hl.symm) fun s' r' t' => wpAny_pure ⟨.next, _, .next, r', (t1.trans t2).trans t', ?_⟩
        rw [setAll_rev ht.1 hl.symm (by omega)]
        exact w2
      | var => exact absurd ht Bool.false_ne_true
      | idx => exact absurd ht Bool.false_ne_true
      | attr => exact absurd ht Bool.false_ne_true
      | slc => exact absurd ht Bool.false_ne_true
  · refine go ?_
    cases xs with
    | nil => rfl
    | cons x xs =>
    cases xs with
    | cons x' xs => cases x <;> rfl
    | nil =>
      cases x <;> first | rfl | exact absurd h2 Bool.false_ne_true | skip
      cases y <;> first | rfl | exact absurd ⟨_, _, _, _, _, _, rfl, rfl⟩ hT
end
end Mine
set_option autoImplicit false
set_option maxRecDepth 10000
set_option linter.unusedVariables false
namespace Mine
open PySem PyProof.Rows PySem.W

section
variable {G : GS} {A : Around} {Γ : FE} {frz : Frz} {σ : St} {s : Shared}

theorem WF.then {t : Sem Flow} {Q : Fl → St → Prop} {post : Flow → Shared → Prop} {E : Value → Shared → Prop} (h : WF G A Γ t Q σ) (r : Rep G Γ frz σ s)
    (k : ∀ cv v σ₁ s₁, RF s₁.heap cv v → Rep G Γ frz σ₁ s₁ → TK s.heap s₁.heap → Q v σ₁ → post cv s₁) : wpAny (model G.prog G.w) A t post E s :=
  wpAny_mono (h frz s r) (fun cv s₁ ⟨v, σ₁, a, b, c, d⟩ => k cv v σ₁ s₁ a b c d) fun _ _ x => x.elim

theorem s_aug {op : Operator} {v u : V} {cv cu : Value} {Q : V → Prop} (h : wpAug σ.mem op v u Q) (r : Rep G Γ frz σ s) (hv : RV s.heap cv v) (hu : RV s.heap cu u) {post : Value → Shared → Prop}
    (k : ∀ cr r s', RV s'.heap cr r → Rep G Γ frz σ s' → TK s.heap s'.heap → Q r → post cr s') : wpAny (model G.prog G.w) A (inplaceOp op cv cu) post NoE s := by
  cases op <;> first | exact False.elim h | skip
  · cases v <;> first | exact False.elim h | skip
    · obtain ⟨b, rfl, h⟩ := asI_inv h
      cases hv; cases hu
      exact PyProof.Rows.iadd_int (k _ _ _ (.int _ _) (r.toks _) (.refl _) h)
    · obtain ⟨b, rfl, h1, h2, h3⟩ := asS_inv h
      cases hv; cases hu
      rename_i a t u
      refine PyProof.Rows.iadd_str (fun t' tk => ?_) (by rw [mkS_length, mkS_length, sizeLine_eq]; unfold small at h1 h2; omega)
      rw [mkS_append]
      exact k _ _ _ (.str _ _) (r.toks _) (.refl _) h3
  · obtain ⟨x, y, _, _, rfl, rfl, h⟩ := s_ord h hv hu
    exact PyProof.Rows.isub_int (k _ _ _ (.int _ _) (r.toks _) (.refl _) h)

theorem s_load {i : Nat} {x : PySem.Str} {k : VK} {v : V} {post : Value → Shared → Prop} (ok : Γ.ok) (r : Rep G Γ frz σ s) (hx : Γ.vars[i]? = some (x, k)) (hv : σ.loc[i]? = some (some v)) (q : ∀ cv, RV s.heap cv v → post cv s) :
    wpAny (model G.prog G.w) A (loadName Γ.env x) post NoE s := by
  cases k with
  | loc =>
    obtain ⟨m, n, f⟩ := r.hns
    obtain ⟨cv, e, rv⟩ := f i x v hx hv
    exact wpAny_loadName_local ok.fn (ok.loc i x hx) n e (q _ rv)
  | own c =>
    obtain ⟨_, _, o, ov, g, d, f⟩ := r.hown i x c hx
    obtain ⟨cv, e, rv⟩ := f v hv
    subst e
    obtain ⟨a1, a2, _⟩ := ok.own i x c hx
    exact wpAny_loadName_cell ok.fn a1 a2 ⟨_, g, d⟩ (q _ rv)
  | ref c =>
    obtain ⟨o, ov, g, d, f⟩ := r.href i x c hx
    obtain ⟨cv, e, rv⟩ := f v hv
    subst e
    have g' := r.hfrz _ _ g
    obtain ⟨a1, a2⟩ := ok.ref i x c hx
    rcases a1 with a1 | a1
    · exact wpAny_loadName_cell ok.fn a1 a2 ⟨_, g', d⟩ (q _ rv)
    · exact wpAny_loadName_free ok.fn a1 a2 ⟨_, g', d⟩ (q _ rv) (ok.dbg i x _ hx).2

theorem folded_plain {e : Expr} {env : Env} (h : plainE e = true) (x : Value) : foldedSetIterable e env x = pure x := by
  cases e <;> first | rfl | exact absurd h Bool.false_ne_true

mutual
theorem soundS {C : SC} {P : PC} (gok : G.ok) (gbi : G.bi) (hA : Rm A) (ok : Γ.ok) (hC : C.ok G Γ) (hP : P.run G A) (x : Sm) (e : Stmt) (h : chkS C x e = true) {Q : Fl → St → Prop} {σ : St} (w : wpS P x Q σ) : WF G A Γ (exec e Γ.env) Q σ := by
  cases x with
  | expr y =>
    replace h := any_inv h
    obtain ⟨t, ht, h⟩ := h
    obtain ⟨p, rfl⟩ := asExprS_inv ht
    simp only [Bool.and_eq_true] at h
    intro frz s r
    refine wpAny_Expr_any ((soundE gok gbi hA ok hC hP y _ h.2 w).then r fun cv v σ₁ s₁ a1 r1 t1 w1 => ⟨.next, σ₁, .next, r1, t1, w1⟩) ?_ (swaps_none h.1 _ _ _)
    unfold interactive; rw [ok.fn]; rfl
  | assign ts y =>
    replace h := any_inv h
    obtain ⟨t, ht, h⟩ := h
    obtain ⟨p, rfl⟩ := asAssign_inv ht
    simp only [Bool.and_eq_true] at h
    exact s_assign gok gbi hA ok hC hP h.1.1.1 h.1.1.2 h.1.2 h.2 w
  | aug i op y =>
    replace h := any_inv h
    obtain ⟨⟨t1, t2, t3⟩, ht, h⟩ := h
    obtain ⟨p, rfl⟩ := asAug_inv ht
    replace h := any_inv h
    obtain ⟨n, hn, h⟩ := h
    obtain ⟨npos, rfl⟩ := asName_inv hn
    simp only [Bool.and_eq_true, beq_iff_eq] at h
    obtain ⟨⟨h1, rfl⟩, h2⟩ := h
    intro frz s r
    obtain ⟨v, hv, w⟩ := loc_inv w
    obtain ⟨k, hx, hk⟩ := isW_of hC h1
    refine wpAny_AugAssign_Name (s_load ok r hx hv fun cv rv => ?_)
    refine (soundE gok gbi hA ok hC hP y _ h2 w).then r fun cu u σ₁ s₁ a1 r1 t1 w1 => ?_
    refine s_aug w1 r1 (rv.tk t1) a1 fun cr q s' rq r2 t2 w2 => ?_
    exact wpAny_mono (s_store ok r2 hx hk rq) (fun _ s₃ ⟨r3, t3⟩ => ⟨.next, _, .next, r3, (t1.trans t2).trans t3, w2⟩) fun _ _ x => x
  | del o i => exact absurd h Bool.false_ne_true
  | ife c a b =>
    replace h := any_inv h
    obtain ⟨t, ht, h⟩ := h
    obtain ⟨p, rfl⟩ := asIfS_inv ht
    simp only [Bool.and_eq_true] at h
    intro frz s r
    rw [arm_exec_If]
    refine wpAny_bind (wpAny_standAt (wpAny_bind ((soundT gok gbi hA ok hC hP c (fun e h _ _ w => soundE gok gbi hA ok hC hP c e h w) _ h.1.1 w).then r fun t σ₁ s₁ r1 t1 w1 => ?_)))
    cases t with
    | true => exact wpAny_mono (soundSs gok gbi hA ok hC hP a _ h.1.2 w1 frz s₁ r1) (fun f s₂ p => p.after t1) fun _ _ x => x
    | false => exact wpAny_mono (soundSs gok gbi hA ok hC hP b _ h.2 w1 frz s₁ r1) (fun f s₂ p => p.after t1) fun _ _ x => x
  | whl c b =>
    replace h := any_inv h
    obtain ⟨⟨t1, t2, t3⟩, ht, h⟩ := h
    obtain ⟨p, rfl⟩ := asWhile_inv ht
    simp only [Bool.and_eq_true, List.isEmpty_iff] at h
    obtain ⟨⟨rfl, hc⟩, hb⟩ := h
    intro frz s r
    obtain ⟨I, ⟨n, hI⟩, turn⟩ := w
    refine wpAny_While (codeAny_whileLoop (fun n s' => ∃ σ', Rep G Γ frz σ' s' ∧ TK s.heap s'.heap ∧ I n σ') ?_ n ⟨σ, r, .refl _, hI⟩)
    intro n s₁ ⟨σ₁, r1, t1, i1⟩
    refine wpAny_mono (soundT gok gbi hA ok hC hP c (fun e h _ _ w => soundE gok gbi hA ok hC hP c e h w) _ hc (turn n σ₁ i1) frz s₁ r1) (fun t s₂ p => ?_) fun _ _ x => x.elim
    obtain ⟨σ₂, r2, t2, w2⟩ := p
    cases t with
    | true =>
      rw [if_pos rfl] at w2 ⊢
      refine (soundSs gok gbi hA ok hC hP b _ hb w2).then r2 fun cf f σ₃ s₃ a3 r3 t3 w3 => ?_
      cases a3 with
      | next => obtain ⟨m, hm, hi⟩ := w3; exact ⟨m, hm, σ₃, r3, (t1.trans t2).trans t3, hi⟩
      | cont => obtain ⟨m, hm, hi⟩ := w3; exact ⟨m, hm, σ₃, r3, (t1.trans t2).trans t3, hi⟩
      | brk => exact ⟨.next, σ₃, .next, r3, (t1.trans t2).trans t3, w3⟩
      | ret q => exact ⟨.ret _, σ₃, .ret q, r3, (t1.trans t2).trans t3, w3⟩
    | false =>
      rw [if_neg (by decide)] at w2 ⊢
      rw [arm_execs_nil]
      exact wpAny_pure ⟨.next, σ₂, .next, r2, t1.trans t2, w2⟩
  | fr t it b =>
    replace h := any_inv h
    obtain ⟨⟨tg, e', y, els⟩, ht, h⟩ := h
    obtain ⟨p, rfl⟩ := asFor_inv ht
    simp only [Bool.and_eq_true, List.isEmpty_iff] at h
    obtain ⟨⟨⟨⟨rfl, hpl⟩, htg⟩, hit⟩, hb⟩ := h
    intro frz s r
    refine wpAny_For ((soundE gok gbi hA ok hC hP it _ hit w).then r fun cv v σ₁ s₁ a1 r1 t1 w1 => ?_) ?_
    · obtain ⟨vs, g, w1, mk⟩ := iter_make (A := A) r1 a1 w1
      refine wpAny_mono mk (fun itv s₂ p => ?_) fun _ _ x => x
      obtain ⟨ia, o, rfl, r2, t2, d2, ho2, i2⟩ := p
      refine codeAny_forLoop_any (fun n s' => ∃ σ' vs' o, vs'.length = n ∧ Rep G Γ frz σ' s' ∧ TK s.heap s'.heap ∧ Aside G Γ frz σ' ia ∧ s'.heap.get? ia = some o ∧ IterAt s'.heap o g vs' ∧ wpLoop (wpTg P t) (wpSs P b) g Q vs' σ') ?_ _
        ⟨σ₁, vs, o, rfl, r2, t1.trans t2, d2, ho2, i2, w1⟩
      intro n s₃ ⟨σ₃, vs', o', hl, r3, t3, d3, ho3, i3, w3⟩
      cases vs' with
      | nil =>
        refine wpAny_mono (iter_next hA r3 d3 ho3 i3 w3.1) (fun x s₄ p => ?_) fun _ _ x => x.elim
        cases x with
        | some _ => exact False.elim p
        | none =>
          obtain ⟨r4, t4⟩ := p
          show wpAny _ _ (execs [] Γ.env) _ _ s₄
          rw [arm_execs_nil]
          exact wpAny_pure ⟨.next, σ₃, .next, r4, t3.trans t4, w3.2⟩
      | cons v' vs' =>
        refine wpAny_mono (iter_next hA r3 d3 ho3 i3 w3.1) (fun x s₄ p => ?_) fun _ _ x => x.elim
        cases x with
        | none => exact False.elim p
        | some cv' =>
          obtain ⟨a4, r4, t4, o4, ho4, i4⟩ := p
          show wpAny _ _ (letOwnedTupleGo tg (Value.ref ia) cv') _ _ s₄
          refine letGo_none ho4 i4 ?_
          refine wpAny_mono (s_target gok gbi hA ok hC hP t tg htg w3.2 (r4.asideIn d3 ho4) a4) (fun _ s₅ p => ?_) fun _ _ x => x.elim
          obtain ⟨σ₅, r5, t5, w5⟩ := p
          refine (soundSs gok gbi hA ok hC hP b _ hb w5).then r5 fun cf f σ₆ s₆ a6 r6 t6 w6 => ?_
          obtain ⟨r6', d6, ho6⟩ := Rep.asideOut r4 d3 r6
          have tt := ((t3.trans t4).trans t5).trans t6
          cases a6 with
          | next => exact ⟨vs'.length, by simp at hl; omega, σ₆, vs', o4, rfl, r6', tt, d6, ho6, i4.tk (t5.trans t6), w6⟩
          | cont => exact ⟨vs'.length, by simp at hl; omega, σ₆, vs', o4, rfl, r6', tt, d6, ho6, i4.tk (t5.trans t6), w6⟩
          | brk => exact ⟨.next, σ₆, .next, r6', tt, w6⟩
          | ret q => exact ⟨.ret _, σ₆, .ret q, r6', tt, w6⟩
    · exact fun x => folded_plain hpl x
  | ret y =>
    replace h := any_inv h
    obtain ⟨y', ht, h⟩ := h
    obtain ⟨p, rfl⟩ := asRet_inv ht
    intro frz s r
    cases y' with
    | none =>
      have hy : y = .lit .none := by
        cases y with
        | lit v => cases v <;> first | rfl | exact absurd h Bool.false_ne_true
        | _ => exact absurd h Bool.false_ne_true
      subst hy
      exact wpAny_Return_none ⟨.ret .none, σ, .ret .none, r, .refl _, w⟩
    | some y' => exact wpAny_Return_some ((soundE gok gbi hA ok hC hP y _ h w).then r fun cv v σ₁ s₁ a1 r1 t1 w1 => ⟨.ret v, σ₁, .ret a1, r1, t1, w1⟩)
  | brk =>
    cases hb : asBrk e with
    | none =>
      replace h : (asBrk e).isSome = true := h
      rw [hb] at h; cases h
    | some u =>
      obtain ⟨p, rfl⟩ := asBrk_inv hb
      intro frz s r
      rw [arm_exec_Break]
      exact wpAny_bind (wpAny_standAt (wpAny_pure ⟨.brk, σ, .brk, r, .refl _, w⟩))
  | raise => exact absurd h Bool.false_ne_true
theorem soundSs {C : SC} {P : PC} (gok : G.ok) (gbi : G.bi) (hA : Rm A) (ok : Γ.ok) (hC : C.ok G Γ) (hP : P.run G A) (xs : List Sm) (es : List Stmt) (h : chkSs C xs es = true) {Q : Fl → St → Prop} {σ : St} (w : wpSs P xs Q σ) : WF G A Γ (execs es Γ.env) Q σ := by
  cases xs with
  | nil =>
    cases chkSs_nil h
    intro frz s r
    rw [arm_execs_nil]
    exact wpAny_pure ⟨.next, σ, .next, r, .refl _, w⟩
  | cons x xs =>
    obtain ⟨e, es, rfl, h1, h2⟩ := chkSs_cons h
    intro frz s r
    rw [arm_execs_cons]
    refine wpAny_bind ((soundS gok gbi hA ok hC hP x _ h1 w).then r fun cf f σ₁ s₁ a1 r1 t1 w1 => ?_)
    cases a1 with
    | next => exact wpAny_mono (soundSs gok gbi hA ok hC hP xs _ h2 w1 frz s₁ r1) (fun f s₂ p => p.after t1) fun _ _ x => x
    | brk => exact wpAny_pure ⟨_, σ₁, .brk, r1, t1, w1⟩
    | cont => exact wpAny_pure ⟨_, σ₁, .cont, r1, t1, w1⟩
    | ret q => exact wpAny_pure ⟨_, σ₁, .ret q, r1, t1, w1⟩
end
end
end Mine
set_option autoImplicit false
set_option maxRecDepth 10000
set_option linter.unusedVariables false
namespace Mine
open PySem PyProof.Rows PySem.W

/-- at a call all but the told objects stands still -/
noncomputable def frzIn (σ : St) (s : Shared) : Frz := fun b => match σ.mem b with
  | some _ => none
  | none => s.heap.get? b
theorem frzIn_some {σ : St} {s : Shared} {b : Addr} {o : Obj} : frzIn σ s b = some o ↔ σ.mem b = none ∧ s.heap.get? b = some o := by
  unfold frzIn
  cases σ.mem b <;> simp

section
variable {G : GS} {A : Around} {Γ Γ' : FE} {frz : Frz} {σ σ' : St} {s s' : Shared}

theorem Rep.tkIn (r : Rep G Γ frz σ s) (k : ∀ b o, frzIn σ s b = some o → s'.heap.get? b = some o) : TK s.heap s'.heap := fun b o e i => by
  cases q : σ.mem b with
  | none => exact k b o (frzIn_some.mpr ⟨q, e⟩)
  | some x =>
    obtain ⟨y, ey, ny⟩ := (r.hmem b x q).obj
    rw [e] at ey; cases ey; exact absurd i ny

theorem Rep.leave (r : Rep G Γ frz σ s) (r' : Rep G Γ' (frzIn σ s) σ' s') : Rep G Γ frz { σ with mem := σ'.mem } s' ∧ TK s.heap s'.heap := by
  have tk := r.tkIn r'.hfrz
  have none_of : ∀ b o, frz b = some o → σ.mem b = none := fun b o e => by
    cases q : σ.mem b with
    | none => rfl
    | some x => rw [r.hmemF b x q] at e; cases e
  have stay : ∀ b o, σ.mem b = none → s.heap.get? b = some o → s'.heap.get? b = some o := fun b o e g => r'.hfrz _ _ (frzIn_some.mpr ⟨e, g⟩)
  have out : ∀ b o, σ.mem b = none → s.heap.get? b = some o → σ'.mem b = none := fun b o e g => by
    cases q : σ'.mem b with
    | none => rfl
    | some x => have := r'.hmemF b x q; rw [frzIn_some.mpr ⟨e, g⟩] at this; cases this
  refine ⟨⟨r'.same, r.hbase, r.hkeep, fun b o e => stay b o (none_of b o e) (r.hfrz b o e), r'.hmem, fun a o e => ?_, r.hab, r.hlf, ?_, ?_, ?_, ?_⟩, tk⟩
  · cases q : frz a with
    | none => rfl
    | some x => have := out a x (none_of a x q) (r.hfrz a x q); rw [show σ'.mem a = some o from e] at this; cases this
  · obtain ⟨m, ⟨o, es, ep, e, rest⟩, f⟩ := r.hns
    exact out _ _ r.hlm e
  · obtain ⟨m, ⟨o, es, ep, e, rest⟩, f⟩ := r.hns
    exact ⟨m, ⟨o, es, ep, stay _ _ r.hlm e, rest⟩, fun i x v p q => let ⟨cv, e1, e2⟩ := f i x v p q; ⟨cv, e1, e2.tk tk⟩⟩
  · intro i x c e
    obtain ⟨p, q, o, ov, g, d, f⟩ := r.hown i x c e
    exact ⟨p, out _ _ q g, o, ov, stay _ _ q g, d, fun v z => let ⟨cv, e1, e2⟩ := f v z; ⟨cv, e1, e2.tk tk⟩⟩
  · intro i x c e
    obtain ⟨o, ov, g, d, f⟩ := r.href i x c e
    exact ⟨o, ov, g, d, fun v z => let ⟨cv, e1, e2⟩ := f v z; ⟨cv, e1, e2.tk tk⟩⟩

noncomputable def retV : Fl → V
  | .ret v => v
  | _ => .none

theorem lookup_mem {x : PySem.Str} {c : Value} : ∀ {l : List (PySem.Str × Value)}, (l.map (·.1)).Nodup → (x, c) ∈ l → l.lookup x = some c
  | [], _, h => by cases h
  | (y, d) :: l, hn, h => by
    rw [List.map_cons, List.nodup_cons] at hn
    rcases List.mem_cons.mp h with e | h
    · cases e; simp [List.lookup]
    · have : x ≠ y := fun q => hn.1 (List.mem_map.mpr ⟨(x, c), h, q⟩)
      rw [List.lookup_cons, beq_eq_false_iff_ne.mpr this]
      exact lookup_mem hn.2 h
theorem fst_zip_sub : ∀ (ps : List PySem.Str) (cs : List Value), ((ps.zip cs).map (·.1)).Sublist ps
  | [], _ => by simp
  | _ :: _, [] => by simp
  | p :: ps, c :: cs => by simpa using fst_zip_sub ps cs
theorem lookup_zip {ps : List PySem.Str} (hn : ps.Nodup) : ∀ {cs : List Value} {i : Nat} {x : PySem.Str} {c : Value}, ps[i]? = some x → cs[i]? = some c → (ps.zip cs).reverse.lookup x = some c := by
  intro cs i x c hp hc
  have hmem : (x, c) ∈ (ps.zip cs).reverse := by
    rw [List.mem_reverse]
    refine List.mem_of_getElem? (i := i) ?_
    rw [List.getElem?_zip_eq_some]
    exact ⟨hp, hc⟩
  have hnd : ((ps.zip cs).reverse.map (·.1)).Nodup := by
    rw [List.map_reverse]
    exact (List.reverse_perm _).nodup_iff.mpr (hn.sublist (fst_zip_sub _ _))
  exact lookup_mem hnd hmem

noncomputable def CallC (G : GS) (A : Around) (f : Value) (vs : List V) (Q : V → Mem → Prop) (m : Mem) : Prop :=
  ∀ Γ frz σ s cvs, FE.ok Γ → Rep G Γ frz σ s → σ.mem = m → RVs s.heap cvs vs → codeAny (model G.prog G.w) A (.call f ⟨cvs, []⟩)
    (fun r s' => match r with
      | .ok (.ret v) => PO G Γ frz σ s Q v s'
      | .ok _ => False
      | .error e => NoE e s') s
theorem CallC.toS {f : Value} {vs : List V} {Q : V → Mem → Prop} {m : Mem} (h : CallC G A f vs Q m) : CallS G A f vs Q m :=
  fun Γ frz σ s cvs ok r hm hv => wpAny_call (h Γ frz σ s cvs ok r hm hv)

/-- a function without cells of its own -/
theorem call_plainW {fd : FuncData} {f : Addr} {body : List Stmt} {ps : List PySem.Str} {dv : List Value} {dvs vs : List V} {m : Mem} {Q : V → Mem → Prop} {rest : List (PySem.Str × VK)} {rl : List (Option V)} {C : SC} {P : PC} {mine : List Sm}
    (gok : G.ok) (gbi : G.bi) (hd : A.depth < recursionLimit) (hA : ∀ env, Rm (A.deeper env)) (hP : ∀ env, P.run G (A.deeper env))
    (ho : ∀ Γ frz σ s, Rep G Γ frz σ s → σ.mem = m → ∃ o, s.heap.get? f = some o ∧ o.data = .func fd) (hcd : ∀ Γ frz σ s, Rep G Γ frz σ s → σ.mem = m → s.heap.CodeRec fd.code fd.qualname) (hbody : fd.body = .stmts body)
    (hbind : ∀ s cvs, G.K.In s.heap → cvs.length = vs.length → BindsTo s fd ⟨cvs, []⟩ (ps.zip (cvs ++ dv))) (hdv : ∀ h, RVs h dv dvs) (hlen : (vs ++ dvs).length = ps.length) (hnd : ps.Nodup)
    (hΓ : ∀ L, FE.ok ⟨callEnv fd L f, ps.map (·, .loc) ++ rest⟩) (hC : ∀ L, C.ok G ⟨callEnv fd L f, ps.map (·, .loc) ++ rest⟩)
    (hown : ∀ (i : Nat) x c, rest[i]? = some (x, .own c) → False) (hloc : ∀ (i : Nat) x v, rest[i]? = some (x, .loc) → rl[i]? = some (some v) → False)
    (href : ∀ Γ frz σ s, Rep G Γ frz σ s → σ.mem = m → ∀ (i : Nat) x c, rest[i]? = some (x, .ref c) → ∃ o ov, σ.mem c = none ∧ s.heap.get? c = some o ∧ o.data = .cell ov ∧ ∀ v, rl[i]? = some (some v) → ∃ cv, ov = some cv ∧ RV s.heap cv v)
    (hcell : ∀ x ∈ fd.scope.names, x.2 ≠ .cell) (hpl : ∀ x ∈ ps, fd.scope.names.lookup x = some .local) (hco : fd.scope.isCoroutine = false) (hgen : fd.scope.isGenerator = false) (hk : fd.scope.kind = .function)
    (chk : chkSs C mine body = true) (w : wpSs P mine (fun fl σ' => Q (retV fl) σ'.mem) ⟨(vs ++ dvs).map some ++ rl, m⟩) : CallC G A (.ref f) vs Q m := by
  intro Γ frz σ s cvs ok r hm hv
  obtain ⟨o, g, hdata⟩ := ho Γ frz σ s r hm
  have kin := r.kin gok
  have hl := hv.length
  refine codeAny_call_def hd g hdata (gok.lim.keeps fun b o e => r.hfrz _ _ (r.hbase _ _ e)) (hcd Γ frz σ s r hm) hbody (hbind s cvs kin hl) hcell ?_ (fun h₀ hns hkeep => ?_) hco hgen hk
  · intro x hx
    exact hpl _ (List.of_mem_zip hx).1
  · have hz : (cvs ++ dv).length = (vs ++ dvs).length := by simp [hl, (hdv s.heap).length]
    have tk0 : TK s.heap h₀ := .of hkeep
    have hvs : RVs h₀ (cvs ++ dv) (vs ++ dvs) := (hv.tk tk0).append (hdv h₀)
    have r0 : Rep G ⟨callEnv fd s.heap.objs.size f, ps.map (·, .loc) ++ rest⟩ (frzIn σ s) ⟨(vs ++ dvs).map some ++ rl, m⟩ { s with heap := h₀, toks := s.toks + (ps.zip (cvs ++ dv)).length } := by
      have fresh : s.heap.get? s.heap.objs.size = none := by
        cases q : s.heap.get? s.heap.objs.size with
        | none => rfl
        | some o => exact absurd (Heap.lt_size q) (Nat.lt_irrefl _)
      have nn := r.none_of_ge (Nat.le_refl s.heap.objs.size)
      subst hm
      refine ⟨let ⟨_, _, e⟩ := r.same; ⟨h₀, _, by rw [e]⟩, fun b o e => ?_, fun b o e => ?_, fun b o e => hkeep b o (frzIn_some.mp e).2, fun a o e => (r.hmem a o e).keep tk0 (hkeep a), fun a o e => ?_, ?_, ?_, nn.1, ?_, ?_, ?_⟩
      · have := r.hbase b o e
        refine frzIn_some.mpr ⟨?_, r.hfrz _ _ this⟩
        cases q : σ.mem b with
        | none => rfl
        | some x => rw [r.hmemF b x q] at this; cases this
      · have := r.hkeep b o e
        refine frzIn_some.mpr ⟨?_, r.hfrz _ _ this⟩
        cases q : σ.mem b with
        | none => rfl
        | some x => rw [r.hmemF b x q] at this; cases this
      · unfold frzIn; rw [show σ.mem a = some o from e]
      · exact Nat.le_of_lt (Nat.lt_of_le_of_lt r.hab r.lt_locals)
      · cases q : frzIn σ s (callEnv fd s.heap.objs.size f).locals with
        | none => rfl
        | some x => have := (frzIn_some.mp q).2; rw [show (callEnv fd s.heap.objs.size f).locals = s.heap.objs.size from rfl, fresh] at this; cases this
      · refine ⟨_, hns, fun i x v hx hv' => ?_⟩
        by_cases hi : i < ps.length
        · rw [List.getElem?_append_left (by simpa using hi)] at hx
          rw [List.getElem?_append_left (by rw [List.length_map, hlen]; exact hi)] at hv'
          rw [List.getElem?_map, Option.map_eq_some_iff] at hx hv'
          obtain ⟨p, hp, e1⟩ := hx
          obtain ⟨u, hu, e2⟩ := hv'
          cases e1; cases e2
          obtain ⟨cv, h1, h2⟩ := hvs.get hu
          exact ⟨cv, lookup_zip hnd hp h1, h2⟩
        · rw [List.getElem?_append_right (by simpa using hi)] at hx
          rw [List.getElem?_append_right (by rw [List.length_map, hlen]; omega)] at hv'
          rw [List.length_map] at hx hv'
          rw [hlen] at hv'
          exact (hloc _ _ _ hx hv').elim
      · intro i x c hx
        by_cases hi : i < ps.length
        · rw [List.getElem?_append_left (by simpa using hi), List.getElem?_map, Option.map_eq_some_iff] at hx
          obtain ⟨p, _, e1⟩ := hx
          cases e1
        · rw [List.getElem?_append_right (by simpa using hi)] at hx
          exact (hown _ _ _ hx).elim
      · intro i x c hx
        by_cases hi : i < ps.length
        · rw [List.getElem?_append_left (by simpa using hi), List.getElem?_map, Option.map_eq_some_iff] at hx
          obtain ⟨p, _, e1⟩ := hx
          cases e1
        · rw [List.getElem?_append_right (by simpa using hi)] at hx
          obtain ⟨o, ov, h1, h2, h3, h4⟩ := href Γ frz σ s r rfl _ _ _ hx
          refine ⟨o, ov, frzIn_some.mpr ⟨h1, h2⟩, h3, fun v hv' => ?_⟩
          rw [List.getElem?_append_right (by rw [List.length_map, hlen]; omega)] at hv'
          rw [List.length_map, hlen] at hv'
          rw [List.length_map] at h4
          obtain ⟨cv, a, b⟩ := h4 v hv'
          exact ⟨cv, a, b.tk tk0⟩
    refine (soundSs gok gbi (hA _) (hΓ _) (hC _) (hP _) mine body chk w).then r0 fun cf fl σ₁ s₁ a1 r1 t1 w1 => ?_
    subst hm
    obtain ⟨r2, t2⟩ := r.leave r1
    refine ⟨retV fl, _, ?_, r2, t2, w1⟩
    cases a1 with
    | ret q => exact q
    | next => exact .none
    | brk => exact .none
    | cont => exact .none
end
end Mine
set_option autoImplicit false
set_option maxRecDepth 10000
set_option linter.unusedVariables false
namespace Mine
open PySem PyProof.Rows PySem.W

theorem fm_congr {α β : Type} {f g : α → Option β} : ∀ {l : List α}, (∀ a ∈ l, f a = g a) → l.filterMap f = l.filterMap g
  | [], _ => rfl
  | a :: l, h => by
    rw [List.filterMap_cons, List.filterMap_cons, h a (by simp), fm_congr (l := l) fun x hx => h x (by simp [hx])]
theorem lookup_zipF : ∀ {ps : List PySem.Str} {cs : List Value}, ps.Nodup → ps.length = cs.length → (∀ n ∈ ps, ((ps.zip cs).lookup n).isSome = true) ∧ ps.filterMap (fun n => ((ps.zip cs).lookup n).map (n, ·)) = ps.zip cs
  | [], cs, _, _ => by simp
  | p :: ps, [], _, h => by simp at h
  | p :: ps, c :: cs, hn, h => by
    rw [List.nodup_cons] at hn
    obtain ⟨a, b⟩ := lookup_zipF (cs := cs) hn.2 (by simpa using h)
    have ne : ∀ n ∈ ps, (n == p) = false := fun n hm => beq_eq_false_iff_ne.mpr fun q => hn.1 (q ▸ hm)
    refine ⟨fun n hm => ?_, ?_⟩
    · rw [List.zip_cons_cons, List.lookup_cons]
      cases q : n == p with
      | true => rfl
      | false =>
        rcases List.mem_cons.mp hm with e | hm
        · subst e; simp at q
        · exact a n hm
    · rw [List.zip_cons_cons, List.filterMap_cons, List.lookup_cons]
      simp only [beq_self_eq_true, Option.map_some]
      have : ps.filterMap (fun n => (List.lookup n ((p, c) :: ps.zip cs)).map (n, ·)) = ps.filterMap (fun n => ((ps.zip cs).lookup n).map (n, ·)) := by
        apply fm_congr
        intro n hm
        rw [List.lookup_cons, ne n hm]
      rw [this, b]

noncomputable def parOk (p : Arguments) (ps : List PySem.Str) : Bool :=
  p.posonlyargs.isEmpty && p.vararg.isNone && p.kwonlyargs.isEmpty && p.kwarg.isNone && p.args.map (·.arg) == ps

theorem bind_simple {s : Shared} {fd : FuncData} {ps : List PySem.Str} {cs : List Value} (hp : parOk fd.params ps = true) (hd : fd.defaults = .none) (hn : ps.Nodup) (hl : ps.length = cs.length) : BindsTo s fd ⟨cs, []⟩ (ps.zip cs) := by
  unfold parOk at hp
  simp only [Bool.and_eq_true, List.isEmpty_iff, Option.isNone_iff_eq_none, beq_iff_eq] at hp
  obtain ⟨⟨⟨⟨h1, h2⟩, h3⟩, h4⟩, h5⟩ := hp
  obtain ⟨a, b⟩ := lookup_zipF hn hl
  intro M A E Q q
  unfold bindArgs
  simp only [h1, h2, h3, h4, h5, hd, List.map_nil, List.nil_append, List.append_nil]
  rw [List.forIn_nil]
  refine wpAny_bind (wpAny_pure ?_)
  dsimp only
  unfold seqItems?
  refine wpAny_bind (wpAny_bind (wpAny_of_eq (a := ()) rfl (wpAny_pure ?_)))
  rw [if_neg (by simp [hl])]
  have hm : ∀ k, (List.filter (fun n => (List.lookup n (ps.zip cs)).isNone) (List.take k ps)).isEmpty = true := fun k => by
    rw [List.isEmpty_iff, List.filter_eq_nil_iff]
    intro n hn'
    have := a n (List.mem_of_mem_take hn')
    cases q : List.lookup n (ps.zip cs) with
    | none => rw [q] at this; cases this
    | some _ => simp
  rw [if_neg (by rw [hm]; decide)]
  have hz : ∀ k (l : List PySem.Str), l.zip (List.drop k ((none : Option (Array Value)).getD #[]).toList) = [] := fun k l => by simp
  rw [hz, List.forIn_nil]
  refine wpAny_bind (wpAny_pure ?_)
  rw [List.forIn_nil]
  refine wpAny_bind (wpAny_pure ?_)
  rw [if_neg (by simp), b]
  exact wpAny_pure q

noncomputable def nodupS : List PySem.Str → Bool
  | [] => true
  | x :: xs => !xs.contains x && nodupS xs
theorem nodupS_of : ∀ {xs : List PySem.Str}, nodupS xs = true → xs.Nodup
  | [], _ => List.nodup_nil
  | x :: xs, h => by
    simp only [nodupS, Bool.and_eq_true, Bool.not_eq_true', List.contains_eq_mem, decide_eq_false_iff_not] at h
    exact List.nodup_cons.mpr ⟨h.1, nodupS_of h.2⟩

/-- the parts of a function that need no heap -/
noncomputable def fdOk (K : Frag) (fd : FuncData) (ps : List PySem.Str) : Bool :=
  codeIn K fd.code fd.qualname && fd.globals == mainGlobals && fd.builtins == builtinsNs && fd.defaults == .none && parOk fd.params ps && !fd.scope.isCoroutine && !fd.scope.isGenerator && fd.scope.kind == .function
noncomputable def namesOk (fd : FuncData) (C : SC) : Bool := C.names.all fun p => fd.scope.names.lookup p.1 == some p.2
noncomputable def locOk (fd : FuncData) (xs : List PySem.Str) : Bool := nodupS xs && xs.all fun x => fd.scope.names.lookup x == some .local && !(x == ("__debug__" : PySem.Str)) && !(x == ("__classdict__" : PySem.Str))
noncomputable def fnOf (K : Frag) (f : Addr) : Option FuncData := match K.lookup f with
  | some ⟨_, _, .func fd, _⟩ => some fd
  | _ => none
noncomputable def bodyOf (fd : FuncData) : List Stmt := match fd.body with
  | .stmts b => b
  | _ => []
noncomputable def isStmts (fd : FuncData) : Bool := match fd.body with
  | .stmts _ => true
  | _ => false
noncomputable def locSC (ps rest : List PySem.Str) (names : List (PySem.Str × NameKind)) (fns meths : List String) : SC := ⟨(ps ++ rest).map (·, false), names, fns, meths⟩
noncomputable def fnChk (K : Frag) (f : Addr) (ps rest : List PySem.Str) (C : SC) (mine : List Sm) : Bool := match fnOf K f with
  | some fd => fdOk K fd ps && namesOk fd C && locOk fd (ps ++ rest) && fd.closure.isEmpty && isStmts fd && fd.scope.names.all (fun p => !(p.2 == .cell)) && chkSs C mine (bodyOf fd)
  | none => false

theorem lookup_mem' {α β : Type} [BEq α] [LawfulBEq α] {x : α} {k : β} : ∀ {l : List (α × β)}, l.lookup x = some k → (x, k) ∈ l
  | [], h => by cases h
  | (y, d) :: l, h => by
    rw [List.lookup_cons] at h
    split at h
    · rename_i e; rw [beq_iff_eq] at e; subst e; cases h; simp
    · exact List.mem_cons_of_mem _ (lookup_mem' h)

theorem vars_get {xs : List PySem.Str} {i : Nat} {x : PySem.Str} {k : VK} (h : (xs.map (·, VK.loc))[i]? = some (x, k)) : xs[i]? = some x ∧ k = .loc := by
  rw [List.getElem?_map, Option.map_eq_some_iff] at h
  obtain ⟨y, a, b⟩ := h
  cases b
  exact ⟨a, rfl⟩

theorem loc_ok {fd : FuncData} {xs : List PySem.Str} {env : Env} (h : locOk fd xs = true) (h1 : env.scope = fd.scope) (h2 : fd.scope.kind = .function) (h3 : env.globals = mainGlobals) (h4 : env.builtins = builtinsNs) : FE.ok ⟨env, xs.map (·, .loc)⟩ := by
  unfold locOk at h
  simp only [Bool.and_eq_true, List.all_eq_true, Bool.not_eq_true', beq_iff_eq] at h
  obtain ⟨hn, hl⟩ := h
  have nd := nodupS_of hn
  refine ⟨by rw [h1]; exact h2, h3, h4, ?_, ?_, ?_, ?_, ?_, ?_⟩
  · intro i x hx
    obtain ⟨a, _⟩ := vars_get hx
    show env.scope.names.lookup x = _
    rw [h1]; exact (hl x (List.mem_of_getElem? a)).1.1
  · intro i x c hx; cases (vars_get hx).2
  · intro i x c hx; cases (vars_get hx).2
  · intro i j x k k' hx hy
    have hx := (vars_get hx).1
    have hy := (vars_get hy).1
    obtain ⟨hi, e1⟩ := List.getElem?_eq_some_iff.mp hx
    obtain ⟨hj, e2⟩ := List.getElem?_eq_some_iff.mp hy
    exact (List.getElem?_inj hi nd).mp (hx.trans hy.symm)
  · intro i j x y c hx; cases (vars_get hx).2
  · intro i x k hx
    have := hl x (List.mem_of_getElem? (vars_get hx).1)
    exact ⟨this.1.2, this.2⟩

theorem sc_ok {G : GS} {fd : FuncData} {ps rest : List PySem.Str} {names : List (PySem.Str × NameKind)} {fns meths : List String} {env : Env} (h : namesOk fd (locSC ps rest names fns meths) = true) (h1 : env.scope = fd.scope)
    (hf : ∀ n, n ∈ fns → n ∈ G.fns) (hm : ∀ n, n ∈ meths → n ∈ G.meths) : (locSC ps rest names fns meths).ok G ⟨env, (ps ++ rest).map (·, .loc)⟩ := by
  refine ⟨hf, hm, ?_, ?_⟩
  · intro i x r hx
    replace hx : ((ps ++ rest).map (·, false))[i]? = some (x, r) := hx
    rw [List.getElem?_map, Option.map_eq_some_iff] at hx
    obtain ⟨y, a, b⟩ := hx
    cases b
    exact ⟨.loc, by show ((ps ++ rest).map (·, VK.loc))[i]? = _; rw [List.getElem?_map, a]; rfl, fun _ c q => by cases q⟩
  · intro x hx
    have := List.all_eq_true.mp h _ (lookup_mem' hx)
    show env.scope.names.lookup x = _
    rw [h1]; exact beq_iff_eq.mp this

theorem call_fn {G : GS} {A : Around} {f : Addr} {ps rest : List PySem.Str} {names : List (PySem.Str × NameKind)} {fns meths : List String} {mine : List Sm} {P : PC} {vs : List V} {m : Mem} {Q : V → Mem → Prop}
    (gok : G.ok) (gbi : G.bi) (h : fnChk G.K f ps rest (locSC ps rest names fns meths) mine = true) (hd : A.depth < recursionLimit) (hA : ∀ env, Rm (A.deeper env)) (hP : ∀ env, P.run G (A.deeper env))
    (hf : ∀ n, n ∈ fns → n ∈ G.fns) (hm : ∀ n, n ∈ meths → n ∈ G.meths) (hl : vs.length = ps.length)
    (w : wpSs P mine (fun fl σ' => Q (retV fl) σ'.mem) ⟨vs.map some ++ List.replicate rest.length none, m⟩) : CallC G A (.ref f) vs Q m := by
  unfold fnChk at h
  split at h
  · rename_i fd hfd
    unfold fnOf at hfd
    split at hfd
    · rename_i oc od fd' sl hK
      cases hfd
      simp only [Bool.and_eq_true, List.isEmpty_iff, fdOk, beq_iff_eq, Bool.not_eq_true'] at h
      obtain ⟨⟨⟨⟨⟨⟨⟨⟨⟨⟨⟨⟨⟨h1, h2⟩, h3⟩, h4⟩, h5⟩, h6⟩, h7⟩, h8⟩, h9⟩, h10⟩, h11⟩, h12⟩, h13⟩, h14⟩ := h
      have hps : locOk fd (ps ++ rest) = true := h10
      have h10' := h10
      unfold locOk at h10'
      simp only [Bool.and_eq_true, List.all_eq_true, Bool.not_eq_true', beq_iff_eq] at h10'
      have nd := (List.nodup_append.mp (nodupS_of h10'.1)).1
      have hb : fd.body = .stmts (bodyOf fd) := by
        unfold isStmts at h12; unfold bodyOf
        split at h12
        · rename_i b e; rw [e]
        · cases h12
      have e := call_plainW (A := A) (C := locSC ps rest names fns meths) (P := P) (mine := mine) (vs := vs) (m := m) (Q := Q) (ps := ps) (dv := []) (dvs := []) (rest := rest.map (·, .loc)) (rl := List.replicate rest.length none) (f := f) gok gbi hd hA hP
        (fun Γ frz σ s r _ => ⟨_, r.kin gok _ _ hK, rfl⟩) (fun Γ frz σ s r _ => codeRec_of (r.kin gok) h1) hb (fun s cvs _ hl' => by rw [List.append_nil]; exact bind_simple h5 h4 nd (by omega)) (fun _ => .nil) (by simp [hl]) nd
        (fun L => by rw [← List.map_append]; exact loc_ok hps rfl h8 h2 h3) (fun L => by rw [← List.map_append]; exact sc_ok h9 rfl hf hm)
        (fun i x c hx => by cases (vars_get hx).2) (fun i x v _ hv => by rw [List.getElem?_replicate] at hv; split at hv <;> cases hv) (fun Γ frz σ s r _ i x c hx => by cases (vars_get hx).2)
        (fun x hx q => by have := List.all_eq_true.mp h13 x hx; rw [q] at this; cases this) (fun x hx => (h10'.2 x (List.mem_append_left _ hx)).1.1) h6 h7 h8 h14 (by rw [List.append_nil]; exact w)
      exact e
    · cases hfd
  · cases h
end Mine
set_option autoImplicit false
set_option maxRecDepth 10000
set_option linter.unusedVariables false
namespace Mine
open PySem PyProof.Rows PySem.W

section
variable {G : GS} {A : Around} {Γ : FE} {frz : Frz} {σ : St} {s : Shared}

/-- an instance is made -/
theorem call_class {C fI : Addr} {Q : V → Mem → Prop} {m : Mem} (gok : G.ok) (hm : makesIn G.K C = true) (hi : findIn G.K (.ref C) "__init__" = some (some (.ref fI))) (hf : typeIn G.K (.ref fI) = some (.type "function"))
    (h : ∀ x d, m x = none → m d = none → x ≠ d → CallC G (A.under (.builtin "type.__call__" ⟨[.ref C], []⟩)) (.ref fI) [.obj x] (fun r m' => r = .none ∧ Q (.obj x) m') (upd (upd m d (.dict [])) x (.inst C d))) : CallC G A (.ref C) [] Q m := by
  intro Γ frz σ s cvs ok r hmem hv
  cases hv
  obtain ⟨mm, nm, _⟩ := r.hns
  refine make_K (r.fr nm) (r.rest []) (r.kin gok) hm hi hf fun x d h' F' N' hlt hdx => ?_
  have N2 : News G.base Γ.env.locals h' (restOf G Γ.env.locals s.heap []) := fun p hp => N' p (List.mem_cons_of_mem _ (List.mem_cons_of_mem _ hp))
  have gx := N' _ (List.mem_cons_self)
  have gd := N' _ (List.mem_cons_of_mem _ (List.mem_cons_self))
  have keepL : ∀ b o, b ≠ Γ.env.locals → s.heap.get? b = some o → h'.get? b = some o := fun b o hb e => r.keep_of_rest F' N2 b o (by simp) hb e
  have kp : Kp Γ.env.locals s.heap h' := ⟨keepL, fun m' n' => ns_uniq nm n' ▸ F'.ns⟩
  -- d and x are new
  have new : ∀ b, b ≠ Γ.env.locals → G.base.get? b = none → d ≤ b → s.heap.get? b = none := fun b hb hbase hle => by
    cases q : s.heap.get? b with
    | none => rfl
    | some o => exact absurd (hlt (b, o) (restOf_mem.mpr ⟨hb, by simp, hbase, q⟩)) (by simp; omega)
  have sd := new d gd.2.1 gd.2.2 (Nat.le_refl _)
  have sx := new x gx.2.1 gx.2.2 (Nat.le_of_lt hdx)
  have none_of : ∀ b, s.heap.get? b = none → σ.mem b = none ∧ frz b = none ∧ (∀ (i : Nat) y c, Γ.vars[i]? = some (y, .own c) → c ≠ b) := fun b hb => by
    refine ⟨?_, ?_, ?_⟩
    · cases e : σ.mem b with
      | none => rfl
      | some o => obtain ⟨y, ey, _⟩ := (r.hmem _ _ e).obj; rw [hb] at ey; cases ey
    · cases e : frz b with
      | none => rfl
      | some o => have := r.hfrz _ _ e; rw [hb] at this; cases this
    · intro i y c e q
      obtain ⟨_, _, o, _, g, _⟩ := r.hown i y c e
      rw [q, hb] at g; cases g
  have r1 := r.growL ok (tk := s.toks) kp
  obtain ⟨d1, d2, d3⟩ := none_of d sd
  obtain ⟨x1, x2, x3⟩ := none_of x sx
  have hne : x ≠ d := Nat.ne_of_gt hdx
  have r2 := r1.join (a := d) (o := .dict []) d1 d2 gd.2.1 d3 (.dict (n := 0) (es := []) gd.1 trivial)
  have r3 := r2.join (a := x) (o := .inst C d) (by show upd _ _ _ _ = _; rw [upd_ne _ _ hne]; exact x1) x2 gx.2.1 x3 (.inst gx.1)
  have t1 : TK s.heap h' := r.kp_tk kp
  subst hmem
  refine codeAny_mono (h x d x1 d1 hne Γ frz _ _ [.ref x] ok r3 rfl (.cons (.obj x) .nil)) fun rr s' p => ?_
  rcases rr with e | (_ | _ | _ | v)
  · exact p.elim
  · exact p.elim
  · exact p.elim
  · exact p.elim
  · obtain ⟨v', m', a, b, c, rfl, q⟩ := p
    cases a
    exact ⟨rfl, .obj x, m', .obj x, b, t1.trans c, q⟩
end
end Mine
set_option autoImplicit false
set_option maxRecDepth 10000
set_option linter.unusedVariables false
namespace Mine
open PySem PyProof.Rows PySem.W

section
variable {G G' : GS} {A : Around} {Γ Γ' : FE} {frz frz' : Frz} {σ σ' : St} {s s' : Shared}

abbrev selfS : PySem.Str := "self"
theorem Rep.leave' (hs0 : G'.s0 = G.s0) (r : Rep G Γ frz σ s) (r' : Rep G' Γ' frz' σ' s') (hf : ∀ b o, frzIn σ s b = some o → frz' b = some o) : Rep G Γ frz { σ with mem := σ'.mem } s' ∧ TK s.heap s'.heap := by
  have tk := r.tkIn (s' := s') fun b o e => r'.hfrz b o (hf b o e)
  have none_of : ∀ b o, frz b = some o → σ.mem b = none := fun b o e => by
    cases q : σ.mem b with
    | none => rfl
    | some x => rw [r.hmemF b x q] at e; cases e
  have stay : ∀ b o, σ.mem b = none → s.heap.get? b = some o → s'.heap.get? b = some o := fun b o e g => r'.hfrz _ _ (hf _ _ (frzIn_some.mpr ⟨e, g⟩))
  have out : ∀ b o, σ.mem b = none → s.heap.get? b = some o → σ'.mem b = none := fun b o e g => by
    cases q : σ'.mem b with
    | none => rfl
    | some x => have := r'.hmemF b x q; rw [hf _ _ (frzIn_some.mpr ⟨e, g⟩)] at this; cases this
  refine ⟨⟨by rw [← hs0]; exact r'.same, r.hbase, r.hkeep, fun b o e => stay b o (none_of b o e) (r.hfrz b o e), r'.hmem, fun a o e => ?_, r.hab, r.hlf, ?_, ?_, ?_, ?_⟩, tk⟩
  · cases q : frz a with
    | none => rfl
    | some x => have := out a x (none_of a x q) (r.hfrz a x q); rw [show σ'.mem a = some o from e] at this; cases this
  · obtain ⟨m, ⟨o, es, ep, e, rest⟩, f⟩ := r.hns
    exact out _ _ r.hlm e
  · obtain ⟨m, ⟨o, es, ep, e, rest⟩, f⟩ := r.hns
    exact ⟨m, ⟨o, es, ep, stay _ _ r.hlm e, rest⟩, fun i x v p q => let ⟨cv, e1, e2⟩ := f i x v p q; ⟨cv, e1, e2.tk tk⟩⟩
  · intro i x c e
    obtain ⟨p, q, o, ov, g, d, f⟩ := r.hown i x c e
    exact ⟨p, out _ _ q g, o, ov, stay _ _ q g, d, fun v z => let ⟨cv, e1, e2⟩ := f v z; ⟨cv, e1, e2.tk tk⟩⟩
  · intro i x c e
    obtain ⟨o, ov, g, d, f⟩ := r.href i x c e
    exact ⟨o, ov, g, d, fun v z => let ⟨cv, e1, e2⟩ := f v z; ⟨cv, e1, e2.tk tk⟩⟩

theorem bindL_other {k : PySem.Str → Option NameKind} : ∀ {ps : List PySem.Str} {cs : List Value} {m : PySem.Str → Option Value} {x : PySem.Str}, x ∉ ps → bindL k (ps.zip cs) m x = m x
  | [], _, _, _, _ => by simp [bindL]
  | _ :: _, [], _, _, _ => by simp [bindL]
  | p :: ps, c :: cs, m, x, h => by
    rw [List.zip_cons_cons]; unfold bindL
    rw [bindL_other (fun q => h (List.mem_cons_of_mem _ q))]
    split
    · exact if_neg (fun q => h (by subst q; simp))
    · rfl
theorem bindL_get {k : PySem.Str → Option NameKind} : ∀ {ps : List PySem.Str} {cs : List Value} {m : PySem.Str → Option Value} {i : Nat} {x : PySem.Str} {c : Value}, ps.Nodup → ps[i]? = some x → cs[i]? = some c → k x = some .local → bindL k (ps.zip cs) m x = some c
  | [], _, _, _, _, _, _, h, _, _ => by simp at h
  | _ :: _, [], _, _, _, _, _, _, h, _ => by simp at h
  | p :: ps, d :: cs, m, 0, x, c, hn, h1, h2, hk => by
    simp only [List.getElem?_cons_zero, Option.some.injEq] at h1 h2
    subst h1; subst h2
    rw [List.nodup_cons] at hn
    rw [List.zip_cons_cons]; unfold bindL
    rw [bindL_other hn.1, if_pos hk, if_pos rfl]
  | p :: ps, d :: cs, m, i + 1, x, c, hn, h1, h2, hk => by
    rw [List.nodup_cons] at hn
    rw [List.zip_cons_cons]; unfold bindL
    exact bindL_get hn.2 (by simpa using h1) (by simpa using h2) hk
theorem bindC_other {k : PySem.Str → Option NameKind} : ∀ {ps : List PySem.Str} {cs : List Value} {m : PySem.Str → Option Value} {x : PySem.Str}, x ∉ ps → bindC k (ps.zip cs) m x = m x
  | [], _, _, _, _ => by simp [bindC]
  | _ :: _, [], _, _, _ => by simp [bindC]
  | p :: ps, c :: cs, m, x, h => by
    rw [List.zip_cons_cons]; unfold bindC
    rw [bindC_other (fun q => h (List.mem_cons_of_mem _ q))]
    split
    · rfl
    · exact if_neg (fun q => h (by subst q; simp))

noncomputable def GS.with (G : GS) (c : Addr) (o : Obj) : GS := { G with keep := frzAdd G.keep c o }
theorem GS.with_ok {c : Addr} {o : Obj} (h : G.ok) : (G.with c o).ok := ⟨h.g, h.b, h.lim, h.k⟩
theorem GS.with_bi {c : Addr} {o : Obj} (h : G.bi) : (G.with c o).bi := ⟨h.bi⟩

/-- a method whose `self` is held by a cell -/
theorem call_selfW {fd : FuncData} {f a : Addr} {oc : Value} {od : Option Addr} {osl : Array (Option Value)} {body : List Stmt} {ps rest : List PySem.Str} {vs : List V} {m : Mem} {Q : V → Mem → Prop}
    (gok : G.ok) (hd : A.depth < recursionLimit) (hK : G.K.lookup f = some ⟨oc, od, .func fd, osl⟩) (hcd : codeIn G.K fd.code fd.qualname = true) (hbody : fd.body = .stmts body)
    (hdf : fd.defaults = .none) (hp : parOk fd.params (selfS :: ps) = true) (hclo : fd.closure = []) (hl : vs.length = ps.length) (hcells : ∀ n, cellsFrom n fd.scope.names [] = [(selfS, n)])
    (hself : fd.scope.names.lookup selfS = some .cell) (hloc : locOk fd (ps ++ rest) = true) (hns : selfS ∉ ps ++ rest) (hco : fd.scope.isCoroutine = false) (hgen : fd.scope.isGenerator = false) (hk : fd.scope.kind = .function)
    (h : ∀ (L c : Addr) (co : Obj), co.data = .cell (some (.ref a)) → L < c → c = L + 1 → WF (G.with c co) (A.deeper (callEnvC fd L f)) ⟨callEnvC fd L f, (selfS, .ref c) :: (ps ++ rest).map (·, .loc)⟩ (execs body (callEnvC fd L f)) (fun fl σ' => Q (retV fl) σ'.mem)
      ⟨some (.obj a) :: (vs.map some ++ List.replicate rest.length none), m⟩) : CallC G A (.ref f) (.obj a :: vs) Q m := by
  intro Γ frz σ s cvs ok r hm hv
  have kin := r.kin gok
  have g := kin _ _ hK
  have hlim : s.heap.NoLimit := gok.lim.keeps fun b o e => r.hfrz _ _ (r.hbase _ _ e)
  have hll := hloc
  unfold locOk at hll
  simp only [Bool.and_eq_true, List.all_eq_true, Bool.not_eq_true', beq_iff_eq] at hll
  obtain ⟨hnd0, hlk⟩ := hll
  have hnd := nodupS_of hnd0
  have hndp : (selfS :: ps).Nodup := List.nodup_cons.mpr ⟨fun q => hns (List.mem_append_left _ q), (List.nodup_append.mp hnd).1⟩
  cases hv with
  | cons hva hvs =>
  cases hva
  rename_i cvs
  have hz := hvs.length
  refine codeAny_call_function hd g rfl hco hgen hbody (codeRec_of kin hcd) ?_
  refine bind_simple hp hdf hndp (by simp; omega) _ _ _ _ ?_
  rw [hclo]
  refine wpAny_newFunctionEnv_cells hk ?_ fun env he s₁ x => ?_
  · intro y hy
    rw [List.zip_cons_cons] at hy
    rcases List.mem_cons.mp hy with rfl | hy
    · exact .inr ⟨hself, by rw [hcells]; rfl⟩
    · exact .inl (hlk _ (List.mem_append_left _ (List.of_mem_zip hy).1)).1.1
  · subst he
    refine ⟨hlim.keeps x.toInCall.keep, codeAny_func ?_⟩
    have hkeep := x.toInCall.keep
    obtain ⟨h₁, tk, rfl, _⟩ := x.done
    have tk0 : TK s.heap h₁ := .of hkeep
    have hlook : (newEnv fd.scope s.heap.objs.size fd.globals (cellsFrom (s.heap.objs.size + 1) fd.scope.names []) (fd.qualname ++ ".<locals>.") (some f) fd.code none fd.builtins).cells.lookup selfS = some (s.heap.objs.size + 1) := by
      show (cellsFrom (s.heap.objs.size + 1) fd.scope.names []).lookup selfS = _
      rw [hcells]; rfl
    obtain ⟨co, gco, dco⟩ := x.cell selfS _ hlook
    have hself' : ¬ (callEnvC fd s.heap.objs.size f).kindOf selfS = some .local := by
      show ¬ fd.scope.names.lookup selfS = _
      rw [hself]; decide
    have dco' : co.data = .cell (some (.ref a)) := by
      rw [dco, List.zip_cons_cons]; unfold bindC
      rw [bindC_other (fun q => hns (List.mem_append_left _ q)), if_neg (show ¬ (newEnv fd.scope s.heap.objs.size fd.globals (cellsFrom (s.heap.objs.size + 1) fd.scope.names []) (fd.qualname ++ ".<locals>.") (some f) fd.code none fd.builtins).kindOf selfS = some .local from hself')]
      exact congrArg Data.cell (if_pos rfl)
    have fresh : ∀ b, s.heap.objs.size ≤ b → s.heap.get? b = none := fun b hb => by
      cases q : s.heap.get? b with
      | none => rfl
      | some o => exact absurd (Heap.lt_size q) (Nat.not_lt.mpr hb)
    have nn := fun b (hb : s.heap.objs.size ≤ b) => r.none_of_ge hb
    have inz : ∀ b, s.heap.objs.size ≤ b → frzIn σ s b = none := fun b hb => by
      cases q : frzIn σ s b with
      | none => rfl
      | some o => have := (frzIn_some.mp q).2; rw [fresh b hb] at this; cases this
    have up : ∀ b o, frz b = some o → frzIn σ s b = some o := fun b o e => by
      refine frzIn_some.mpr ⟨?_, r.hfrz _ _ e⟩
      cases q : σ.mem b with
      | none => rfl
      | some x => rw [r.hmemF b x q] at e; cases e
    have addup : ∀ b o, frzIn σ s b = some o → frzAdd (frzIn σ s) (s.heap.objs.size + 1) co b = some o := fun b o e => by
      unfold frzAdd; split
      · rename_i q; subst q; rw [inz _ (Nat.le_succ _)] at e; cases e
      · exact e
    have r0 : Rep (G.with (s.heap.objs.size + 1) co) ⟨callEnvC fd s.heap.objs.size f, (selfS, .ref (s.heap.objs.size + 1)) :: (ps ++ rest).map (·, .loc)⟩ (frzAdd (frzIn σ s) (s.heap.objs.size + 1) co)
        ⟨some (.obj a) :: (vs.map some ++ List.replicate rest.length none), m⟩ { s with heap := h₁, toks := tk } := by
      subst hm
      refine ⟨let ⟨_, _, e⟩ := r.same; ⟨h₁, _, by rw [e]; rfl⟩, fun b o e => addup b o (up b o (r.hbase b o e)), fun b o e => ?_, fun b o e => ?_, fun a o e => (r.hmem a o e).keep tk0 (hkeep a), fun a o e => ?_, ?_, ?_, (nn _ (Nat.le_refl _)).1, ?_, ?_, ?_⟩
      · replace e : frzAdd G.keep (s.heap.objs.size + 1) co b = some o := e
        unfold frzAdd at e ⊢
        split at e
        · rename_i q; rw [if_pos q]; exact e
        · rename_i q; rw [if_neg q]; exact up b o (r.hkeep b o e)
      · unfold frzAdd at e
        split at e
        · rename_i q; subst q; cases e; exact gco
        · exact hkeep b o (frzIn_some.mp e).2
      · unfold frzAdd
        rw [if_neg (fun q => by subst q; have := (nn _ (Nat.le_succ _)).1; rw [show σ.mem _ = some o from e] at this; cases this)]
        unfold frzIn; rw [show σ.mem a = some o from e]
      · exact Nat.le_of_lt (Nat.lt_of_le_of_lt r.hab r.lt_locals)
      · show (if s.heap.objs.size = s.heap.objs.size + 1 then some co else frzIn σ s s.heap.objs.size) = none
        rw [if_neg (by omega)]
        exact inz _ (Nat.le_refl _)
      · refine ⟨_, x.toInCall.ns, fun i y v hx hv' => ?_⟩
        cases i with
        | zero => cases hx
        | succ i =>
          simp only [List.getElem?_cons_succ] at hx hv'
          obtain ⟨hx1, _⟩ := vars_get hx
          have hkl : (callEnvC fd s.heap.objs.size f).kindOf y = some .local := (hlk y (List.mem_of_getElem? hx1)).1.1
          by_cases hi : i < ps.length
          · rw [List.getElem?_append_left hi] at hx1
            rw [List.getElem?_append_left (by rw [List.length_map]; omega), List.getElem?_map, Option.map_eq_some_iff] at hv'
            obtain ⟨u, hu, e2⟩ := hv'
            cases e2
            obtain ⟨cv, h1, h2⟩ := hvs.get hu
            exact ⟨cv, bindL_get (i := i + 1) hndp (by simpa using hx1) (by simpa using h1) hkl, h2.tk tk0⟩
          · rw [List.getElem?_append_right (by rw [List.length_map]; omega), List.getElem?_replicate] at hv'
            split at hv' <;> cases hv'
      · intro i y c hx
        cases i with
        | zero => cases hx
        | succ i =>
          simp only [List.getElem?_cons_succ] at hx
          cases (vars_get hx).2
      · intro i y c hx
        cases i with
        | zero =>
          simp only [List.getElem?_cons_zero, Option.some.injEq, Prod.mk.injEq, VK.ref.injEq] at hx
          obtain ⟨rfl, rfl⟩ := hx
          exact ⟨co, some (.ref a), by simp [frzAdd], dco', fun v hv' => ⟨.ref a, rfl, by cases hv'; exact .obj a⟩⟩
        | succ i =>
          simp only [List.getElem?_cons_succ] at hx
          cases (vars_get hx).2
    refine (h s.heap.objs.size (s.heap.objs.size + 1) co dco' (Nat.lt_succ_self _) rfl).then r0 fun cf fl σ₁ s₁ a1 r1 t1 w1 => ?_
    subst hm
    obtain ⟨r2, t2⟩ := Rep.leave' (G := G) (G' := G.with (s.heap.objs.size + 1) co) rfl r r1 addup
    refine ⟨retV fl, _, ?_, r2, t2, w1⟩
    cases a1 with
    | ret q => exact q
    | next => exact .none
    | brk => exact .none
    | cont => exact .none
end
end Mine
set_option autoImplicit false
set_option maxRecDepth 10000
set_option linter.unusedVariables false
namespace Mine
open PySem PyProof.Rows PySem.W

noncomputable def CodeAt (m : Mem) (c : Addr) (q : PySem.Str) : Prop := ∃ oc vs t, m c = some (.raw oc) ∧ oc.data = .fields vs ∧ vs[1]? = some (.str q t)
/-- the table of inner code objects: empty, or the one inner function -/
noncomputable def Tab (pos : Pos) (q : PySem.Str) (P : Addr) (m : Mem) : Prop :=
  m P = some (.raw (tabObj #[])) ∨ ∃ c', c' ≠ P ∧ m P = some (.raw (tabObj #[rawInt pos.line, rawInt pos.col, .ref c'])) ∧ CodeAt m c' q

theorem Tab.grown {pos : Pos} {q : PySem.Str} {P : Addr} {m : Mem} (t : Tab pos q P m) : ∃ ps, m P = some (.raw (tabObj ps)) := by
  rcases t with e | ⟨_, _, e, _⟩ <;> exact ⟨_, e⟩

section
variable {G : GS} {A : Around} {Γ : FE} {frz : Frz} {σ : St} {s : Shared}

/-- the module of built-ins stands -/
noncomputable def BM (G : GS) : Prop := ∃ bm ob, G.mg "__builtins__" = some (.ref bm) ∧ bm ≠ builtinsNs ∧ G.base.get? bm = some ob ∧ ob.cls = .type "module" ∧ ob.dict = some builtinsNs ∧ ob.data = .plain

theorem s_nest {name : PySem.Str} {params : Arguments} {body : List Stmt} {scope : Scope} {pos : Pos} {c P : Addr} {q : PySem.Str} {clos : List (PySem.Str × Addr)} {i : Nat} {k : VK} {Q : Fl → St → Prop}
    (gok : G.ok) (ok : Γ.ok) (T : BM G) (hcode : Γ.env.code = .ref c) (C : CodeHd G.base c P) (hd0 : params.defaults = []) (hk0 : params.kw_defaults = []) (ha : annTrees params none Γ.env = [])
    (hq : qualnameIn Γ.env name name = q) (hcl : closureFor scope Γ.env = pure clos) (hx : Γ.vars[i]? = some (name, k)) (hk : ∀ c, k ≠ .ref c) (hT : Tab pos q P σ.mem)
    (w : ∀ f c' ctv doc m', σ.mem f = none → m' f = some (.raw (fnMade name q params body scope clos doc ((G.mg "__name__").getD .none) c' ctv)) → CodeAt m' c' q → Tab pos q P m' → (∀ a o, a ≠ P → σ.mem a = some o → m' a = some o) →
      Q .next ((St.mk σ.loc m').set i (.obj f))) : WF G A Γ (exec (.FunctionDef name params body [] none [] scope none name pos) Γ.env) Q σ := by
  intro frz s r
  have kb : ∀ b o, G.base.get? b = some o → s.heap.get? b = some o := fun b o e => r.hfrz _ _ (r.hbase _ _ e)
  have hgs := gok.g.keeps kb
  obtain ⟨bm, ob, b1, b2, b3, b4, b5, b6⟩ := T
  have notP : ∀ b o, G.base.get? b = some o → b ≠ P := fun b o e z => by
    subst z
    obtain ⟨ps, e2⟩ := hT.grown
    have := r.hbase _ _ e
    rw [r.hmemF _ _ e2] at this; cases this
  have hgP : mainGlobals ≠ P := by
    obtain ⟨o, es, ep, e, _⟩ := gok.g
    exact notP _ _ e
  have hbP : bm ≠ P := notP _ _ b3
  have hbG : bm ≠ mainGlobals := fun z => by
    obtain ⟨o, es, ep, e, hd, _⟩ := gok.g
    rw [z, e] at b3; cases b3; rw [hd] at b6; cases b6
  have hb : ∀ h : Heap, (∀ b o, G.base.get? b = some o → h.get? b = some o) → h.BuiltinsAt G.mg P := fun h kk => ⟨bm, ob, b1, b2, hbG, hbP, kk _ _ b3, b4, b5, b6⟩
  have Cs := C.keeps kb
  have lt_of : ∀ a o, σ.mem a = some o → a < s.heap.objs.size := fun a o e => (r.hmem _ _ e).lt
  have fin : ∀ f c' ctv doc m' h' tk, Rep G Γ frz ⟨σ.loc, m'⟩ { s with heap := h', toks := tk } → TK s.heap h' → σ.mem f = none → m' f = some (.raw (fnMade name q params body scope clos doc ((G.mg "__name__").getD .none) c' ctv)) → CodeAt m' c' q → Tab pos q P m' → (∀ a o, a ≠ P → σ.mem a = some o → m' a = some o) →
      wpAny (model G.prog G.w) A (storeName Γ.env name (.ref f)) (fun _ s'' => PF G Γ frz s Q .next s'') NoE { s with heap := h', toks := tk } := fun f c' ctv doc m' h' tk r' t' h1 h2 h3 h4 h5 =>
    wpAny_mono (s_store ok r' hx hk (.obj f)) (fun _ s₂ ⟨r2, t2⟩ => ⟨.next, _, .next, r2, t'.trans t2, w f c' ctv doc m' h1 h2 h3 h4 h5⟩) fun _ _ x => x
  refine nestDef_K hd0 hk0 ha ?_
  rw [hq]
  have notImmF : ∀ fd, ¬ Imm { cls := .type "function", data := .func fd } := fun fd => by simp [Imm]
  have notImmT : ∀ ps, ¬ Imm (tabObj ps) := fun ps => by simp [Imm]
  rcases hT with e | ⟨c', hne, e, hcode'⟩
  · have gP : s.heap.get? P = some (tabObj #[]) := by cases r.hmem _ _ e with | raw g _ => exact g
    refine makeFunction_K (mg := G.mg) hcl (ok.glb) hgs hcode Cs gP trivial rfl hgP (hb _ kb) fun c' ctv doc h' tk hx' hge hlt hrec htb => ?_
    obtain ⟨c₂, oc, vs, t, e2, hoc, hdc, hv⟩ := hrec
    cases e2
    have keep2 : ∀ b o, b ≠ P → s.heap.get? b = some o → (h'.push (fnMade name q params body scope clos doc ((G.mg "__name__").getD .none) c' ctv)).get? b = some o := fun b o hb e => Heap.get?_push_of_some _ (hx' b o hb e)
    have ltP := lt_of _ _ e
    obtain ⟨r1, t1⟩ := r.change ok (tk := tk) (o := .raw (tabObj #[rawInt pos.line, rawInt pos.col, .ref c'])) e keep2 (fun _ => .raw (Heap.get?_push_of_some _ (by simpa using htb)) (notImmT _))
    have nc := r.none_of_ge hge
    have nf := r.none_of_ge (Nat.le_trans hge (Nat.le_of_lt hlt))
    have own : ∀ b, s.heap.objs.size ≤ b → ∀ (i : Nat) x c, Γ.vars[i]? = some (x, .own c) → c ≠ b := fun b hb i x c e => by
      obtain ⟨_, _, o', ov', g', _⟩ := r.hown i x c e
      exact Nat.ne_of_lt (Nat.lt_of_lt_of_le (Heap.lt_size g') hb)
    have neL : ∀ b, s.heap.objs.size ≤ b → b ≠ Γ.env.locals := fun b hb => Ne.symm (Nat.ne_of_lt (Nat.lt_of_lt_of_le r.lt_locals hb))
    have hcP : c' ≠ P := Nat.ne_of_gt (Nat.lt_of_lt_of_le ltP hge)
    have hfP : h'.objs.size ≠ P := Nat.ne_of_gt (Nat.lt_of_lt_of_le ltP (Nat.le_trans hge (Nat.le_of_lt hlt)))
    have hfc : h'.objs.size ≠ c' := Nat.ne_of_gt hlt
    have noc : ¬ Imm oc := by
      rintro (⟨_, _, _, z⟩ | ⟨_, xs, z, y, t', hy⟩)
      · rw [hdc] at z; cases z
      · rw [hdc] at z; cases z; rw [hv] at hy; cases hy
    have r2 := r1.join (a := c') (o := .raw oc) (by show upd _ _ _ _ = _; rw [upd_ne _ _ hcP]; exact nc.1) nc.2 (neL _ hge) (own _ hge) (.raw (Heap.get?_push_of_some _ hoc) noc)
    have r3 := r2.join (a := h'.objs.size) (o := .raw (fnMade name q params body scope clos doc ((G.mg "__name__").getD .none) c' ctv)) (by show upd (upd _ _ _) _ _ _ = _; rw [upd_ne _ _ hfc, upd_ne _ _ hfP]; exact nf.1) nf.2
      (neL _ (Nat.le_trans hge (Nat.le_of_lt hlt))) (own _ (Nat.le_trans hge (Nat.le_of_lt hlt))) (.raw (Heap.get?_push_size _ rfl) (notImmF _))
    have cat : CodeAt (upd (upd (upd σ.mem P (.raw (tabObj #[rawInt pos.line, rawInt pos.col, .ref c']))) c' (.raw oc)) h'.objs.size (.raw (fnMade name q params body scope clos doc ((G.mg "__name__").getD .none) c' ctv))) c' q :=
      ⟨oc, vs, t, by rw [upd_ne _ _ (Ne.symm hfc), upd_self], hdc, hv⟩
    refine fin h'.objs.size c' ctv doc (upd (upd (upd σ.mem P (.raw (tabObj #[rawInt pos.line, rawInt pos.col, .ref c']))) c' (.raw oc)) h'.objs.size (.raw (fnMade name q params body scope clos doc ((G.mg "__name__").getD .none) c' ctv))) _ tk r3 t1 nf.1 (upd_self _ _ _) cat (.inr ⟨c', hcP, by rw [upd_ne _ _ (Ne.symm hfP), upd_ne _ _ (Ne.symm hcP), upd_self], cat⟩) fun a o ha hm => ?_
    have la := lt_of a o hm
    rw [upd_ne _ _ (Nat.ne_of_lt (Nat.lt_trans (Nat.lt_of_lt_of_le la hge) hlt)), upd_ne _ _ (Nat.ne_of_lt (Nat.lt_of_lt_of_le la hge)), upd_ne _ _ ha]; exact hm
  · have gP : s.heap.get? P = some (tabObj #[rawInt pos.line, rawInt pos.col, .ref c']) := by cases r.hmem _ _ e with | raw g _ => exact g
    refine makeFunction_hit (mg := G.mg) hcl (ok.glb) hgs hcode Cs gP (by simp [TriplesOk, rawInt]) (cv := .ref c') (by simp [codeAmong, rawInt]) (hb _ kb) fun ctv doc h' tk hx' hge => ?_
    have keep2 : ∀ b o, s.heap.get? b = some o → (h'.push (fnMade name q params body scope clos doc ((G.mg "__name__").getD .none) c' ctv)).get? b = some o := fun b o e => Heap.get?_push_of_some _ (hx' b o e)
    have r1 := r.fresh (tk := tk) (a := h'.objs.size) (o := .raw (fnMade name q params body scope clos doc ((G.mg "__name__").getD .none) c' ctv)) hge keep2 (.raw (Heap.get?_push_size _ rfl) (notImmF _))
    have up : ∀ a o, σ.mem a = some o → upd σ.mem h'.objs.size (.raw (fnMade name q params body scope clos doc ((G.mg "__name__").getD .none) c' ctv)) a = some o := fun a o hm => by
      have := lt_of a o hm
      rw [upd_ne _ _ (Nat.ne_of_lt (Nat.lt_of_lt_of_le this hge))]; exact hm
    obtain ⟨oc, vs, t, d1, d2, d3⟩ := hcode'
    have cat : CodeAt (upd σ.mem h'.objs.size (.raw (fnMade name q params body scope clos doc ((G.mg "__name__").getD .none) c' ctv))) c' q := ⟨oc, vs, t, up _ _ d1, d2, d3⟩
    exact fin h'.objs.size c' ctv doc _ _ tk r1 (.of keep2) (r.none_of_ge hge).1 (upd_self _ _ _) cat (.inr ⟨c', hne, up _ _ e, cat⟩) fun a o _ hm => up a o hm
end
end Mine
set_option autoImplicit false
set_option maxRecDepth 10000
set_option linter.unusedVariables false
namespace Mine
open PySem PyProof.Rows PySem.W

section
variable {P : PC} {m : Mem} {σ : St}
theorem bin_add {a b : Int} {Q : V → Mem → Prop} : wpBin m .Add (.int a) (.int b) Q = Q (.int (a + b)) m := rfl
theorem bin_sub {a b : Int} {Q : V → Mem → Prop} : wpBin m .Sub (.int a) (.int b) Q = Q (.int (a - b)) m := rfl
theorem bin_mul {a b : Int} {Q : V → Mem → Prop} : wpBin m .Mult (.int a) (.int b) Q = (tiny a ∧ Q (.int (a * b)) m) := rfl
theorem bin_div {a b : Int} {Q : V → Mem → Prop} : wpBin m .FloorDiv (.int a) (.int b) Q = (0 < b ∧ tiny b ∧ Q (.int (a / b)) m) := rfl
theorem bin_mod {a b : Int} {Q : V → Mem → Prop} : wpBin m .Mod (.int a) (.int b) Q = (0 < b ∧ Q (.int (a % b)) m) := rfl
theorem bin_cat {a b : Tx} {Q : V → Mem → Prop} : wpBin m .Add (.str a) (.str b) Q = (small a.length ∧ small b.length ∧ Q (.str (a ++ b)) m) := rfl
theorem bin_rep {a : Addr} {k : Int} {Q : V → Mem → Prop} : wpBin m .Mult (.obj a) (.int k) Q = (∃ x, m a = some (.list [x]) ∧ tiny k ∧ small k.toNat ∧ ∀ c, m c = none → Q (.obj c) (upd m c (.list (List.replicate k.toNat x)))) := rfl
theorem cmp_eqi {a b : Int} {Q : Bool → Prop} : wpCmp m .Eq (.int a) (.int b) Q = Q (decide (a = b)) := rfl
theorem cmp_eqs {a b : Tx} {Q : Bool → Prop} : wpCmp m .Eq (.str a) (.str b) Q = Q (decide (a = b)) := rfl
theorem cmp_nei {a b : Int} {Q : Bool → Prop} : wpCmp m .NotEq (.int a) (.int b) Q = Q (!decide (a = b)) := rfl
theorem cmp_nes {a b : Tx} {Q : Bool → Prop} : wpCmp m .NotEq (.str a) (.str b) Q = Q (!decide (a = b)) := rfl
theorem cmp_lt {a b : Int} {Q : Bool → Prop} : wpCmp m .Lt (.int a) (.int b) Q = Q (decide (a < b)) := rfl
theorem cmp_le {a b : Int} {Q : Bool → Prop} : wpCmp m .LtE (.int a) (.int b) Q = Q (decide (a ≤ b)) := rfl
theorem cmp_gt {a b : Int} {Q : Bool → Prop} : wpCmp m .Gt (.int a) (.int b) Q = Q (decide (b < a)) := rfl
theorem cmp_ge {a b : Int} {Q : Bool → Prop} : wpCmp m .GtE (.int a) (.int b) Q = Q (decide (b ≤ a)) := rfl
theorem cmp_isn {Q : Bool → Prop} : wpCmp m .Is .none .none Q = Q true := rfl
theorem cmp_ist {vs : List V} {Q : Bool → Prop} : wpCmp m .Is (.tup vs) .none Q = Q false := rfl
theorem cmp_notn {Q : Bool → Prop} : wpCmp m .IsNot .none .none Q = Q false := rfl
theorem cmp_nott {vs : List V} {Q : Bool → Prop} : wpCmp m .IsNot (.tup vs) .none Q = Q true := rfl
theorem cmp_eqo {a b : Addr} {Q : Bool → Prop} : wpCmp m .Eq (.obj a) (.obj b) Q = ∃ d e, rd 8 m (.obj a) = some d ∧ rd 8 m (.obj b) = some e ∧ Q (PyData.eqv d e) := rfl
theorem cmp_neo {a b : Addr} {Q : Bool → Prop} : wpCmp m .NotEq (.obj a) (.obj b) Q = ∃ d e, rd 8 m (.obj a) = some d ∧ rd 8 m (.obj b) = some e ∧ Q (!PyData.eqv d e) := rfl
theorem tr_none {Q : Bool → Prop} : wpTruth m .none Q = Q false := rfl
theorem tr_bool {b : Bool} {Q : Bool → Prop} : wpTruth m (.bool b) Q = Q b := rfl
theorem tr_int {i : Int} {Q : Bool → Prop} : wpTruth m (.int i) Q = Q (i != 0) := rfl
theorem tr_str {x : Tx} {Q : Bool → Prop} : wpTruth m (.str x) Q = (small x.length ∧ Q (!x.isEmpty)) := rfl
theorem tr_tup {vs : List V} {Q : Bool → Prop} : wpTruth m (.tup vs) Q = (small vs.length ∧ Q (!vs.isEmpty)) := rfl
theorem ix_str {x : Tx} {i : Int} {Q : V → Prop} : wpIdx m (.str x) (.int i) Q = (tiny i ∧ ∃ c, pyGet x i = some c ∧ Q (.str [c])) := rfl
theorem ix_tup {vs : List V} {i : Int} {Q : V → Prop} : wpIdx m (.tup vs) (.int i) Q = (tiny i ∧ ∃ v, pyGet vs i = some v ∧ Q v) := rfl
theorem ix_lst {a : Addr} {i : Int} {Q : V → Prop} : wpIdx m (.obj a) (.int i) Q = (tiny i ∧ ∃ vs v, m a = some (.list vs) ∧ pyGet vs i = some v ∧ Q v) := rfl
theorem sl_ii {x : Tx} {a b : Int} {Q : V → Mem → Prop} : wpSlc m (.str x) (.int a) (.int b) .none Q = (small x.length ∧ Q (.str (pySl x (some a) (some b))) m) := by simp [wpSlc, slPart]
theorem sl_in {x : Tx} {a : Int} {Q : V → Mem → Prop} : wpSlc m (.str x) (.int a) .none .none Q = (small x.length ∧ Q (.str (pySl x (some a) none)) m) := by simp [wpSlc, slPart]
theorem sl_ni {x : Tx} {b : Int} {Q : V → Mem → Prop} : wpSlc m (.str x) .none (.int b) .none Q = (small x.length ∧ Q (.str (pySl x none (some b))) m) := by simp [wpSlc, slPart]
theorem sl_lni {l : Addr} {b : Int} {Q : V → Mem → Prop} : wpSlc m (.obj l) .none (.int b) .none Q = (∃ vs, (m l = some (.list vs) ∨ ∃ o, m l = some (.ro o vs)) ∧ small vs.length ∧ ∀ c, m c = none → Q (.obj c) (upd m c (.list (pySl vs none (some b))))) := by simp [wpSlc, slPart]
theorem bi_lens {x : Tx} {Q : V → Mem → Prop} : wpBi m .len [.str x] Q = (small x.length ∧ Q (.int x.length) m) := rfl
theorem bi_lent {vs : List V} {Q : V → Mem → Prop} : wpBi m .len [.tup vs] Q = (small vs.length ∧ Q (.int vs.length) m) := rfl
theorem bi_leno {a : Addr} {Q : V → Mem → Prop} : wpBi m .len [.obj a] Q = (∃ vs, (m a = some (.list vs) ∨ ∃ o, m a = some (.ro o vs)) ∧ small vs.length ∧ Q (.int vs.length) m) := rfl
theorem bi_min {a b : Int} {Q : V → Mem → Prop} : wpBi m .min [.int a, .int b] Q = Q (.int (if b < a then b else a)) m := rfl
theorem bi_max {a b : Int} {Q : V → Mem → Prop} : wpBi m .max [.int a, .int b] Q = Q (.int (if a < b then b else a)) m := rfl
theorem bi_maxl {a : Addr} {Q : V → Mem → Prop} : wpBi m .max [.obj a] Q = (∃ ns : List Int, m a = some (.list (ns.map V.int)) ∧ 0 < ns.length ∧ ∀ M : Int, M ∈ ns → (∀ a, a ∈ ns → a ≤ M) → Q (.int M) m) := rfl
theorem bi_rng {a : Int} {Q : V → Mem → Prop} : wpBi m .range [.int a] Q = (tiny a ∧ Q (.rng 0 a 1) m) := rfl
theorem bi_rng2 {a b : Int} {Q : V → Mem → Prop} : wpBi m .range [.int a, .int b] Q = (tiny a ∧ tiny b ∧ Q (.rng a b 1) m) := rfl
theorem bi_lstt {vs : List V} {Q : V → Mem → Prop} : wpBi m .list [.tup vs] Q = (small vs.length ∧ ∀ c, m c = none → Q (.obj c) (upd m c (.list vs))) := rfl
theorem me_find {x t : Tx} {Q : V → Mem → Prop} : wpMe m (.str x) .find [.str t] Q = (small x.length ∧ small t.length ∧ ∀ r, FindIs x t 0 r → Q (.int r) m) := rfl
theorem me_find2 {x t : Tx} {i : Int} {Q : V → Mem → Prop} : wpMe m (.str x) .find [.str t, .int i] Q = (small x.length ∧ small t.length ∧ 0 ≤ i ∧ ∀ r, FindIs x t i.toNat r → Q (.int r) m) := rfl
theorem me_app {a : Addr} {v : V} {Q : V → Mem → Prop} : wpMe m (.obj a) .append [v] Q = (∃ vs, m a = some (.list vs) ∧ small vs.length ∧ Q .none (upd m a (.list (vs ++ [v])))) := rfl
theorem ok_find {x : Tx} : meOk m (.str x) .find = True := rfl
theorem ok_app {a : Addr} : meOk m (.obj a) .append = ∃ l, m a = some (.list l) := rfl
theorem tg_tup {is : List Nat} {vs : List V} {Q : St → Prop} : wpTg P (.tup is) (.tup vs) Q σ = (vs.length = is.length ∧ Q (σ.setAll is vs)) := by simp [wpTg]
theorem tg_var {i : Nat} {v : V} {Q : St → Prop} : wpTg P (.var i) v Q σ = Q (σ.set i v) := rfl
theorem it_str {x : Tx} {K : List V → (Mem → Prop) → Prop} : wpItems m (.str x) K = (small x.length ∧ K (x.map fun c => .str [c]) fun _ => True) := rfl
theorem it_rng {a b c : Int} {K : List V → (Mem → Prop) → Prop} : wpItems m (.rng a b c) K = (tiny a ∧ tiny b ∧ tiny c ∧ 0 < c ∧ K (rngL a b c) fun _ => True) := rfl
theorem it_lst {a : Addr} {K : List V → (Mem → Prop) → Prop} : wpItems m (.obj a) K = (∃ vs, m a = some (.list vs) ∧ small vs.length ∧ K vs fun m' => m' a = some (.list vs)) := rfl
theorem neg_int {i : Int} {Q : V → St → Prop} : (match V.int i with | .int i => Q (.int (-i)) σ | _ => False) = Q (.int (-i)) σ := rfl
end
end Mine
set_option autoImplicit false
set_option maxRecDepth 10000
set_option linter.unusedVariables false
namespace Mine
open PySem PyProof.Rows PySem.W

noncomputable def freeL (names : List (PySem.Str × NameKind)) : List PySem.Str := names.filterMap fun p => if p.2 == .free then some p.1 else none
theorem closure_loop {env : Env} {c : Addr} : ∀ (names : List (PySem.Str × NameKind)) (acc : List (PySem.Str × Addr)), (∀ x ∈ freeL names, env.cells.lookup x = some c) →
    (forIn (m := Sem) names acc fun p cs => (if p.2 == NameKind.free then (do let a ← cellOf env p.1; pure (ForInStep.yield ((p.1, a) :: cs))) else pure (ForInStep.yield cs))) = pure (((freeL names).map (·, c)).reverse ++ acc)
  | [], acc, _ => by rw [List.forIn_nil]; rfl
  | (x, k) :: r, acc, h => by
    rw [List.forIn_cons]
    cases hk : k == NameKind.free with
    | true =>
      have e : freeL ((x, k) :: r) = x :: freeL r := by unfold freeL; rw [List.filterMap_cons]; simp [hk]
      rw [e] at h ⊢
      have hc : cellOf env x = pure c := by unfold cellOf; rw [h x (by simp)]
      simp only [hk, if_true, hc, pure_bind]
      rw [closure_loop r _ fun y hy => h y (List.mem_cons_of_mem _ hy)]
      simp
    | false =>
      have e : freeL ((x, k) :: r) = freeL r := by unfold freeL; rw [List.filterMap_cons]; simp [hk]
      rw [e] at h ⊢
      simp only [hk, Bool.false_eq_true, if_false, pure_bind]
      exact closure_loop r _ h
theorem closure_one {scope : Scope} {env : Env} {c : Addr} {x : PySem.Str} (h : freeL scope.names = [x]) (hc : env.cells.lookup x = some c) : closureFor scope env = pure [(x, c)] := by
  unfold closureFor
  have := closure_loop (env := env) (c := c) scope.names [] (by rw [h]; intro y hy; rw [List.mem_singleton] at hy; subst hy; exact hc)
  rw [h] at this
  simpa using this

theorem cells_none : ∀ (names : List (PySem.Str × NameKind)) (n : Nat) (acc : List (PySem.Str × Addr)), (∀ p ∈ names, (p.2 == NameKind.cell) = false) → cellsFrom n names acc = acc
  | [], _, _, _ => rfl
  | (x, k) :: r, n, acc, h => by
    unfold cellsFrom
    rw [h (x, k) (by simp)]
    exact cells_none r n acc fun p hp => h p (List.mem_cons_of_mem _ hp)
noncomputable def cellL (names : List (PySem.Str × NameKind)) : List PySem.Str := names.filterMap fun p => if p.2 == .cell then some p.1 else none
theorem cells_one {x : PySem.Str} : ∀ (names : List (PySem.Str × NameKind)) (n : Nat), cellL names = [x] → cellsFrom n names [] = [(x, n)]
  | [], _, h => by simp [cellL] at h
  | (y, k) :: r, n, h => by
    cases hk : k == NameKind.cell with
    | true =>
      have e : cellL ((y, k) :: r) = y :: cellL r := by unfold cellL; rw [List.filterMap_cons]; simp [hk]
      rw [e] at h
      simp only [List.cons.injEq] at h
      obtain ⟨rfl, h⟩ := h
      unfold cellsFrom
      rw [hk, if_pos rfl, cells_none]
      intro p hp
      cases hq : p.2 == NameKind.cell with
      | false => rfl
      | true =>
        have : p.1 ∈ cellL r := List.mem_filterMap.mpr ⟨p, hp, by simp [hq]⟩
        rw [h] at this; cases this
    | false =>
      have e : cellL ((y, k) :: r) = cellL r := by unfold cellL; rw [List.filterMap_cons]; simp [hk]
      rw [e] at h
      unfold cellsFrom
      rw [hk]
      exact cells_one r n h

section
variable {G : GS} {A : Around} {Γ : FE} {frz : Frz} {σ : St} {s : Shared}
theorem sound_app {C : SC} {P : PC} (gok : G.ok) (gbi : G.bi) (hA : Rm A) (ok : Γ.ok) (hC : C.ok G Γ) (hP : P.run G A) {ys : List Stmt} {Q : Fl → St → Prop} : ∀ (xs : List Sm) (es : List Stmt), chkSs C xs es = true → ∀ {σ : St},
    wpSs P xs (fun fl σ' => match fl with | .next => WF G A Γ (execs ys Γ.env) Q σ' | .brk => Q .brk σ' | .cont => Q .cont σ' | .ret v => Q (.ret v) σ') σ → WF G A Γ (execs (es ++ ys) Γ.env) Q σ
  | [], es, h, σ, w => by rw [chkSs_nil h]; exact w
  | x :: xs, es, h, σ, w => by
    obtain ⟨e, es, rfl, h1, h2⟩ := chkSs_cons h
    intro frz s r
    rw [List.cons_append, arm_execs_cons]
    refine wpAny_bind ((soundS gok gbi hA ok hC hP x _ h1 w).then r fun cf f σ₁ s₁ a1 r1 t1 w1 => ?_)
    cases a1 with
    | next => exact wpAny_mono (sound_app gok gbi hA ok hC hP xs _ h2 w1 frz s₁ r1) (fun f s₂ p => p.after t1) fun _ _ x => x
    | brk => exact wpAny_pure ⟨_, σ₁, .brk, r1, t1, w1⟩
    | cont => exact wpAny_pure ⟨_, σ₁, .cont, r1, t1, w1⟩
    | ret q => exact wpAny_pure ⟨_, σ₁, .ret q, r1, t1, w1⟩
end
end Mine
set_option autoImplicit false
set_option maxRecDepth 10000
set_option linter.unusedVariables false
set_option linter.unusedSimpArgs false
namespace Mine
open PySem PyProof.Rows PySem.W

/-- length of the longest common head -/
noncomputable def lcp : Tx → Tx → Nat
  | a :: as, b :: bs => if a = b then lcp as bs + 1 else 0
  | _, _ => 0
theorem lcp_le : ∀ (a b : Tx), lcp a b ≤ a.length ∧ lcp a b ≤ b.length
  | [], _ => by simp [lcp]
  | _ :: _, [] => by simp [lcp]
  | a :: as, b :: bs => by
    unfold lcp
    have := lcp_le as bs
    split <;> simp <;> omega
theorem lcp_iff : ∀ (k : Nat) (a b : Tx), k ≤ a.length → k ≤ b.length → (k ≤ lcp a b ↔ a.take k = b.take k)
  | 0, _, _, _, _ => by simp
  | k + 1, [], _, h, _ => by simp at h
  | k + 1, _ :: _, [], _, h => by simp at h
  | k + 1, a :: as, b :: bs, h1, h2 => by
    unfold lcp
    have ih := lcp_iff k as bs (by simpa using h1) (by simpa using h2)
    by_cases e : a = b
    · subst e; simp [ih]
    · simp [e]
noncomputable def lcs (a b : Tx) : Nat := lcp a.reverse b.reverse

theorem clip_nn {n : Nat} {i : Nat} : clip n (i : Int) = min i n := by
  unfold clip clipAt; split <;> omega
theorem clip_neg {n : Nat} {i : Nat} (h : 0 < i) (h2 : i ≤ n) : clip n (-(i : Int)) = n - i := by
  unfold clip clipAt; split <;> omega

theorem pySl_nn {α : Type} (xs : List α) {a b : Nat} (h1 : a ≤ b) (h2 : b ≤ xs.length) : pySl xs (some (a : Int)) (some (b : Int)) = (xs.drop a).take (b - a) := by
  unfold pySl slLo slHi
  simp only [Option.elim, clip_nn]
  rw [Nat.min_eq_left h2, Nat.min_eq_left (Nat.le_trans h1 h2)]
theorem pySl_to {α : Type} (xs : List α) {b : Nat} (h2 : b ≤ xs.length) : pySl xs none (some (b : Int)) = xs.take b := by
  unfold pySl slLo slHi
  simp only [Option.elim, clip_nn]
  rw [Nat.min_eq_left h2]; simp
theorem pySl_from {α : Type} (xs : List α) {a : Nat} (h2 : a ≤ xs.length) : pySl xs (some (a : Int)) none = xs.drop a := by
  unfold pySl slLo slHi
  simp only [Option.elim, clip_nn]
  rw [Nat.min_eq_left h2]; exact List.take_of_length_le (by simp)

/-- with equal heads: more head is equal, or the piece behind it is -/
theorem piece_iff {a b : Tx} {k l : Nat} (h : k ≤ l) (hk : a.take k = b.take k) : ((a.drop k).take (l - k) = (b.drop k).take (l - k)) ↔ a.take l = b.take l := by
  have e : ∀ x : Tx, x.take l = x.take k ++ (x.drop k).take (l - k) := fun x => by
    rw [← List.take_add]; congr 1; omega
  rw [e a, e b, hk]
  exact ⟨fun q => by rw [q], fun q => List.append_cancel_left q⟩

noncomputable def m_diff_commonPrefixPs : List PySem.Str := ["self", "text1", "text2"]
noncomputable def m_diff_commonPrefixRest : List PySem.Str := ["pointermin", "pointermax", "pointermid", "pointerstart"]
noncomputable def m_diff_commonPrefixNames : List (PySem.Str × NameKind) := [("min", .globalImplicit), ("len", .globalImplicit)]
noncomputable def m_diff_commonPrefixBody : List Sm := [
    .ife (.bor [.not (.var 1), .not (.var 2), .cmp (.idx (.var 1) (.lit (.int 0))) [.NotEq] [.idx (.var 2) (.lit (.int 0))]]) [
      .ret (.lit (.int 0))] [],
    .assign [.var 3] (.lit (.int 0)),
    .assign [.var 4] (.bi .min [.bi .len [.var 1], .bi .len [.var 2]]),
    .assign [.var 5] (.var 4),
    .assign [.var 6] (.lit (.int 0)),
    .whl (.cmp (.var 3) [.Lt] [.var 5]) [
      .ife (.cmp (.slc (.var 1) (.var 6) (.var 5) (.lit .none)) [.Eq] [.slc (.var 2) (.var 6) (.var 5) (.lit .none)]) [
        .assign [.var 3] (.var 5),
        .assign [.var 6] (.var 3)] [
        .assign [.var 4] (.var 5)],
      .assign [.var 5] (.bin .Add (.bin .FloorDiv (.bin .Sub (.var 4) (.var 3)) (.lit (.int 2))) (.var 3))],
    .ret (.var 5)]

/-- the state of the search by halves -/
structure Half (N L pmin pmax pmid : Nat) : Prop where
  a : pmin ≤ L
  b : pmin ≤ pmid
  c : pmid ≤ pmax
  d : pmax ≤ N
  e : L ≤ pmax
  f : pmid = pmax ∨ (L < pmax ∧ pmid = (pmax - pmin) / 2 + pmin)

theorem pyGet_nn {α : Type} (xs : List α) (i : Nat) (h : i < xs.length) : pyGet xs (i : Int) = xs[i]? := by
  unfold pyGet
  have : seqIndex? (i : Int) xs.length = some i := by
    unfold seqIndex?
    have e : (if (i : Int) < 0 then (i : Int) + xs.length else (i : Int)) = i := if_neg (by omega)
    simp only [e]
    rw [if_pos (by simp; omega)]; simp
  rw [this]; rfl
theorem pyGet_last {α : Type} (xs : List α) (h : 0 < xs.length) : pyGet xs (-1) = xs[xs.length - 1]? := by
  unfold pyGet
  have : seqIndex? (-1) xs.length = some (xs.length - 1) := by
    unfold seqIndex?
    have e : (if (-1 : Int) < 0 then (-1 : Int) + xs.length else (-1 : Int)) = ((xs.length - 1 : Nat) : Int) := by rw [if_pos (by omega)]; omega
    simp only [e]
    rw [if_pos (by simp; omega)]; simp
  rw [this]; rfl
theorem half_out {N L pmin pmax pmid : Nat} (h : Half N L pmin pmax pmid) (e : pmid ≤ pmin) : pmid = L := by
  obtain ⟨a, b, c, d, e', f⟩ := h
  omega
theorem half_up {N L pmin pmax pmid : Nat} (h : Half N L pmin pmax pmid) (e : pmin < pmid) (g : pmid ≤ L) : Half N L pmid pmax ((pmax - pmid) / 2 + pmid) ∧ 2 * (pmax - pmid) + (if (pmax - pmid) / 2 + pmid = pmax then 1 else 0) < 2 * (pmax - pmin) + (if pmid = pmax then 1 else 0) := by
  obtain ⟨a, b, c, d, e', f⟩ := h
  refine ⟨⟨by omega, by omega, by omega, by omega, by omega, by omega⟩, ?_⟩
  split <;> split <;> omega
theorem half_down {N L pmin pmax pmid : Nat} (h : Half N L pmin pmax pmid) (e : pmin < pmid) (g : ¬ pmid ≤ L) : Half N L pmin pmid ((pmid - pmin) / 2 + pmin) ∧ 2 * (pmid - pmin) + (if (pmid - pmin) / 2 + pmin = pmid then 1 else 0) < 2 * (pmax - pmin) + (if pmid = pmax then 1 else 0) := by
  obtain ⟨a, b, c, d, e', f⟩ := h
  refine ⟨⟨by omega, by omega, by omega, by omega, by omega, by omega⟩, ?_⟩
  split <;> split <;> omega

theorem min_nat (a b : Nat) : (if (b : Int) < (a : Int) then (b : Int) else (a : Int)) = ((min a b : Nat) : Int) := by split <;> omega
theorem half_mid {a b : Nat} (h : b ≤ a) : ((a : Int) - (b : Int)) / 2 + (b : Int) = (((a - b) / 2 + b : Nat) : Int) := by omega

theorem w_commonPrefix (P : PC) (self : V) (a b : Tx) (m : Mem) (ha : small a.length) (hb : small b.length) (Q : V → Mem → Prop) (q : Q (.int (lcp a b)) m) :
    wpSs P m_diff_commonPrefixBody (fun fl σ' => Q (retV fl) σ'.mem) ⟨[self, .str a, .str b].map some ++ List.replicate 4 none, m⟩ := by
  unfold m_diff_commonPrefixBody
  simp only [wpSs, wpS, wpE, wpEs, wpT, wpTs, wpCh, wpBo, wpTgs, tg_var, tg_tup, bin_add, bin_sub, bin_mul, bin_div, bin_mod, bin_cat, bin_rep, cmp_eqi, cmp_eqs, cmp_nei, cmp_nes, cmp_lt, cmp_le, cmp_gt, cmp_ge, cmp_isn, cmp_ist, cmp_notn, cmp_nott, cmp_eqo, cmp_neo, tr_none, tr_bool, tr_int, tr_str, tr_tup, ix_str, ix_tup, ix_lst, sl_ii, sl_in, sl_ni, sl_lni, bi_lens, bi_lent, bi_leno, bi_min, bi_max, bi_maxl, bi_rng, bi_rng2, bi_lstt, me_find, me_find2, me_app, ok_find, ok_app, it_str, it_rng, it_lst, neg_int, St.set, St.setAll, List.map_cons, List.map_nil, List.replicate, List.cons_append, List.nil_append, List.getElem?_cons_succ, List.getElem?_cons_zero, List.set_cons_succ, List.set_cons_zero, Option.some.injEq, exists_eq_left', exists_eq_left, true_and, and_true, retV, if_true, if_false, Bool.false_eq_true, decide_eq_true_eq, Bool.not_true, Bool.not_false, Bool.not_eq_true', decide_eq_false_iff_not, List.length_cons, List.length_nil, reduceIte, reduceCtorEq, ha, hb]
  cases a with
  | nil => simpa [lcp] using q
  | cons x as =>
  cases b with
  | nil => simpa [lcp] using q
  | cons y bs =>
  rw [if_pos (by rfl), if_pos (by rfl)]
  refine ⟨by unfold tiny; omega, x, pyGet_nn (x :: as) 0 (by simp), by unfold tiny; omega, y, pyGet_nn (y :: bs) 0 (by simp), ?_⟩
  by_cases hxy : x = y
  · rw [if_pos (by simp [hxy])]
    rw [min_nat]
    have L0 := lcp_le (x :: as) (y :: bs)
    refine ⟨fun n σ' => ∃ pmin pmax pmid : Nat, σ' = ⟨[some self, some (.str (x :: as)), some (.str (y :: bs)), some (.int pmin), some (.int pmax), some (.int pmid), some (.int pmin)], m⟩ ∧
      Half (min (x :: as).length (y :: bs).length) (lcp (x :: as) (y :: bs)) pmin pmax pmid ∧ n = 2 * (pmax - pmin) + (if pmid = pmax then 1 else 0), ⟨_, 0, min (x :: as).length (y :: bs).length, min (x :: as).length (y :: bs).length, rfl, ⟨by omega, by omega, by omega, by omega, by omega, .inl rfl⟩, rfl⟩, ?_⟩
    rintro n σ' ⟨pmin, pmax, pmid, rfl, H, rfl⟩
    simp only [wpSs, wpS, wpE, wpEs, wpT, wpTs, wpCh, wpBo, wpTgs, tg_var, tg_tup, bin_add, bin_sub, bin_mul, bin_div, bin_mod, bin_cat, bin_rep, cmp_eqi, cmp_eqs, cmp_nei, cmp_nes, cmp_lt, cmp_le, cmp_gt, cmp_ge, cmp_isn, cmp_ist, cmp_notn, cmp_nott, cmp_eqo, cmp_neo, tr_none, tr_bool, tr_int, tr_str, tr_tup, ix_str, ix_tup, ix_lst, sl_ii, sl_in, sl_ni, sl_lni, bi_lens, bi_lent, bi_leno, bi_min, bi_max, bi_maxl, bi_rng, bi_rng2, bi_lstt, me_find, me_find2, me_app, ok_find, ok_app, it_str, it_rng, it_lst, neg_int, St.set, St.setAll, List.map_cons, List.map_nil, List.replicate, List.cons_append, List.nil_append, List.getElem?_cons_succ, List.getElem?_cons_zero, List.set_cons_succ, List.set_cons_zero, Option.some.injEq, exists_eq_left', exists_eq_left, true_and, and_true, retV, if_true, if_false, Bool.false_eq_true, decide_eq_true_eq, Bool.not_true, Bool.not_false, Bool.not_eq_true', decide_eq_false_iff_not, List.length_cons, List.length_nil, reduceIte, reduceCtorEq]
    have h1 : pmid ≤ (x :: as).length := by have := H.c; have := H.d; omega
    have h2 : pmid ≤ (y :: bs).length := by have := H.c; have := H.d; omega
    by_cases hlt : pmin < pmid
    · rw [if_pos (by omega)]
      refine ⟨ha, hb, ?_⟩
      rw [pySl_nn _ H.b h1, pySl_nn _ H.b h2]
      have e0 := (lcp_iff pmin (x :: as) (y :: bs) (by omega) (by omega)).mp H.a
      have key := (piece_iff H.b e0).trans (lcp_iff pmid (x :: as) (y :: bs) h1 h2).symm
      by_cases hk : pmid ≤ lcp (x :: as) (y :: bs)
      · rw [if_pos (key.mpr hk)]
        obtain ⟨H', M⟩ := half_up H hlt hk
        rw [half_mid H.c]
        exact ⟨by omega, by unfold tiny; omega, _, M, _, _, _, rfl, H', rfl⟩
      · rw [if_neg (fun z => hk (key.mp z))]
        obtain ⟨H', M⟩ := half_down H hlt hk
        rw [half_mid H.b]
        exact ⟨by omega, by unfold tiny; omega, _, M, _, _, _, rfl, H', rfl⟩
    · rw [if_neg (by omega)]
      have := half_out H (by omega)
      rw [this]; exact q
  · rw [if_neg (by simp [hxy])]
    have : lcp (x :: as) (y :: bs) = 0 := by simp [lcp, hxy]
    rw [this] at q; exact q
end Mine
set_option autoImplicit false
set_option maxRecDepth 10000
set_option linter.unusedVariables false
set_option linter.unusedSimpArgs false
namespace Mine
open PySem PyProof.Rows PySem.W

theorem pySl_end (xs : Tx) {k l : Nat} (h0 : 0 < k) (h1 : l ≤ k) (h2 : k ≤ xs.length) : pySl xs (some (-(k : Int))) (some ((xs.length : Int) - (l : Int))) = ((xs.reverse.drop l).take (k - l)).reverse := by
  unfold pySl slLo slHi
  simp only [Option.elim]
  rw [clip_neg h0 h2, show ((xs.length : Int) - (l : Int)) = ((xs.length - l : Nat) : Int) by omega, clip_nn, Nat.min_eq_left (by omega)]
  rw [List.drop_reverse, List.take_reverse, List.reverse_reverse, List.length_take, Nat.min_eq_left (by omega), List.drop_take]
  congr 1
  · omega
  · congr 1; omega

noncomputable def m_diff_commonSuffixPs : List PySem.Str := ["self", "text1", "text2"]
noncomputable def m_diff_commonSuffixRest : List PySem.Str := ["pointermin", "pointermax", "pointermid", "pointerend"]
noncomputable def m_diff_commonSuffixNames : List (PySem.Str × NameKind) := [("min", .globalImplicit), ("len", .globalImplicit)]
noncomputable def m_diff_commonSuffixBody : List Sm := [
    .ife (.bor [.not (.var 1), .not (.var 2), .cmp (.idx (.var 1) (.neg (.lit (.int 1)))) [.NotEq] [.idx (.var 2) (.neg (.lit (.int 1)))]]) [
      .ret (.lit (.int 0))] [],
    .assign [.var 3] (.lit (.int 0)),
    .assign [.var 4] (.bi .min [.bi .len [.var 1], .bi .len [.var 2]]),
    .assign [.var 5] (.var 4),
    .assign [.var 6] (.lit (.int 0)),
    .whl (.cmp (.var 3) [.Lt] [.var 5]) [
      .ife (.cmp (.slc (.var 1) (.neg (.var 5)) (.bin .Sub (.bi .len [.var 1]) (.var 6)) (.lit .none)) [.Eq] [.slc (.var 2) (.neg (.var 5)) (.bin .Sub (.bi .len [.var 2]) (.var 6)) (.lit .none)]) [
        .assign [.var 3] (.var 5),
        .assign [.var 6] (.var 3)] [
        .assign [.var 4] (.var 5)],
      .assign [.var 5] (.bin .Add (.bin .FloorDiv (.bin .Sub (.var 4) (.var 3)) (.lit (.int 2))) (.var 3))],
    .ret (.var 5)]

theorem last_rev (xs : Tx) (x : Char) (as : Tx) (h : xs.reverse = x :: as) : xs[xs.length - 1]? = some x := by
  have e : xs = as.reverse ++ [x] := by rw [← List.reverse_reverse xs, h]; simp
  subst e; simp

theorem w_commonSuffix (P : PC) (self : V) (a b : Tx) (m : Mem) (ha : small a.length) (hb : small b.length) (Q : V → Mem → Prop) (q : Q (.int (lcs a b)) m) :
    wpSs P m_diff_commonSuffixBody (fun fl σ' => Q (retV fl) σ'.mem) ⟨[self, .str a, .str b].map some ++ List.replicate 4 none, m⟩ := by
  unfold m_diff_commonSuffixBody
  simp only [wpSs, wpS, wpE, wpEs, wpT, wpTs, wpCh, wpBo, wpTgs, tg_var, tg_tup, bin_add, bin_sub, bin_mul, bin_div, bin_mod, bin_cat, bin_rep, cmp_eqi, cmp_eqs, cmp_nei, cmp_nes, cmp_lt, cmp_le, cmp_gt, cmp_ge, cmp_isn, cmp_ist, cmp_notn, cmp_nott, cmp_eqo, cmp_neo, tr_none, tr_bool, tr_int, tr_str, tr_tup, ix_str, ix_tup, ix_lst, sl_ii, sl_in, sl_ni, sl_lni, bi_lens, bi_lent, bi_leno, bi_min, bi_max, bi_maxl, bi_rng, bi_rng2, bi_lstt, me_find, me_find2, me_app, ok_find, ok_app, it_str, it_rng, it_lst, neg_int, St.set, St.setAll, List.map_cons, List.map_nil, List.replicate, List.cons_append, List.nil_append, List.getElem?_cons_succ, List.getElem?_cons_zero, List.set_cons_succ, List.set_cons_zero, Option.some.injEq, exists_eq_left', exists_eq_left, true_and, and_true, retV, if_true, if_false, Bool.false_eq_true, decide_eq_true_eq, Bool.not_true, Bool.not_false, Bool.not_eq_true', decide_eq_false_iff_not, List.length_cons, List.length_nil, reduceIte, reduceCtorEq, ha, hb]
  cases a' : a.reverse with
  | nil =>
    have : a = [] := by simpa using a'
    subst this
    simpa [lcs, lcp] using q
  | cons x as =>
  cases b' : b.reverse with
  | nil =>
    have : b = [] := by simpa using b'
    subst this
    have : lcs a [] = 0 := by unfold lcs; rw [a']; rfl
    rw [this] at q
    simp only [List.isEmpty_nil, Bool.not_true, Bool.not_false, if_neg, reduceCtorEq, if_false]
    split <;> exact q
  | cons y bs =>
  have la : a.length = as.length + 1 := by rw [← List.length_reverse, a']; rfl
  have lb : b.length = bs.length + 1 := by rw [← List.length_reverse, b']; rfl
  have na : a.isEmpty = false := by cases a with | nil => simp at la | cons => rfl
  have nb : b.isEmpty = false := by cases b with | nil => simp at lb | cons => rfl
  rw [na, nb, if_pos (by rfl), if_pos (by rfl)]
  refine ⟨by unfold tiny; omega, x, (pyGet_last a (by omega)).trans (last_rev a x as a'), by unfold tiny; omega, y, (pyGet_last b (by omega)).trans (last_rev b y bs b'), ?_⟩
  by_cases hxy : x = y
  · rw [if_pos (by simp [hxy])]
    rw [min_nat]
    have L0 := lcp_le a.reverse b.reverse
    rw [List.length_reverse, List.length_reverse] at L0
    refine ⟨fun n σ' => ∃ pmin pmax pmid : Nat, σ' = ⟨[some self, some (.str a), some (.str b), some (.int pmin), some (.int pmax), some (.int pmid), some (.int pmin)], m⟩ ∧
      Half (min a.length b.length) (lcp a.reverse b.reverse) pmin pmax pmid ∧ n = 2 * (pmax - pmin) + (if pmid = pmax then 1 else 0), ⟨_, 0, min a.length b.length, min a.length b.length, rfl, ⟨by omega, by omega, by omega, by omega, by omega, .inl rfl⟩, rfl⟩, ?_⟩
    rintro n σ' ⟨pmin, pmax, pmid, rfl, H, rfl⟩
    simp only [wpSs, wpS, wpE, wpEs, wpT, wpTs, wpCh, wpBo, wpTgs, tg_var, tg_tup, bin_add, bin_sub, bin_mul, bin_div, bin_mod, bin_cat, bin_rep, cmp_eqi, cmp_eqs, cmp_nei, cmp_nes, cmp_lt, cmp_le, cmp_gt, cmp_ge, cmp_isn, cmp_ist, cmp_notn, cmp_nott, cmp_eqo, cmp_neo, tr_none, tr_bool, tr_int, tr_str, tr_tup, ix_str, ix_tup, ix_lst, sl_ii, sl_in, sl_ni, sl_lni, bi_lens, bi_lent, bi_leno, bi_min, bi_max, bi_maxl, bi_rng, bi_rng2, bi_lstt, me_find, me_find2, me_app, ok_find, ok_app, it_str, it_rng, it_lst, neg_int, St.set, St.setAll, List.map_cons, List.map_nil, List.replicate, List.cons_append, List.nil_append, List.getElem?_cons_succ, List.getElem?_cons_zero, List.set_cons_succ, List.set_cons_zero, Option.some.injEq, exists_eq_left', exists_eq_left, true_and, and_true, retV, if_true, if_false, Bool.false_eq_true, decide_eq_true_eq, Bool.not_true, Bool.not_false, Bool.not_eq_true', decide_eq_false_iff_not, List.length_cons, List.length_nil, reduceIte, reduceCtorEq]
    have h1 : pmid ≤ a.length := by have := H.c; have := H.d; omega
    have h2 : pmid ≤ b.length := by have := H.c; have := H.d; omega
    by_cases hlt : pmin < pmid
    · rw [if_pos (by omega)]
      refine ⟨ha, ha, hb, hb, ?_⟩
      rw [pySl_end _ (by omega) H.b h1, pySl_end _ (by omega) H.b h2]
      have e0 := (lcp_iff pmin a.reverse b.reverse (by simp; omega) (by simp; omega)).mp H.a
      have key := (piece_iff H.b e0).trans (lcp_iff pmid a.reverse b.reverse (by simpa using h1) (by simpa using h2)).symm
      by_cases hk : pmid ≤ lcp a.reverse b.reverse
      · rw [if_pos (congrArg List.reverse (key.mpr hk))]
        obtain ⟨H', M⟩ := half_up H hlt hk
        rw [half_mid H.c]
        exact ⟨by omega, by unfold tiny; omega, _, M, _, _, _, rfl, H', rfl⟩
      · rw [if_neg (fun z => hk (key.mp (List.reverse_inj.mp z)))]
        obtain ⟨H', M⟩ := half_down H hlt hk
        rw [half_mid H.b]
        exact ⟨by omega, by unfold tiny; omega, _, M, _, _, _, rfl, H', rfl⟩
    · rw [if_neg (by omega)]
      have := half_out H (by omega)
      rw [this]; exact q
  · rw [if_neg (by simp [hxy])]
    have : lcs a b = 0 := by unfold lcs; rw [a', b']; simp [lcp, hxy]
    rw [this] at q; exact q
end Mine
set_option autoImplicit false
set_option maxRecDepth 10000
set_option linter.unusedVariables false
set_option linter.unusedSimpArgs false
namespace Mine
open PySem PyProof.Rows PySem.W

noncomputable def occB (s t : Tx) (i : Nat) : Bool := decide (i + t.length ≤ s.length) && decide ((s.drop i).take t.length = t)
theorem occB_iff {s t : Tx} {i : Nat} : occB s t i = true ↔ Occ s t i := by unfold occB Occ; simp
/-- the places from k on -/
noncomputable def occF (s t : Tx) (k : Nat) : List Nat := (List.range' k (s.length + 1 - k)).filter fun i => occB s t i
theorem occ_le {s t : Tx} {i : Nat} (h : Occ s t i) : i ≤ s.length := by have := h.1; omega
theorem occF_none {s t : Tx} {k : Nat} (h : ∀ i, k ≤ i → ¬ Occ s t i) : occF s t k = [] := by
  unfold occF
  rw [List.filter_eq_nil_iff]
  intro i hi
  rw [List.mem_range'_1] at hi
  exact fun q => h i hi.1 (occB_iff.mp q)
theorem occF_some {s t : Tx} {k j : Nat} (h1 : k ≤ j) (h2 : Occ s t j) (h3 : ∀ i, k ≤ i → i < j → ¬ Occ s t i) : occF s t k = j :: occF s t (j + 1) := by
  have hj := occ_le h2
  unfold occF
  have e : List.range' k (s.length + 1 - k) = List.range' k (j - k) ++ (j :: List.range' (j + 1) (s.length + 1 - (j + 1))) := by
    rw [show s.length + 1 - k = (j - k) + (s.length + 1 - j) by omega, ← List.range'_append_1, show k + (j - k) = j by omega]
    congr 1
    rw [show s.length + 1 - j = (s.length + 1 - (j + 1)) + 1 by omega, List.range'_succ]
  rw [e, List.filter_append, List.filter_cons_of_pos (occB_iff.mpr h2)]
  have : (List.range' k (j - k)).filter (fun i => occB s t i) = [] := by
    rw [List.filter_eq_nil_iff]
    intro i hi
    rw [List.mem_range'_1] at hi
    exact fun q => h3 i hi.1 (by omega) (occB_iff.mp q)
  rw [this]; rfl

abbrev Five := Tx × Tx × Tx × Tx × Tx
noncomputable def com : Option Five → Tx
  | none => []
  | some f => f.2.2.2.2
noncomputable def hmStep (long short : Tx) (i : Nat) (acc : Option Five) (j : Nat) : Option Five :=
  if (com acc).length < lcs (long.take i) (short.take j) + lcp (long.drop i) (short.drop j) then
    some (long.take (i - lcs (long.take i) (short.take j)), long.drop (i + lcp (long.drop i) (short.drop j)), short.take (j - lcs (long.take i) (short.take j)), short.drop (j + lcp (long.drop i) (short.drop j)),
      (short.drop (j - lcs (long.take i) (short.take j))).take (lcs (long.take i) (short.take j)) ++ (short.drop j).take (lcp (long.drop i) (short.drop j)))
  else acc
noncomputable def hmSeed (long : Tx) (i : Nat) : Tx := (long.drop i).take (long.length / 4)
noncomputable def hmFold (long short : Tx) (i : Nat) : Option Five := (occF short (hmSeed long i) 0).foldl (hmStep long short i) none
noncomputable def hmI (long short : Tx) (i : Nat) : Option Five := if long.length ≤ (com (hmFold long short i)).length * 2 then hmFold long short i else none
noncomputable def fiveV : Option Five → V
  | none => .none
  | some f => .tup [.str f.1, .str f.2.1, .str f.2.2.1, .str f.2.2.2.1, .str f.2.2.2.2]

noncomputable def m_halfIBody : List Sm := [
    .assign [.var 3] (.slc (.var 0) (.var 2) (.bin .Add (.var 2) (.bin .FloorDiv (.bi .len [.var 0]) (.lit (.int 4)))) (.lit .none)),
    .assign [.var 4] (.lit (.str [])),
    .assign [.var 5] (.me (.var 1) .find [.var 3]),
    .whl (.cmp (.var 5) [.NotEq] [.neg (.lit (.int 1))]) [
      .assign [.var 6] (.imeth (.var 12) "diff_commonPrefix" [.slc (.var 0) (.var 2) (.lit .none) (.lit .none), .slc (.var 1) (.var 5) (.lit .none) (.lit .none)]),
      .assign [.var 7] (.imeth (.var 12) "diff_commonSuffix" [.slc (.var 0) (.lit .none) (.var 2) (.lit .none), .slc (.var 1) (.lit .none) (.var 5) (.lit .none)]),
      .ife (.cmp (.bi .len [.var 4]) [.Lt] [.bin .Add (.var 7) (.var 6)]) [
        .assign [.var 4] (.bin .Add (.slc (.var 1) (.bin .Sub (.var 5) (.var 7)) (.var 5) (.lit .none)) (.slc (.var 1) (.var 5) (.bin .Add (.var 5) (.var 6)) (.lit .none))),
        .assign [.var 8] (.slc (.var 0) (.lit .none) (.bin .Sub (.var 2) (.var 7)) (.lit .none)),
        .assign [.var 9] (.slc (.var 0) (.bin .Add (.var 2) (.var 6)) (.lit .none) (.lit .none)),
        .assign [.var 10] (.slc (.var 1) (.lit .none) (.bin .Sub (.var 5) (.var 7)) (.lit .none)),
        .assign [.var 11] (.slc (.var 1) (.bin .Add (.var 5) (.var 6)) (.lit .none) (.lit .none))] [],
      .assign [.var 5] (.me (.var 1) .find [.var 3, .bin .Add (.var 5) (.lit (.int 1))])],
    .ife (.cmp (.bin .Mult (.bi .len [.var 4]) (.lit (.int 2))) [.GtE] [.bi .len [.var 0]]) [
      .ret (.tup [.var 8, .var 9, .var 10, .var 11, .var 4])] [
      .ret (.lit .none)]]

/-- the two methods that the inner function calls -/
noncomputable def methCP (n : String) (vs : List V) (Q : V → Mem → Prop) (m : Mem) : Prop :=
  (n = "diff_commonPrefix" ∧ ∃ s a b, vs = [s, .str a, .str b] ∧ small a.length ∧ small b.length ∧ Q (.int (lcp a b)) m) ∨
  (n = "diff_commonSuffix" ∧ ∃ s a b, vs = [s, .str a, .str b] ∧ small a.length ∧ small b.length ∧ Q (.int (lcs a b)) m)
theorem meth_p {P : PC} (hP : ∀ n vs Q m, methCP n vs Q m → P.meth n vs Q m) {s : V} {a b : Tx} {Q : V → Mem → Prop} {m : Mem} (h : small a.length ∧ small b.length ∧ Q (.int (lcp a b)) m) : P.meth "diff_commonPrefix" [s, .str a, .str b] Q m :=
  hP _ _ _ _ (.inl ⟨rfl, s, a, b, rfl, h⟩)
theorem meth_s {P : PC} (hP : ∀ n vs Q m, methCP n vs Q m → P.meth n vs Q m) {s : V} {a b : Tx} {Q : V → Mem → Prop} {m : Mem} (h : small a.length ∧ small b.length ∧ Q (.int (lcs a b)) m) : P.meth "diff_commonSuffix" [s, .str a, .str b] Q m :=
  hP _ _ _ _ (.inr ⟨rfl, s, a, b, rfl, h⟩)

theorem tinyN (n : Nat) : tiny (n : Int) ↔ n < 1000000000 := by unfold tiny; omega
theorem lcs_le (a b : Tx) : lcs a b ≤ a.length ∧ lcs a b ≤ b.length := by
  have := lcp_le a.reverse b.reverse
  simpa [lcs] using this

theorem hmStep_small {long short : Tx} {i j : Nat} {acc : Option Five} (h : (com acc).length ≤ short.length) (hj : j ≤ short.length) : (com (hmStep long short i acc j)).length ≤ short.length := by
  unfold hmStep
  split
  · have h1 := lcs_le (long.take i) (short.take j)
    have h2 := lcp_le (long.drop i) (short.drop j)
    simp only [List.length_take, List.length_drop] at h1 h2
    simp only [com, List.length_append, List.length_take, List.length_drop]
    omega
  · exact h

theorem w_halfI (P : PC) (hP : ∀ n vs Q m, methCP n vs Q m → P.meth n vs Q m) (t d : Addr) (fs : List (PySem.Str × V)) (long short : Tx) (i : Nat) (m : Mem) (hl : small long.length) (hs : small short.length) (h0 : 0 < long.length) (hi : i + long.length / 4 ≤ long.length)
    (hI : m t = some (.inst P.cls d)) (hD : m d = some (.dict fs)) (hF1 : lookF "diff_commonPrefix" fs = none) (hF2 : lookF "diff_commonSuffix" fs = none) (Q : V → Mem → Prop) (q : Q (fiveV (hmI long short i)) m) :
    wpSs P m_halfIBody (fun fl σ' => Q (retV fl) σ'.mem) ⟨some (.str long) :: some (.str short) :: some (.int i) :: none :: none :: none :: none :: none :: none :: none :: none :: none :: [some (.obj t)], m⟩ := by
  have sm : ∀ {x : Tx} (n : Nat), x.length ≤ n → small n → small x.length := fun n h1 h2 => by unfold small at *; omega
  unfold m_halfIBody
  simp only [wpSs, wpS, wpE, wpEs, wpT, wpTs, wpCh, wpBo, wpTgs, tg_var, tg_tup, bin_add, bin_sub, bin_mul, bin_div, bin_mod, bin_cat, bin_rep, cmp_eqi, cmp_eqs, cmp_nei, cmp_nes, cmp_lt, cmp_le, cmp_gt, cmp_ge, cmp_isn, cmp_ist, cmp_notn, cmp_nott, cmp_eqo, cmp_neo, tr_none, tr_bool, tr_int, tr_str, tr_tup, ix_str, ix_tup, ix_lst, sl_ii, sl_in, sl_ni, sl_lni, bi_lens, bi_lent, bi_leno, bi_min, bi_max, bi_maxl, bi_rng, bi_rng2, bi_lstt, me_find, me_find2, me_app, ok_find, ok_app, it_str, it_rng, it_lst, neg_int, St.set, St.setAll, List.map_cons, List.map_nil, List.replicate, List.cons_append, List.nil_append, List.getElem?_cons_succ, List.getElem?_cons_zero, List.set_cons_succ, List.set_cons_zero, Option.some.injEq, exists_eq_left', exists_eq_left, true_and, and_true, retV, if_true, if_false, Bool.false_eq_true, decide_eq_true_eq, Bool.not_true, Bool.not_false, Bool.not_eq_true', decide_eq_false_iff_not, List.length_cons, List.length_nil, reduceIte, reduceCtorEq, hl, hs]
  refine ⟨by omega, by unfold tiny; omega, ?_⟩
  have e1 : ((i : Int) + (long.length : Int) / 4) = ((i + long.length / 4 : Nat) : Int) := by omega
  rw [e1, pySl_nn _ (by omega) hi, show i + long.length / 4 - i = long.length / 4 by omega]
  refine ⟨sm long.length (by simp; omega) hl, fun r hr => ?_⟩
  have init : ∃ k, FindIs short (hmSeed long i) k r ∧ (occF short (hmSeed long i) k).foldl (hmStep long short i) none = hmFold long short i := ⟨0, hr, rfl⟩
  obtain ⟨k0, hk0, hf0⟩ := init
  refine ⟨fun n σ' => ∃ (j : Int) (acc : Option Five) (x6 x7 : Option V) (k : Nat), σ' = ⟨[some (.str long), some (.str short), some (.int i), some (.str (hmSeed long i)), some (.str (com acc)), some (.int j), x6, x7, acc.map fun f => V.str f.1, acc.map fun f => V.str f.2.1, acc.map fun f => V.str f.2.2.1, acc.map fun f => V.str f.2.2.2.1, some (.obj t)], m⟩ ∧
    FindIs short (hmSeed long i) k j ∧ (occF short (hmSeed long i) k).foldl (hmStep long short i) acc = hmFold long short i ∧ (com acc).length ≤ short.length ∧ n = (if j = -1 then 0 else short.length + 1 - j.toNat), ⟨_, r, none, none, none, k0, rfl, hk0, hf0, by simp [com], rfl⟩, ?_⟩
  rintro n σ' ⟨j, acc, x6, x7, k, rfl, hk, hf, hc, rfl⟩
  simp only [wpSs, wpS, wpE, wpEs, wpT, wpTs, wpCh, wpBo, wpTgs, tg_var, tg_tup, bin_add, bin_sub, bin_mul, bin_div, bin_mod, bin_cat, bin_rep, cmp_eqi, cmp_eqs, cmp_nei, cmp_nes, cmp_lt, cmp_le, cmp_gt, cmp_ge, cmp_isn, cmp_ist, cmp_notn, cmp_nott, cmp_eqo, cmp_neo, tr_none, tr_bool, tr_int, tr_str, tr_tup, ix_str, ix_tup, ix_lst, sl_ii, sl_in, sl_ni, sl_lni, bi_lens, bi_lent, bi_leno, bi_min, bi_max, bi_maxl, bi_rng, bi_rng2, bi_lstt, me_find, me_find2, me_app, ok_find, ok_app, it_str, it_rng, it_lst, neg_int, St.set, St.setAll, List.map_cons, List.map_nil, List.replicate, List.cons_append, List.nil_append, List.getElem?_cons_succ, List.getElem?_cons_zero, List.set_cons_succ, List.set_cons_zero, Option.some.injEq, exists_eq_left', exists_eq_left, true_and, and_true, retV, if_true, if_false, Bool.false_eq_true, decide_eq_true_eq, Bool.not_true, Bool.not_false, Bool.not_eq_true', decide_eq_false_iff_not, List.length_cons, List.length_nil, reduceIte, reduceCtorEq]
  rcases hk with ⟨rfl, hno⟩ | ⟨j, rfl, hkj, hocc, hno⟩
  · rw [if_neg (by simp)]
    rw [occF_none hno] at hf
    have hf : acc = hmFold long short i := hf
    refine ⟨sm short.length hc hs, by unfold tiny; unfold small at hs; omega, hl, ?_⟩
    by_cases hb : long.length ≤ (com acc).length * 2
    · rw [if_pos (by omega)]
      have hq : hmI long short i = acc := by unfold hmI; rw [← hf, if_pos hb]
      rw [hq] at q
      cases acc with
      | none => have : (com none).length = 0 := rfl; omega
      | some f => simp only [Option.map_some, Option.some.injEq, exists_eq_left']; exact q
    · rw [if_neg (by omega)]
      have hq : hmI long short i = none := by unfold hmI; rw [← hf, if_neg hb]
      rw [hq] at q
      exact q
  · rw [if_pos (by omega)]
    have hi' : i ≤ long.length := by omega
    have hj := occ_le hocc
    rw [pySl_from long hi', pySl_from short hj, pySl_to long hi', pySl_to short hj]
    refine ⟨⟨t, d, fs, rfl, hI, hD, hF1⟩, hl, hs, meth_p hP ⟨sm _ (by simp) hl, sm _ (by simp) hs, ⟨t, d, fs, rfl, hI, hD, hF2⟩, hl, hs, meth_s hP ⟨sm _ (by simp; omega) hl, sm _ (by simp; omega) hs, sm _ hc hs, ?_⟩⟩⟩
    have A := lcs_le (long.take i) (short.take j)
    have B := lcp_le (long.drop i) (short.drop j)
    simp only [List.length_take, List.length_drop] at A B
    have hstep := hmStep_small (long := long) (i := i) hc hj
    have hfs : (occF short (hmSeed long i) (j + 1)).foldl (hmStep long short i) (hmStep long short i acc j) = hmFold long short i := by rw [occF_some hkj hocc hno] at hf; exact hf
    have next : ∀ (r : Int) (x6 x7 : Option V) (acc' : Option Five), acc' = hmStep long short i acc j → FindIs short (hmSeed long i) ((j : Int) + 1).toNat r → ∃ k, (k < if (j : Int) = -1 then 0 else short.length + 1 - (j : Int).toNat) ∧ ∃ (j' : Int) (acc_1 : Option Five) (y6 y7 : Option V) (k_1 : Nat),
        ({ loc := [some (.str long), some (.str short), some (.int i), some (.str (hmSeed long i)), some (.str (com acc')), some (.int r), x6, x7, acc'.map fun f => V.str f.1, acc'.map fun f => V.str f.2.1, acc'.map fun f => V.str f.2.2.1, acc'.map fun f => V.str f.2.2.2.1, some (.obj t)], mem := m } : St) =
        { loc := [some (.str long), some (.str short), some (.int i), some (.str (hmSeed long i)), some (.str (com acc_1)), some (.int j'), y6, y7, acc_1.map fun f => V.str f.1, acc_1.map fun f => V.str f.2.1, acc_1.map fun f => V.str f.2.2.1, acc_1.map fun f => V.str f.2.2.2.1, some (.obj t)], mem := m } ∧
        FindIs short (hmSeed long i) k_1 j' ∧ (occF short (hmSeed long i) k_1).foldl (hmStep long short i) acc_1 = hmFold long short i ∧ (com acc_1).length ≤ short.length ∧ k = (if j' = -1 then 0 else short.length + 1 - j'.toNat) := by
      intro r x6 x7 acc' e hr
      subst e
      rw [show ((j : Int) + 1).toNat = j + 1 by omega] at hr
      refine ⟨_, ?_, r, _, x6, x7, j + 1, rfl, hr, hfs, hstep, rfl⟩
      have ej : (if (j : Int) = -1 then 0 else short.length + 1 - (j : Int).toNat) = short.length + 1 - j := by rw [if_neg (by omega)]; simp
      rw [ej]
      rcases hr with ⟨rfl, _⟩ | ⟨j', rfl, hlt, ho, _⟩
      · rw [if_pos rfl]; omega
      · rw [if_neg (by omega)]; have := occ_le ho; omega
    simp only [wpSs, wpS, wpE, wpEs, wpT, wpTs, wpCh, wpBo, wpTgs, tg_var, tg_tup, bin_add, bin_sub, bin_mul, bin_div, bin_mod, bin_cat, bin_rep, cmp_eqi, cmp_eqs, cmp_nei, cmp_nes, cmp_lt, cmp_le, cmp_gt, cmp_ge, cmp_isn, cmp_ist, cmp_notn, cmp_nott, cmp_eqo, cmp_neo, tr_none, tr_bool, tr_int, tr_str, tr_tup, ix_str, ix_tup, ix_lst, sl_ii, sl_in, sl_ni, sl_lni, bi_lens, bi_lent, bi_leno, bi_min, bi_max, bi_maxl, bi_rng, bi_rng2, bi_lstt, me_find, me_find2, me_app, ok_find, ok_app, it_str, it_rng, it_lst, neg_int, St.set, St.setAll, List.map_cons, List.map_nil, List.replicate, List.cons_append, List.nil_append, List.getElem?_cons_succ, List.getElem?_cons_zero, List.set_cons_succ, List.set_cons_zero, Option.some.injEq, exists_eq_left', exists_eq_left, true_and, and_true, retV, if_true, if_false, Bool.false_eq_true, decide_eq_true_eq, Bool.not_true, Bool.not_false, Bool.not_eq_true', decide_eq_false_iff_not, List.length_cons, List.length_nil, reduceIte, reduceCtorEq]
    by_cases hb : (com acc).length < lcs (long.take i) (short.take j) + lcp (long.drop i) (short.drop j)
    · rw [if_pos (by omega)]
      have hacc : hmStep long short i acc j = some (long.take (i - lcs (long.take i) (short.take j)), long.drop (i + lcp (long.drop i) (short.drop j)), short.take (j - lcs (long.take i) (short.take j)), short.drop (j + lcp (long.drop i) (short.drop j)),
        (short.drop (j - lcs (long.take i) (short.take j))).take (lcs (long.take i) (short.take j)) ++ (short.drop j).take (lcp (long.drop i) (short.drop j))) := by unfold hmStep; rw [if_pos hb]
      have s1 : ((j : Int) - (lcs (long.take i) (short.take j) : Nat)) = ((j - lcs (long.take i) (short.take j) : Nat) : Int) := by omega
      have s2 : ((i : Int) - (lcs (long.take i) (short.take j) : Nat)) = ((i - lcs (long.take i) (short.take j) : Nat) : Int) := by omega
      have s3 : ((j : Int) + (lcp (long.drop i) (short.drop j) : Nat)) = ((j + lcp (long.drop i) (short.drop j) : Nat) : Int) := by omega
      have s4 : ((i : Int) + (lcp (long.drop i) (short.drop j) : Nat)) = ((i + lcp (long.drop i) (short.drop j) : Nat) : Int) := by omega
      rw [s1, s2, s3, s4, pySl_nn short (by omega) hj, pySl_nn short (by omega) (by omega), pySl_to long (by omega), pySl_to short (by omega), pySl_from long (by omega), pySl_from short (by omega)]
      rw [show j - (j - lcs (long.take i) (short.take j)) = lcs (long.take i) (short.take j) by omega, show j + lcp (long.drop i) (short.drop j) - j = lcp (long.drop i) (short.drop j) by omega]
      refine ⟨hs, hs, sm short.length (by simp; omega) hs, sm short.length (by simp; omega) hs, hl, hl, hs, hs, hs, sm long.length (by simp [hmSeed]; omega) hl, by omega, fun r hr => ?_⟩
      have := next r (some (.int (lcp (long.drop i) (short.drop j)))) (some (.int (lcs (long.take i) (short.take j)))) _ hacc.symm hr
      simpa [com] using this
    · rw [if_neg (by omega)]
      have hacc : hmStep long short i acc j = acc := by unfold hmStep; rw [if_neg hb]
      refine ⟨hs, sm long.length (by simp [hmSeed]; omega) hl, by omega, fun r hr => ?_⟩
      exact next r _ _ _ hacc.symm hr
end Mine
set_option autoImplicit false
set_option maxRecDepth 10000
set_option linter.unusedVariables false
set_option linter.unusedSimpArgs false
namespace Mine
open PySem PyProof.Rows PySem.W

noncomputable def m_diff_halfMatchPs : List PySem.Str := ["self", "text1", "text2"]
noncomputable def m_diff_halfMatchRest : List PySem.Str := ["longtext", "shorttext", "diff_halfMatchI", "hm1", "hm2", "hm", "text1_a", "text1_b", "text2_a", "text2_b", "mid_common"]
noncomputable def m_diff_halfMatchNames : List (PySem.Str × NameKind) := [("len", .globalImplicit)]
noncomputable def m_diff_halfMatchPre : List Sm := [
    .ife (.cmp (.attr (.var 0) "Diff_Timeout") [.LtE] [.lit (.int 0)]) [
      .ret (.lit .none)] [],
    .ife (.cmp (.bi .len [.var 1]) [.Gt] [.bi .len [.var 2]]) [
      .assign [.tup [3, 4]] (.tup [.var 1, .var 2])] [
      .assign [.tup [4, 3]] (.tup [.var 1, .var 2])],
    .ife (.bor [.cmp (.bi .len [.var 3]) [.Lt] [.lit (.int 4)], .cmp (.bin .Mult (.bi .len [.var 4]) (.lit (.int 2))) [.Lt] [.bi .len [.var 3]]]) [
      .ret (.lit .none)] []]
noncomputable def m_diff_halfMatchPost : List Sm := [
    .assign [.var 6] (.lcall 5 [.var 3, .var 4, .bin .FloorDiv (.bin .Add (.bi .len [.var 3]) (.lit (.int 3))) (.lit (.int 4))]),
    .assign [.var 7] (.lcall 5 [.var 3, .var 4, .bin .FloorDiv (.bin .Add (.bi .len [.var 3]) (.lit (.int 1))) (.lit (.int 2))]),
    .ife (.band [.not (.var 6), .not (.var 7)]) [
      .ret (.lit .none)] [
      .ife (.not (.var 7)) [
        .assign [.var 8] (.var 6)] [
        .ife (.not (.var 6)) [
          .assign [.var 8] (.var 7)] [
          .ife (.cmp (.bi .len [.idx (.var 6) (.lit (.int 4))]) [.Gt] [.bi .len [.idx (.var 7) (.lit (.int 4))]]) [
            .assign [.var 8] (.var 6)] [
            .assign [.var 8] (.var 7)]]]],
    .ife (.cmp (.bi .len [.var 1]) [.Gt] [.bi .len [.var 2]]) [
      .assign [.tup [9, 10, 11, 12, 13]] (.var 8)] [
      .assign [.tup [11, 12, 9, 10, 13]] (.var 8)],
    .ret (.tup [.var 9, .var 10, .var 11, .var 12, .var 13])]

noncomputable def hmPick : Option Five → Option Five → Option Five
  | none, h => h
  | h, none => h
  | some f, some g => if g.2.2.2.2.length < f.2.2.2.2.length then some f else some g
noncomputable def hmMain (long short : Tx) : Option Five :=
  if long.length < 4 ∨ short.length * 2 < long.length then none else hmPick (hmI long short ((long.length + 3) / 4)) (hmI long short ((long.length + 1) / 2))
noncomputable def flip5 (f : Five) : Five := (f.2.2.1, f.2.2.2.1, f.1, f.2.1, f.2.2.2.2)
noncomputable def hmBoth (t1 t2 : Tx) : Option Five := if t2.length < t1.length then hmMain t1 t2 else (hmMain t2 t1).map flip5

theorem at_fld {P : PC} {m : Mem} {t d : Addr} {fs : List (PySem.Str × V)} {n : String} {v : V} {Q : V → Prop} (h1 : m t = some (.inst P.cls d)) (h2 : m d = some (.dict fs)) (h3 : lookF n fs = some v) (h4 : P.fld n = true) (q : Q v) : wpAttr P m (.obj t) n Q :=
  ⟨d, fs, h1, h2, by rw [h3]; exact ⟨h4, q⟩⟩

theorem w_hmPre (P : PC) (t d : Addr) (fs : List (PySem.Str × V)) (t1 t2 : Tx) (lim : Int) (m : Mem) (h1 : small t1.length) (h2 : small t2.length) (hI : m t = some (.inst P.cls d)) (hD : m d = some (.dict fs)) (hL : lookF "Diff_Timeout" fs = some (.int lim)) (hf : P.fld "Diff_Timeout" = true)
    (K : Fl → St → Prop) (k1 : lim ≤ 0 → ∀ σ', σ'.mem = m → K (.ret .none) σ')
    (k2 : 0 < lim → ∀ long short, (long, short) = (if t2.length < t1.length then (t1, t2) else (t2, t1)) → (long.length < 4 ∨ short.length * 2 < long.length) → ∀ σ', σ'.mem = m → K (.ret .none) σ')
    (k3 : 0 < lim → ∀ long short, (long, short) = (if t2.length < t1.length then (t1, t2) else (t2, t1)) → ¬ (long.length < 4 ∨ short.length * 2 < long.length) →
      K .next ⟨[some (.obj t), some (.str t1), some (.str t2), some (.str long), some (.str short), none, none, none, none, none, none, none, none, none], m⟩) :
    wpSs P m_diff_halfMatchPre K ⟨some (.obj t) :: ([V.str t1, V.str t2].map some ++ List.replicate 11 none), m⟩ := by
  unfold m_diff_halfMatchPre
  simp only [wpSs, wpS, wpE, wpEs, wpT, wpTs, wpCh, wpBo, wpTgs, tg_var, tg_tup, bin_add, bin_sub, bin_mul, bin_div, bin_mod, bin_cat, bin_rep, cmp_eqi, cmp_eqs, cmp_nei, cmp_nes, cmp_lt, cmp_le, cmp_gt, cmp_ge, cmp_isn, cmp_ist, cmp_notn, cmp_nott, cmp_eqo, cmp_neo, tr_none, tr_bool, tr_int, tr_str, tr_tup, ix_str, ix_tup, ix_lst, sl_ii, sl_in, sl_ni, sl_lni, bi_lens, bi_lent, bi_leno, bi_min, bi_max, bi_maxl, bi_rng, bi_rng2, bi_lstt, me_find, me_find2, me_app, ok_find, ok_app, it_str, it_rng, it_lst, neg_int, St.set, St.setAll, List.map_cons, List.map_nil, List.replicate, List.cons_append, List.nil_append, List.getElem?_cons_succ, List.getElem?_cons_zero, List.set_cons_succ, List.set_cons_zero, Option.some.injEq, exists_eq_left', exists_eq_left, true_and, and_true, retV, if_true, if_false, Bool.false_eq_true, decide_eq_true_eq, Bool.not_true, Bool.not_false, Bool.not_eq_true', decide_eq_false_iff_not, List.length_cons, List.length_nil, reduceIte, reduceCtorEq, h1, h2]
  refine at_fld hI hD hL hf ?_
  simp only [wpSs, wpS, wpE, wpEs, wpT, wpTs, wpCh, wpBo, wpTgs, tg_var, tg_tup, bin_add, bin_sub, bin_mul, bin_div, bin_mod, bin_cat, bin_rep, cmp_eqi, cmp_eqs, cmp_nei, cmp_nes, cmp_lt, cmp_le, cmp_gt, cmp_ge, cmp_isn, cmp_ist, cmp_notn, cmp_nott, cmp_eqo, cmp_neo, tr_none, tr_bool, tr_int, tr_str, tr_tup, ix_str, ix_tup, ix_lst, sl_ii, sl_in, sl_ni, sl_lni, bi_lens, bi_lent, bi_leno, bi_min, bi_max, bi_maxl, bi_rng, bi_rng2, bi_lstt, me_find, me_find2, me_app, ok_find, ok_app, it_str, it_rng, it_lst, neg_int, St.set, St.setAll, List.map_cons, List.map_nil, List.replicate, List.cons_append, List.nil_append, List.getElem?_cons_succ, List.getElem?_cons_zero, List.set_cons_succ, List.set_cons_zero, Option.some.injEq, exists_eq_left', exists_eq_left, true_and, and_true, retV, if_true, if_false, Bool.false_eq_true, decide_eq_true_eq, Bool.not_true, Bool.not_false, Bool.not_eq_true', decide_eq_false_iff_not, List.length_cons, List.length_nil, reduceIte, reduceCtorEq, h1, h2]
  by_cases hl : lim ≤ 0
  · rw [if_pos hl]; exact k1 hl _ rfl
  · rw [if_neg hl]
    have hl : 0 < lim := by omega
    by_cases hg : t2.length < t1.length
    · rw [if_pos (by omega)]
      have e : (t1, t2) = (if t2.length < t1.length then (t1, t2) else (t2, t1)) := by rw [if_pos hg]
      by_cases c1 : t1.length < 4
      · rw [if_neg (by omega)]; exact k2 hl _ _ e (.inl c1) _ rfl
      · rw [if_pos (by omega)]
        refine ⟨by unfold tiny; unfold small at h2; omega, ?_⟩
        by_cases c2 : t2.length * 2 < t1.length
        · rw [if_neg (by omega)]; exact k2 hl _ _ e (.inr c2) _ rfl
        · rw [if_pos (by omega)]; exact k3 hl _ _ e (by omega)
    · rw [if_neg (by omega)]
      have e : (t2, t1) = (if t2.length < t1.length then (t1, t2) else (t2, t1)) := by rw [if_neg hg]
      by_cases c1 : t2.length < 4
      · rw [if_neg (by omega)]; exact k2 hl _ _ e (.inl c1) _ rfl
      · rw [if_pos (by omega)]
        refine ⟨by unfold tiny; unfold small at h1; omega, ?_⟩
        by_cases c2 : t1.length * 2 < t2.length
        · rw [if_neg (by omega)]; exact k2 hl _ _ e (.inr c2) _ rfl
        · rw [if_pos (by omega)]; exact k3 hl _ _ e (by omega)

theorem hmI_small {long short : Tx} {i : Nat} {f : Five} (h : hmI long short i = some f) : f.2.2.2.2.length ≤ short.length := by
  have key : ∀ (js : List Nat) (acc : Option Five), (∀ j ∈ js, j ≤ short.length) → (com acc).length ≤ short.length → (com (js.foldl (hmStep long short i) acc)).length ≤ short.length := by
    intro js
    induction js with
    | nil => intro acc _ h; exact h
    | cons j js ih => intro acc hj h; exact ih _ (fun k hk => hj k (List.mem_cons_of_mem _ hk)) (hmStep_small h (hj j (by simp)))
  unfold hmI at h
  split at h
  · have := key (occF short (hmSeed long i) 0) none (fun j hj => by
      unfold occF at hj
      rw [List.mem_filter] at hj
      exact occ_le (occB_iff.mp hj.2)) (by simp [com])
    unfold hmFold at h
    rw [h] at this; exact this
  · cases h

theorem five4 {a b c d e : V} : pyGet [a, b, c, d, e] 4 = some e := rfl
theorem w_hmPost (P : PC) (t f : Addr) (t1 t2 long short : Tx) (m : Mem) (h1 : small t1.length) (h2 : small t2.length) (he : (long, short) = (if t2.length < t1.length then (t1, t2) else (t2, t1))) (hg : ¬ (long.length < 4 ∨ short.length * 2 < long.length))
    (hP : ∀ (i : Nat) (Q : V → Mem → Prop), i + long.length / 4 ≤ long.length → Q (fiveV (hmI long short i)) m → P.loc (.obj f) [.str long, .str short, .int i] Q m) (Q : V → Mem → Prop) (q : Q (fiveV (hmBoth t1 t2)) m) :
    wpSs P m_diff_halfMatchPost (fun fl σ' => Q (retV fl) σ'.mem) ⟨[some (.obj t), some (.str t1), some (.str t2), some (.str long), some (.str short), some (.obj f), none, none, none, none, none, none, none, none], m⟩ := by
  have hls : small long.length ∧ small short.length := by split at he <;> cases he <;> exact ⟨by assumption, by assumption⟩
  obtain ⟨h3, h4⟩ := hls
  have i1 : ((long.length : Int) + 3) / 4 = (((long.length + 3) / 4 : Nat) : Int) := by omega
  have i2 : ((long.length : Int) + 1) / 2 = (((long.length + 1) / 2 : Nat) : Int) := by omega
  have hm : hmBoth t1 t2 = (if t2.length < t1.length then hmPick (hmI long short ((long.length + 3) / 4)) (hmI long short ((long.length + 1) / 2)) else (hmPick (hmI long short ((long.length + 3) / 4)) (hmI long short ((long.length + 1) / 2))).map flip5) := by
    unfold hmBoth
    split at he <;> cases he
    · rename_i c; rw [if_pos c, if_pos c]; unfold hmMain; rw [if_neg hg]
    · rename_i c; rw [if_neg c, if_neg c]; unfold hmMain; rw [if_neg hg]
  rw [hm] at q
  unfold m_diff_halfMatchPost
  simp only [wpSs, wpS, wpE, wpEs, wpT, wpTs, wpCh, wpBo, wpTgs, tg_var, tg_tup, bin_add, bin_sub, bin_mul, bin_div, bin_mod, bin_cat, bin_rep, cmp_eqi, cmp_eqs, cmp_nei, cmp_nes, cmp_lt, cmp_le, cmp_gt, cmp_ge, cmp_isn, cmp_ist, cmp_notn, cmp_nott, cmp_eqo, cmp_neo, tr_none, tr_bool, tr_int, tr_str, tr_tup, ix_str, ix_tup, ix_lst, sl_ii, sl_in, sl_ni, sl_lni, bi_lens, bi_lent, bi_leno, bi_min, bi_max, bi_maxl, bi_rng, bi_rng2, bi_lstt, me_find, me_find2, me_app, ok_find, ok_app, it_str, it_rng, it_lst, neg_int, St.set, St.setAll, List.map_cons, List.map_nil, List.replicate, List.cons_append, List.nil_append, List.getElem?_cons_succ, List.getElem?_cons_zero, List.set_cons_succ, List.set_cons_zero, Option.some.injEq, exists_eq_left', exists_eq_left, true_and, and_true, retV, if_true, if_false, Bool.false_eq_true, decide_eq_true_eq, Bool.not_true, Bool.not_false, Bool.not_eq_true', decide_eq_false_iff_not, List.length_cons, List.length_nil, reduceIte, reduceCtorEq, h1, h2, h3, h4]
  refine ⟨by omega, by unfold tiny; omega, ?_⟩
  rw [i1]
  refine hP _ _ (by omega) ?_
  refine ⟨by omega, by unfold tiny; omega, ?_⟩
  rw [i2]
  refine hP _ _ (by omega) ?_
  have s1 := fun f => @hmI_small long short ((long.length + 3) / 4) f
  have s2 := fun f => @hmI_small long short ((long.length + 1) / 2) f
  have five : small 5 := by unfold small; omega
  have z4 : small (0 + 1 + 1 + 1 + 1 + 1) := by unfold small; omega
  have t4 : tiny 4 := by unfold tiny; omega
  have fin : ∀ (o : Option Five) (g : Five) (x6 x7 : V), hmPick (hmI long short ((long.length + 3) / 4)) (hmI long short ((long.length + 1) / 2)) = some g →
      (if (t2.length : Int) < (t1.length : Int) then Q (.tup [.str g.1, .str g.2.1, .str g.2.2.1, .str g.2.2.2.1, .str g.2.2.2.2]) m else Q (.tup [.str g.2.2.1, .str g.2.2.2.1, .str g.1, .str g.2.1, .str g.2.2.2.2]) m) := by
    intro o g x6 x7 hp
    rw [hp] at q
    by_cases c : t2.length < t1.length
    · rw [if_pos c] at q; rw [if_pos (by omega)]; exact q
    · rw [if_neg c] at q; rw [if_neg (by omega)]; exact q
  cases e1 : hmI long short ((long.length + 3) / 4) with
  | none =>
    cases e2 : hmI long short ((long.length + 1) / 2) with
    | none =>
      rw [e1, e2] at q
      simp only [wpSs, wpS, wpE, wpEs, wpT, wpTs, wpCh, wpBo, wpTgs, tg_var, tg_tup, bin_add, bin_sub, bin_mul, bin_div, bin_mod, bin_cat, bin_rep, cmp_eqi, cmp_eqs, cmp_nei, cmp_nes, cmp_lt, cmp_le, cmp_gt, cmp_ge, cmp_isn, cmp_ist, cmp_notn, cmp_nott, cmp_eqo, cmp_neo, tr_none, tr_bool, tr_int, tr_str, tr_tup, ix_str, ix_tup, ix_lst, sl_ii, sl_in, sl_ni, sl_lni, bi_lens, bi_lent, bi_leno, bi_min, bi_max, bi_maxl, bi_rng, bi_rng2, bi_lstt, me_find, me_find2, me_app, ok_find, ok_app, it_str, it_rng, it_lst, neg_int, St.set, St.setAll, List.map_cons, List.map_nil, List.replicate, List.cons_append, List.nil_append, List.getElem?_cons_succ, List.getElem?_cons_zero, List.set_cons_succ, List.set_cons_zero, Option.some.injEq, exists_eq_left', exists_eq_left, true_and, and_true, retV, if_true, if_false, Bool.false_eq_true, decide_eq_true_eq, Bool.not_true, Bool.not_false, Bool.not_eq_true', decide_eq_false_iff_not, List.length_cons, List.length_nil, reduceIte, reduceCtorEq, fiveV]
      simp only [hmPick, Option.map_none, ite_self] at q
      exact q
    | some g =>
      have := fin none g .none .none (by rw [e1, e2]; rfl)
      simp only [wpSs, wpS, wpE, wpEs, wpT, wpTs, wpCh, wpBo, wpTgs, tg_var, tg_tup, bin_add, bin_sub, bin_mul, bin_div, bin_mod, bin_cat, bin_rep, cmp_eqi, cmp_eqs, cmp_nei, cmp_nes, cmp_lt, cmp_le, cmp_gt, cmp_ge, cmp_isn, cmp_ist, cmp_notn, cmp_nott, cmp_eqo, cmp_neo, tr_none, tr_bool, tr_int, tr_str, tr_tup, ix_str, ix_tup, ix_lst, sl_ii, sl_in, sl_ni, sl_lni, bi_lens, bi_lent, bi_leno, bi_min, bi_max, bi_maxl, bi_rng, bi_rng2, bi_lstt, me_find, me_find2, me_app, ok_find, ok_app, it_str, it_rng, it_lst, neg_int, St.set, St.setAll, List.map_cons, List.map_nil, List.replicate, List.cons_append, List.nil_append, List.getElem?_cons_succ, List.getElem?_cons_zero, List.set_cons_succ, List.set_cons_zero, Option.some.injEq, exists_eq_left', exists_eq_left, true_and, and_true, retV, if_true, if_false, Bool.false_eq_true, decide_eq_true_eq, Bool.not_true, Bool.not_false, Bool.not_eq_true', decide_eq_false_iff_not, List.length_cons, List.length_nil, reduceIte, reduceCtorEq, fiveV, five, z4, List.isEmpty_cons, five4]
      exact this
  | some f1 =>
    cases e2 : hmI long short ((long.length + 1) / 2) with
    | none =>
      have := fin none f1 .none .none (by rw [e1, e2]; rfl)
      simp only [wpSs, wpS, wpE, wpEs, wpT, wpTs, wpCh, wpBo, wpTgs, tg_var, tg_tup, bin_add, bin_sub, bin_mul, bin_div, bin_mod, bin_cat, bin_rep, cmp_eqi, cmp_eqs, cmp_nei, cmp_nes, cmp_lt, cmp_le, cmp_gt, cmp_ge, cmp_isn, cmp_ist, cmp_notn, cmp_nott, cmp_eqo, cmp_neo, tr_none, tr_bool, tr_int, tr_str, tr_tup, ix_str, ix_tup, ix_lst, sl_ii, sl_in, sl_ni, sl_lni, bi_lens, bi_lent, bi_leno, bi_min, bi_max, bi_maxl, bi_rng, bi_rng2, bi_lstt, me_find, me_find2, me_app, ok_find, ok_app, it_str, it_rng, it_lst, neg_int, St.set, St.setAll, List.map_cons, List.map_nil, List.replicate, List.cons_append, List.nil_append, List.getElem?_cons_succ, List.getElem?_cons_zero, List.set_cons_succ, List.set_cons_zero, Option.some.injEq, exists_eq_left', exists_eq_left, true_and, and_true, retV, if_true, if_false, Bool.false_eq_true, decide_eq_true_eq, Bool.not_true, Bool.not_false, Bool.not_eq_true', decide_eq_false_iff_not, List.length_cons, List.length_nil, reduceIte, reduceCtorEq, fiveV, five, z4, List.isEmpty_cons, five4]
      exact this
    | some g =>
      have sf := s1 _ e1
      have sg := s2 _ e2
      have sf' : small f1.2.2.2.2.length := by unfold small at *; omega
      have sg' : small g.2.2.2.2.length := by unfold small at *; omega
      simp only [wpSs, wpS, wpE, wpEs, wpT, wpTs, wpCh, wpBo, wpTgs, tg_var, tg_tup, bin_add, bin_sub, bin_mul, bin_div, bin_mod, bin_cat, bin_rep, cmp_eqi, cmp_eqs, cmp_nei, cmp_nes, cmp_lt, cmp_le, cmp_gt, cmp_ge, cmp_isn, cmp_ist, cmp_notn, cmp_nott, cmp_eqo, cmp_neo, tr_none, tr_bool, tr_int, tr_str, tr_tup, ix_str, ix_tup, ix_lst, sl_ii, sl_in, sl_ni, sl_lni, bi_lens, bi_lent, bi_leno, bi_min, bi_max, bi_maxl, bi_rng, bi_rng2, bi_lstt, me_find, me_find2, me_app, ok_find, ok_app, it_str, it_rng, it_lst, neg_int, St.set, St.setAll, List.map_cons, List.map_nil, List.replicate, List.cons_append, List.nil_append, List.getElem?_cons_succ, List.getElem?_cons_zero, List.set_cons_succ, List.set_cons_zero, Option.some.injEq, exists_eq_left', exists_eq_left, true_and, and_true, retV, if_true, if_false, Bool.false_eq_true, decide_eq_true_eq, Bool.not_true, Bool.not_false, Bool.not_eq_true', decide_eq_false_iff_not, List.length_cons, List.length_nil, reduceIte, reduceCtorEq, fiveV, five, z4, t4, List.isEmpty_cons, five4, sf', sg']
      by_cases c : g.2.2.2.2.length < f1.2.2.2.2.length
      · have := fin none f1 .none .none (by rw [e1, e2]; show (if _ then _ else _) = _; rw [if_pos c])
        rw [if_pos (by omega)]
        exact this
      · have := fin none g .none .none (by rw [e1, e2]; show (if _ then _ else _) = _; rw [if_neg c])
        rw [if_neg (by omega)]
        exact this
end Mine
set_option autoImplicit false
set_option maxRecDepth 10000
set_option linter.unusedVariables false
set_option linter.unusedSimpArgs false
namespace Mine
open PySem PyProof.Rows PySem.W

/-- room for k levels of calls -/
structure Lv (A : Around) (k : Nat) : Prop where
  hd : A.handled = none
  dp : A.depth + k < recursionLimit
  un : A.units + 4 * k + 80 < cLine
theorem Lv.deeper {A : Around} {k : Nat} (h : Lv A (k + 1)) (env : Env) : Lv (A.deeper env) k :=
  ⟨h.hd, by have := h.dp; show A.depth + 1 + k < _; omega, by have := h.un; show A.units + 3 + 4 * k + 80 < _; omega⟩
theorem Lv.rm {A : Around} {k : Nat} (h : Lv A k) : Rm A := ⟨h.hd, by have := h.un; omega⟩
theorem Lv.less {A : Around} {k j : Nat} (h : Lv A k) (e : j ≤ k) : Lv A j := ⟨h.hd, by have := h.dp; omega, by have := h.un; omega⟩
theorem Lv.room {A : Around} {k : Nat} (h : Lv A k) : A.depth < recursionLimit := by have := h.dp; omega

noncomputable def fnV (K : Frag) (n : String) : Value := match nsIn K mainGlobals (PySem.Str.ofString n) with
  | some (some f) => f
  | _ => .none
noncomputable def fnsOk (K : Frag) (fns : List String) : Bool := fns.all fun n => match nsIn K mainGlobals (PySem.Str.ofString n) with
  | some (some f) => keepIn K f
  | _ => false
noncomputable def meA (K : Frag) (C : Addr) (n : String) : Addr := match findIn K (.ref C) (PySem.Str.ofString n) with
  | some (some (.ref f)) => f
  | _ => 0
noncomputable def methsOk (K : Frag) (C : Addr) (ms : List String) : Bool := ms.all fun n => match findIn K (.ref C) (PySem.Str.ofString n) with
  | some (some (.ref f)) => isFn K (.ref f) && plainGet K C (PySem.Str.ofString n) && keepIn K (.ref f)
  | _ => false

structure Base (G : GS) (P : PC) : Prop where
  gok : G.ok
  gbi : G.bi
  pc : P.ok G
  fns : fnsOk G.K G.fns = true
  meths : methsOk G.K P.cls G.meths = true

theorem run_mk {G : GS} {A : Around} {P : PC} (b : Base G P) (hcall : ∀ n, n ∈ G.fns → ∀ vs Q m, P.call n vs Q m → CallS G A (fnV G.K n) vs Q m) (hmeth : ∀ n, n ∈ G.meths → ∀ vs Q m, P.meth n vs Q m → CallS G A (.ref (meA G.K P.cls n)) vs Q m)
    (hloc : ∀ v vs Q m, P.loc v vs Q m → ∃ a fo fd, v = .obj a ∧ m a = some (.raw fo) ∧ fo.data = .func fd ∧ CallS G A (.ref a) vs Q m) : P.run G A where
  ok := b.pc
  call := fun n hn => by
    have h := List.all_eq_true.mp b.fns n hn
    have hc := hcall n hn
    unfold fnV at hc
    split at h
    · rename_i f e
      rw [e] at hc
      exact ⟨f, e, h, hc⟩
    · cases h
  meth := fun n hn => by
    have h := List.all_eq_true.mp b.meths n hn
    have hc := hmeth n hn
    unfold meA at hc
    split at h
    · rename_i f e
      rw [e] at hc
      simp only [Bool.and_eq_true] at h
      exact ⟨f, e, h.1.1, h.1.2, h.2, hc⟩
    · cases h
  loc := hloc

noncomputable def pcOf (cls : Addr) : PC where
  cls := cls
  fld := fun n => ["Diff_Timeout", "Diff_EditCost", "Match_Threshold", "Match_Distance", "Patch_DeleteThreshold", "Patch_Margin", "Match_MaxBits"].contains n
  cc := fun _ => none
  call := fun _ _ _ _ => False
  meth := fun _ _ _ _ => False
  loc := fun _ _ _ _ => False
theorem Base.swap {G : GS} {P P' : PC} (b : Base G P) (h1 : P'.cls = P.cls) (h2 : P'.fld = P.fld) (h3 : P'.cc = P.cc) : Base G P' := by
  refine ⟨b.gok, b.gbi, ⟨?_, ?_, ?_, ?_, ?_⟩, b.fns, ?_⟩
  · rw [h1]; exact b.pc.hd
  · rw [h1, h2]; exact b.pc.get
  · rw [h1, h3]; exact b.pc.cc
  · rw [h1]; exact b.pc.set
  · rw [h1]; exact b.pc.over
  · rw [h1]; exact b.meths
theorem Base.with {G : GS} {P : PC} (b : Base G P) (c : Addr) (o : Obj) : Base (G.with c o) P :=
  ⟨GS.with_ok b.gok, GS.with_bi b.gbi, ⟨b.pc.hd, b.pc.get, b.pc.cc, b.pc.set, b.pc.over⟩, b.fns, b.meths⟩
theorem run0 {G : GS} {A : Around} {cls : Addr} (b : Base G (pcOf cls)) : (pcOf cls).run G A :=
  run_mk b (fun _ _ _ _ _ h => h.elim) (fun _ _ _ _ _ h => h.elim) (fun _ _ _ _ h => h.elim)

theorem isRef_of {k : VK} : (match k with | .ref _ => true | _ => false) = false → ∀ c, k ≠ .ref c := by
  cases k <;> simp
theorem feok_gen {env : Env} {vars : List (PySem.Str × VK)} (hk : env.scope.kind = .function) (hg : env.globals = mainGlobals) (hb : env.builtins = builtinsNs) (hnd : (vars.map (·.1)).Nodup)
    (hl : ∀ x, (x, VK.loc) ∈ vars → env.scope.names.lookup x = some .local) (hr : ∀ x c, (x, VK.ref c) ∈ vars → (env.scope.names.lookup x = some .cell ∨ env.scope.names.lookup x = some .free) ∧ env.cells.lookup x = some c)
    (ho : ∀ x c, (x, VK.own c) ∈ vars → False) (hd : ∀ x ∈ vars.map (·.1), (x == ("__debug__" : PySem.Str)) = false ∧ (x == ("__classdict__" : PySem.Str)) = false) : FE.ok ⟨env, vars⟩ := by
  refine ⟨hk, hg, hb, fun i x hx => hl x (List.mem_of_getElem? hx), fun i x c hx => (ho x c (List.mem_of_getElem? hx)).elim, fun i x c hx => hr x c (List.mem_of_getElem? hx), ?_, fun i j x y c hx => (ho x c (List.mem_of_getElem? hx)).elim, fun i x k hx => hd x (List.mem_map.mpr ⟨_, List.mem_of_getElem? hx, rfl⟩)⟩
  intro i j x k k' hx hy
  have ex : (vars.map (·.1))[i]? = some x := by rw [List.getElem?_map, show vars[i]? = _ from hx]; rfl
  have ey : (vars.map (·.1))[j]? = some x := by rw [List.getElem?_map, show vars[j]? = _ from hy]; rfl
  obtain ⟨hi, _⟩ := List.getElem?_eq_some_iff.mp ex
  exact (List.getElem?_inj hi hnd).mp (ex.trans ey.symm)
theorem sc_gen {G : GS} {C : SC} {env : Env} {vars : List (PySem.Str × VK)} (hv : C.vars = vars.map fun p => (p.1, match p.2 with | .ref _ => true | _ => false)) (hf : ∀ n, n ∈ C.fns → n ∈ G.fns) (hm : ∀ n, n ∈ C.meths → n ∈ G.meths)
    (hn : (C.names.all fun p => env.scope.names.lookup p.1 == some p.2) = true) : C.ok G ⟨env, vars⟩ := by
  refine ⟨hf, hm, fun i x r hx => ?_, fun x hx => ?_⟩
  · rw [hv, List.getElem?_map, Option.map_eq_some_iff] at hx
    obtain ⟨⟨y, k⟩, a, e⟩ := hx
    cases e
    exact ⟨k, a, fun e => isRef_of e⟩
  · exact beq_iff_eq.mp (List.all_eq_true.mp hn _ (lookup_mem' hx))

section
variable {G : GS} {A : Around} {cls : Addr}
theorem call_cp (b : Base G (pcOf cls)) (h : fnChk G.K (meA G.K cls "diff_commonPrefix") m_diff_commonPrefixPs m_diff_commonPrefixRest (locSC m_diff_commonPrefixPs m_diff_commonPrefixRest m_diff_commonPrefixNames G.fns G.meths) m_diff_commonPrefixBody = true)
    (lv : Lv A 1) {s : V} {x y : Tx} {m : Mem} {Q : V → Mem → Prop} (hx : small x.length) (hy : small y.length) (q : Q (.int (lcp x y)) m) : CallC G A (.ref (meA G.K cls "diff_commonPrefix")) [s, .str x, .str y] Q m :=
  call_fn b.gok b.gbi h lv.room (fun env => (lv.deeper env).rm) (fun env => run0 b) (fun _ h => h) (fun _ h => h) rfl (w_commonPrefix (pcOf cls) s x y m hx hy Q q)
theorem call_cs (b : Base G (pcOf cls)) (h : fnChk G.K (meA G.K cls "diff_commonSuffix") m_diff_commonSuffixPs m_diff_commonSuffixRest (locSC m_diff_commonSuffixPs m_diff_commonSuffixRest m_diff_commonSuffixNames G.fns G.meths) m_diff_commonSuffixBody = true)
    (lv : Lv A 1) {s : V} {x y : Tx} {m : Mem} {Q : V → Mem → Prop} (hx : small x.length) (hy : small y.length) (q : Q (.int (lcs x y)) m) : CallC G A (.ref (meA G.K cls "diff_commonSuffix")) [s, .str x, .str y] Q m :=
  call_fn b.gok b.gbi h lv.room (fun env => (lv.deeper env).rm) (fun env => run0 b) (fun _ h => h) (fun _ h => h) rfl (w_commonSuffix (pcOf cls) s x y m hx hy Q q)

noncomputable def ChkCP (G : GS) (cls : Addr) : Bool :=
  fnChk G.K (meA G.K cls "diff_commonPrefix") m_diff_commonPrefixPs m_diff_commonPrefixRest (locSC m_diff_commonPrefixPs m_diff_commonPrefixRest m_diff_commonPrefixNames G.fns G.meths) m_diff_commonPrefixBody &&
  fnChk G.K (meA G.K cls "diff_commonSuffix") m_diff_commonSuffixPs m_diff_commonSuffixRest (locSC m_diff_commonSuffixPs m_diff_commonSuffixRest m_diff_commonSuffixNames G.fns G.meths) m_diff_commonSuffixBody

/-- inside the inner function -/
noncomputable def pcI (cls : Addr) : PC := { pcOf cls with meth := methCP }
theorem runI (b : Base G (pcOf cls)) (h : ChkCP G cls = true) (lv : Lv A 1) : (pcI cls).run G A := by
  unfold ChkCP at h
  rw [Bool.and_eq_true] at h
  refine run_mk (b.swap rfl rfl rfl) (fun _ _ _ _ _ h => h.elim) (fun n hn vs Q m hm => ?_) (fun _ _ _ _ h => h.elim)
  rcases hm with ⟨rfl, s, x, y, rfl, h1, h2, q⟩ | ⟨rfl, s, x, y, rfl, h1, h2, q⟩
  · exact (call_cp b h.1 lv h1 h2 q).toS
  · exact (call_cs b h.2 lv h1 h2 q).toS
end
end Mine
set_option autoImplicit false
set_option maxRecDepth 10000
set_option linter.unusedVariables false
set_option linter.unusedSimpArgs false
namespace Mine
open PySem PyProof.Rows PySem.W

noncomputable def hiPs : List PySem.Str := ["longtext", "shorttext", "i"]
noncomputable def hiRest : List PySem.Str := ["seed", "best_common", "j", "prefixLength", "suffixLength", "best_longtext_a", "best_longtext_b", "best_shorttext_a", "best_shorttext_b"]
noncomputable def hiNames : List (PySem.Str × NameKind) := [("len", .globalImplicit)]
noncomputable def hiC (fns meths : List String) : SC := ⟨(hiPs ++ hiRest).map (·, false) ++ [(selfS, true)], hiNames, fns, meths⟩
noncomputable def noDbg (xs : List PySem.Str) : Bool := xs.all fun x => !(x == ("__debug__" : PySem.Str)) && !(x == ("__classdict__" : PySem.Str))
noncomputable def hiChk (params : Arguments) (body : List Stmt) (scope : Scope) (fns meths : List String) : Bool :=
  parOk params hiPs && params.defaults.isEmpty && params.kw_defaults.isEmpty && params.args.all (fun a => a.annotation.isNone) && scope.kind == .function && !scope.isCoroutine && !scope.isGenerator && scope.names.all (fun p => !(p.2 == .cell)) &&
  freeL scope.names == [selfS] && scope.names.lookup selfS == some .free && (hiPs ++ hiRest).all (fun x => scope.names.lookup x == some .local) && hiNames.all (fun p => scope.names.lookup p.1 == some p.2) && chkSs (hiC fns meths) m_halfIBody body

theorem hi_nodup : (hiPs ++ hiRest ++ [selfS]).Nodup := nodupS_of (by decide +kernel)
theorem hi_dbg : ∀ x ∈ hiPs ++ hiRest ++ [selfS], (x == ("__debug__" : PySem.Str)) = false ∧ (x == ("__classdict__" : PySem.Str)) = false := by
  have h : noDbg (hiPs ++ hiRest ++ [selfS]) = true := by decide +kernel
  intro x hx
  have := List.all_eq_true.mp h x hx
  simpa using this

section
variable {G : GS} {A : Around} {cls : Addr}

theorem call_inner (b : Base G (pcOf cls)) (hcp : ChkCP G cls = true) {c t f c' d : Addr} {co : Obj} (hco : co.data = .cell (some (.ref t))) {params : Arguments} {body : List Stmt} {scope : Scope} (h : hiChk params body scope G.fns G.meths = true) (lv : Lv A 2)
    {name q : PySem.Str} {doc pm ctv : Value} {m : Mem} {fs : List (PySem.Str × V)} {long short : Tx} {i : Nat} {Q : V → Mem → Prop}
    (hf : m f = some (.raw (fnMade name q params body scope [(selfS, c)] doc pm c' ctv))) (hcode : CodeAt m c' q) (hl : small long.length) (hs : small short.length) (h0 : 0 < long.length) (hi : i + long.length / 4 ≤ long.length)
    (hI : m t = some (.inst cls d)) (hD : m d = some (.dict fs)) (hF1 : lookF "diff_commonPrefix" fs = none) (hF2 : lookF "diff_commonSuffix" fs = none) (qq : Q (fiveV (hmI long short i)) m) :
    CallC (G.with c co) A (.ref f) [.str long, .str short, .int i] Q m := by
  unfold hiChk at h
  simp only [Bool.and_eq_true, List.isEmpty_iff, beq_iff_eq, Bool.not_eq_true', List.all_eq_true] at h
  obtain ⟨⟨⟨⟨⟨⟨⟨⟨⟨⟨⟨⟨p1, p2⟩, p3⟩, p4⟩, p5⟩, p6⟩, p7⟩, p8⟩, p9⟩, p10⟩, p11⟩, p12⟩, p13⟩ := h
  have rest_get : ∀ (j : Nat) x k, (hiRest.map (·, VK.loc) ++ [(selfS, VK.ref c)])[j]? = some (x, k) → (k = .loc ∧ j < 9) ∨ (k = .ref c ∧ j = 9 ∧ x = selfS) := by
    intro j x k hx
    by_cases hj : j < 9
    · rw [List.getElem?_append_left (by simpa [hiRest] using hj)] at hx
      exact .inl ⟨(vars_get hx).2, hj⟩
    · rw [List.getElem?_append_right (by simpa [hiRest] using hj)] at hx
      have : j - (hiRest.map (·, VK.loc)).length = 0 := by
        obtain ⟨hlt, _⟩ := List.getElem?_eq_some_iff.mp hx
        simp only [List.length_cons, List.length_nil] at hlt; omega
      rw [this] at hx
      simp only [List.getElem?_cons_zero, Option.some.injEq, Prod.mk.injEq] at hx
      exact .inr ⟨hx.2.symm, by simp [hiRest] at this; omega, hx.1.symm⟩
  refine call_plainW (G := G.with c co) (C := hiC G.fns G.meths) (P := pcI cls) (mine := m_halfIBody) (ps := hiPs) (dv := []) (dvs := []) (rest := hiRest.map (·, .loc) ++ [(selfS, .ref c)]) (rl := List.replicate 9 none ++ [some (.obj t)])
    (fd := fnX name q params body scope [(selfS, c)] .none .none doc pm none (.ref c') ctv) (GS.with_ok b.gok) (GS.with_bi b.gbi) lv.room (fun env => (lv.deeper env).rm) (fun env => runI (b.with c co) hcp (lv.deeper env)) ?_ ?_ rfl ?_ (fun _ => .nil) rfl ?_ ?_ ?_ ?_ ?_ ?_ ?_ ?_ p6 p7 p5 p13 ?_
  · intro Γ frz σ s r hm
    subst hm
    cases r.hmem _ _ hf with
    | raw g _ => exact ⟨_, g, rfl⟩
  · intro Γ frz σ s r hm
    subst hm
    obtain ⟨oc, vs, tk, e1, e2, e3⟩ := hcode
    cases r.hmem _ _ e1 with
    | raw g _ => exact ⟨c', oc, vs, tk, rfl, g, e2, e3⟩
  · intro s cvs _ hlen
    rw [List.append_nil]
    exact bind_simple p1 rfl (List.nodup_append.mp (List.nodup_append.mp hi_nodup).1).1 (by rw [hlen]; rfl)
  · exact (List.nodup_append.mp (List.nodup_append.mp hi_nodup).1).1
  · intro L
    have ev : (hiPs.map (·, VK.loc) ++ (hiRest.map (·, VK.loc) ++ [(selfS, VK.ref c)])).map (·.1) = hiPs ++ hiRest ++ [selfS] := rfl
    refine feok_gen p5 rfl rfl (by rw [ev]; exact hi_nodup) (fun x hx => ?_) (fun x c₂ hx => ?_) (fun x c₂ hx => ?_) (by rw [ev]; exact hi_dbg)
    · refine p11 x ?_
      simp only [List.mem_append, List.mem_map, List.mem_singleton] at hx ⊢
      rcases hx with ⟨y, hy, e⟩ | ⟨y, hy, e⟩ | e
      · cases e; exact .inl hy
      · cases e; exact .inr hy
      · cases e
    · simp only [List.mem_append, List.mem_map, List.mem_singleton] at hx
      rcases hx with ⟨y, hy, e⟩ | ⟨y, hy, e⟩ | e
      · cases e
      · cases e
      · cases e; exact ⟨.inr p10, by show List.lookup selfS [(selfS, c)] = _; simp [List.lookup]⟩
    · simp only [List.mem_append, List.mem_map, List.mem_singleton] at hx
      rcases hx with ⟨y, hy, e⟩ | ⟨y, hy, e⟩ | e <;> cases e
  · intro L
    refine sc_gen rfl (fun _ h => h) (fun _ h => h) ?_
    rw [List.all_eq_true]
    intro p hp
    exact beq_iff_eq.mpr (p12 p hp)
  · intro j x c₂ hx
    rcases rest_get j x _ hx with ⟨e, _⟩ | ⟨e, _⟩ <;> cases e
  · intro j x v hx hv
    rcases rest_get j x _ hx with ⟨_, hj⟩ | ⟨e, _⟩
    · rw [List.getElem?_append_left (by simpa using hj), List.getElem?_replicate] at hv
      split at hv <;> cases hv
    · cases e
  · intro Γ frz σ s r hm j x c₂ hx
    rcases rest_get j x _ hx with ⟨e, _⟩ | ⟨e, rfl, rfl⟩
    · cases e
    · cases e
      have kf : frz c = some co := r.hkeep c co (by show frzAdd _ _ _ _ = _; simp [frzAdd])
      refine ⟨co, _, ?_, r.hfrz _ _ kf, hco, fun v hv => ?_⟩
      · cases z : σ.mem c with
        | none => rfl
        | some o => rw [r.hmemF _ _ z] at kf; cases kf
      · cases hv
        exact ⟨_, rfl, .obj t⟩
  · intro x hx e
    have := p8 x hx
    rw [e] at this; cases this
  · intro x hx
    exact p11 x (List.mem_append_left _ hx)
  · exact w_halfI (pcI cls) (fun _ _ _ _ h => h) t d fs long short i m hl hs h0 hi hI hD hF1 hF2 Q qq
end
end Mine
set_option autoImplicit false
set_option maxRecDepth 10000
set_option linter.unusedVariables false
set_option linter.unusedSimpArgs false
namespace Mine
open PySem PyProof.Rows PySem.W

noncomputable def hmPs2 : List PySem.Str := ["text1", "text2"]
noncomputable def hmC (fns meths : List String) : SC := ⟨(selfS, true) :: (hmPs2 ++ m_diff_halfMatchRest).map (·, false), m_diff_halfMatchNames, fns, meths⟩
structure Nest where
  params : Arguments
  body : List Stmt
  scope : Scope
  pos : Pos
noncomputable def hiName : PySem.Str := "diff_halfMatchI"
noncomputable def nestOf (fd : FuncData) : Option Nest := match (bodyOf fd)[3]? with
  | some (Stmt.FunctionDef name ps bd [] none [] sc none bind pos) => if name = hiName ∧ bind = hiName then some ⟨ps, bd, sc, pos⟩ else none
  | _ => none
theorem nest_stmt {fd : FuncData} {n : Nest} (h : nestOf fd = some n) : bodyOf fd = (bodyOf fd).take 3 ++ (.FunctionDef hiName n.params n.body [] none [] n.scope none hiName n.pos :: (bodyOf fd).drop 4) := by
  unfold nestOf at h
  split at h
  · rename_i name ps bd sc bind pos e
    split at h
    · rename_i c
      obtain ⟨rfl, rfl⟩ := c
      cases h
      have := List.take_append_drop 3 (bodyOf fd)
      conv => lhs; rw [← this]
      obtain ⟨hi, e2⟩ := List.getElem?_eq_some_iff.mp e
      rw [List.drop_eq_getElem_cons hi, e2]
    · cases h
  · cases h

noncomputable def hmChk (K : Frag) (f : Addr) (fns meths : List String) (c : Addr) : Bool := match fnOf K f with
  | some fd => fdOk K fd m_diff_halfMatchPs && isStmts fd && fd.closure.isEmpty && cellL fd.scope.names == [selfS] && fd.scope.names.lookup selfS == some .cell && locOk fd (hmPs2 ++ m_diff_halfMatchRest) &&
      m_diff_halfMatchNames.all (fun p => fd.scope.names.lookup p.1 == some p.2) && fd.code == .ref c && chkSs (hmC fns meths) m_diff_halfMatchPre ((bodyOf fd).take 3) && chkSs (hmC fns meths) m_diff_halfMatchPost ((bodyOf fd).drop 4) &&
      (match nestOf fd with
        | some n => hiChk n.params n.body n.scope fns meths
        | none => false)
  | none => false
noncomputable def hmFd (K : Frag) (f : Addr) : FuncData := (fnOf K f).getD default
noncomputable def hmPos (K : Frag) (f : Addr) : Pos := ((nestOf (hmFd K f)).map (·.pos)).getD ⟨0, 0, 0, 0⟩
noncomputable def hmQ (K : Frag) (f : Addr) : PySem.Str := (hmFd K f).qualname ++ ".<locals>." ++ hiName

theorem hm_self : selfS ∉ hmPs2 ++ m_diff_halfMatchRest := by
  have h : (hmPs2 ++ m_diff_halfMatchRest).contains selfS = false := by decide +kernel
  intro q
  rw [List.contains_iff_mem.mpr q] at h; cases h

/-- what the method's second part may call -/
noncomputable def pcL (cls : Addr) (G : GS) (A : Around) (c : Addr) (co : Obj) (m : Mem) (f : Addr) (long short : Tx) : PC := { pcOf cls with
  loc := fun v vs Q m' => m' = m ∧ v = .obj f ∧ ∃ i : Nat, vs = [.str long, .str short, .int i] ∧ i + long.length / 4 ≤ long.length ∧ Q (fiveV (hmI long short i)) m }

section
variable {G : GS} {A : Around} {cls : Addr}

theorem annNone : ∀ {as : List Arg} (env : Env), (∀ a ∈ as, a.annotation.isNone = true) → annotationsOf as env = []
  | [], _, _ => rfl
  | ⟨n, none, p⟩ :: r, env, h => by
    have := annNone (as := r) env fun a ha => h a (List.mem_cons_of_mem _ ha)
    show annotationsOf r env = []
    exact this
  | ⟨n, some a, p⟩ :: r, env, h => by have := h _ (List.mem_cons_self); cases this

theorem call_hm (b : Base G (pcOf cls)) (hcp : ChkCP G cls = true) {c91 P : Addr} {f : Addr} (h : hmChk G.K f G.fns G.meths c91 = true)
    (T : BM G) (C : CodeHd G.base c91 P) (lv : Lv A 3) {t d : Addr} {fs : List (PySem.Str × V)} {t1 t2 : Tx} {lim : Int} {m : Mem} {Q : V → Mem → Prop} (h1 : small t1.length) (h2 : small t2.length)
    (hI : m t = some (.inst cls d)) (hD : m d = some (.dict fs)) (hL : lookF "Diff_Timeout" fs = some (.int lim)) (hF1 : lookF "diff_commonPrefix" fs = none) (hF2 : lookF "diff_commonSuffix" fs = none) (hT : Tab (hmPos G.K f) (hmQ G.K f) P m)
    (q : ∀ m', Tab (hmPos G.K f) (hmQ G.K f) P m' → (∀ a o, a ≠ P → m a = some o → m' a = some o) → Q (if lim ≤ 0 then .none else fiveV (hmBoth t1 t2)) m') : CallC G A (.ref f) [.obj t, .str t1, .str t2] Q m := by
  unfold hmChk at h
  split at h
  · rename_i fd hfd
    have hfd' := hfd
    unfold fnOf at hfd'
    split at hfd'
    · rename_i oc od fd' sl hK
      cases hfd'
      have efd : hmFd G.K f = fd := by unfold hmFd; rw [hfd]; rfl
      simp only [Bool.and_eq_true, List.isEmpty_iff, fdOk, beq_iff_eq, Bool.not_eq_true'] at h
      obtain ⟨⟨⟨⟨⟨⟨⟨⟨⟨⟨⟨⟨⟨⟨⟨⟨⟨g1, g2⟩, g3⟩, g4⟩, g5⟩, g6⟩, g7⟩, g8⟩, g9⟩, g10⟩, g11⟩, g12⟩, g13⟩, g14⟩, g15⟩, g16⟩, g17⟩, g18⟩ := h
      split at g18
      · rename_i n hn
        have hpos : hmPos G.K f = n.pos := by unfold hmPos; rw [efd, hn]; rfl
        have hb : fd.body = .stmts (bodyOf fd) := by
          unfold isStmts at g9; unfold bodyOf
          split at g9
          · rename_i b e; rw [e]
          · cases g9
        have hgi := g18
        unfold hiChk at hgi
        simp only [Bool.and_eq_true, List.isEmpty_iff, beq_iff_eq, Bool.not_eq_true', List.all_eq_true] at hgi
        obtain ⟨⟨⟨⟨⟨⟨⟨⟨⟨⟨⟨⟨p1, p2⟩, p3⟩, p4⟩, p5⟩, p6⟩, p7⟩, p8⟩, p9⟩, p10⟩, p11⟩, p12⟩, p13⟩ := hgi
        have hloc := g13
        unfold locOk at g13
        simp only [Bool.and_eq_true, List.all_eq_true, Bool.not_eq_true', beq_iff_eq] at g13
        obtain ⟨hnd0, hlk⟩ := g13
        have hnd := nodupS_of hnd0
        refine call_selfW (ps := hmPs2) (rest := m_diff_halfMatchRest) (vs := [.str t1, .str t2]) (body := bodyOf fd) b.gok lv.room hK g1 hb g4 g5 g10 rfl (fun k => cells_one _ _ g11) g12 hloc hm_self g6 g7 g8 ?_
        intro L c co hco hLc hcL
        have hcl : (callEnvC fd L f).cells.lookup selfS = some c := by
          show (cellsFrom (L + 1) fd.scope.names []).lookup selfS = _
          rw [cells_one _ _ g11, hcL]; simp [List.lookup]
        have ev : ((selfS, VK.ref c) :: (hmPs2 ++ m_diff_halfMatchRest).map (·, VK.loc)).map (·.1) = selfS :: (hmPs2 ++ m_diff_halfMatchRest) := rfl
        have ok : FE.ok ⟨callEnvC fd L f, (selfS, .ref c) :: (hmPs2 ++ m_diff_halfMatchRest).map (·, .loc)⟩ := by
          refine feok_gen g8 g2 g3 (by rw [ev]; exact List.nodup_cons.mpr ⟨hm_self, hnd⟩) (fun x hx => ?_) (fun x c₂ hx => ?_) (fun x c₂ hx => ?_) ?_
          · rcases List.mem_cons.mp hx with e | hx
            · cases e
            · obtain ⟨y, hy, e⟩ := List.mem_map.mp hx; cases e; exact (hlk _ hy).1.1
          · rcases List.mem_cons.mp hx with e | hx
            · cases e; exact ⟨.inl g12, hcl⟩
            · obtain ⟨y, hy, e⟩ := List.mem_map.mp hx; cases e
          · rcases List.mem_cons.mp hx with e | hx
            · cases e
            · obtain ⟨y, hy, e⟩ := List.mem_map.mp hx; cases e
          · rw [ev]; intro x hx
            rcases List.mem_cons.mp hx with rfl | hx
            · decide +kernel
            · exact ⟨(hlk x hx).1.2, (hlk x hx).2⟩
        have hC : (hmC G.fns G.meths).ok (G.with c co) ⟨callEnvC fd L f, (selfS, .ref c) :: (hmPs2 ++ m_diff_halfMatchRest).map (·, .loc)⟩ := sc_gen rfl (fun _ h => h) (fun _ h => h) g14
        rw [nest_stmt hn]
        have bw := b.with c co
        refine sound_app bw.gok bw.gbi (lv.deeper _).rm ok hC (run0 bw) _ _ g16 ?_
        refine w_hmPre (pcOf cls) t d fs t1 t2 lim m h1 h2 hI hD hL rfl _ (fun hl σ' hm => ?_) (fun hl long short he hg σ' hm => ?_) fun hl long short he hg => ?_
        · have := q m hT fun _ _ _ h => h
          rw [if_pos hl] at this
          show Q .none σ'.mem
          rw [hm]; exact this
        · have := q m hT fun _ _ _ h => h
          rw [if_neg (by omega)] at this
          have hz : hmBoth t1 t2 = none := by
            unfold hmBoth
            split at he <;> cases he
            · rename_i cc; rw [if_pos cc]; unfold hmMain; rw [if_pos hg]
            · rename_i cc; rw [if_neg cc]; unfold hmMain; rw [if_pos hg]; rfl
          rw [hz] at this
          show Q .none σ'.mem
          rw [hm]; exact this
        · show WF _ _ _ (execs (_ :: _) _) _ _
          have hls : small long.length ∧ small short.length := by split at he <;> cases he <;> exact ⟨by assumption, by assumption⟩
          have hq0 : qualnameIn (callEnvC fd L f) hiName hiName = hmQ G.K f := by
            have hk : (callEnvC fd L f).kindOf hiName = some .local := (hlk hiName (by decide +kernel)).1.1
            unfold qualnameIn
            rw [hk, if_neg (by decide)]
            unfold hmQ; rw [efd]; rfl
          intro frz s r
          rw [arm_execs_cons]
          have nest := s_nest (G := G.with c co) (A := A.deeper (callEnvC fd L f)) (Γ := ⟨callEnvC fd L f, (selfS, .ref c) :: (hmPs2 ++ m_diff_halfMatchRest).map (·, .loc)⟩) (i := 5) (k := .loc) (q := hmQ G.K f) (pos := n.pos) (clos := [(selfS, c)])
            (σ := ⟨[some (.obj t), some (.str t1), some (.str t2), some (.str long), some (.str short), none, none, none, none, none, none, none, none, none], m⟩)
            (Q := fun fl σ' => fl = .next ∧ ∃ fI c' ctv doc pm m', σ' = ⟨[some (.obj t), some (.str t1), some (.str t2), some (.str long), some (.str short), some (.obj fI), none, none, none, none, none, none, none, none], m'⟩ ∧
              m' fI = some (.raw (fnMade hiName (hmQ G.K f) n.params n.body n.scope [(selfS, c)] doc pm c' ctv)) ∧ CodeAt m' c' (hmQ G.K f) ∧ Tab (hmPos G.K f) (hmQ G.K f) P m' ∧ (∀ a o, a ≠ P → m a = some o → m' a = some o))
            bw.gok ok T g15 C p2 p3 (by
              have e1 := annNone (callEnvC fd L f) p4
              unfold parOk at p1
              simp only [Bool.and_eq_true, List.isEmpty_iff, Option.isNone_iff_eq_none, beq_iff_eq] at p1
              obtain ⟨⟨⟨⟨o1, o2⟩, o3⟩, o4⟩, o5⟩ := p1
              unfold annTrees
              generalize n.params = pp at *
              obtain ⟨po, a, va, ko, kd, kwa, df⟩ := pp
              dsimp only at o1 o2 o3 o4 e1 ⊢
              subst o1; subst o2; subst o3; subst o4
              simp only [List.append_nil, Option.toList]
              rw [e1]; rfl) hq0 (closure_one p9 hcl) rfl (fun _ h => by cases h) (by rw [← hpos]; exact hT)
            (fun fI c' ctv doc m' hfr hfI hcd hT' hup => ⟨rfl, fI, c', ctv, doc, _, m', rfl, hfI, hcd, by rw [hpos]; exact hT', hup⟩)
          refine wpAny_bind (nest.then r fun cf fl σ₁ s₁ a1 r1 t1' w1 => ?_)
          obtain ⟨rfl, fI, c', ctv, doc, pm, m', rfl, hfI, hcd, hT', hup⟩ := w1
          cases a1
          obtain ⟨ps0, hgr⟩ := hT.grown
          have neP : ∀ a o, m a = some o → (∀ x, o ≠ .raw x) → a ≠ P := fun a o e hne z => by
            subst z; rw [hgr] at e; cases e; exact hne _ rfl
          have hI' := hup t _ (neP t _ hI (fun _ h => by cases h)) hI
          have hD' := hup d _ (neP d _ hD (fun _ h => by cases h)) hD
          have run : (pcL cls G A c co m' fI long short).run (G.with c co) (A.deeper (callEnvC fd L f)) := by
            refine run_mk (bw.swap rfl rfl rfl) (fun _ _ _ _ _ h => h.elim) (fun _ _ _ _ _ h => h.elim) fun v vs Q' m'' hh => ?_
            obtain ⟨rfl, rfl, i, rfl, hi, qq⟩ := hh
            exact ⟨fI, _, _, rfl, hfI, rfl, (call_inner b hcp hco g18 (lv.deeper _) hfI hcd hls.1 hls.2 (by omega) hi hI' hD' hF1 hF2 qq).toS⟩
          have qf := q m' hT' hup
          rw [if_neg (by omega)] at qf
          have w := w_hmPost (pcL cls G A c co m' fI long short) t fI t1 t2 long short m' h1 h2 he hg (fun i Q' hi qq => ⟨rfl, rfl, i, rfl, hi, qq⟩) Q qf
          exact wpAny_mono (soundSs bw.gok bw.gbi (lv.deeper _).rm ok hC run _ _ g17 w frz s₁ r1) (fun fl s₂ z => z.after t1') fun _ _ x => x
      · cases g18
    · cases hfd'
  · cases h
end
end Mine
set_option autoImplicit false
set_option maxRecDepth 10000
set_option linter.unusedVariables false
set_option linter.unusedSimpArgs false
namespace Mine
open PySem PyProof.Rows PySem.W

theorem lcs_snoc (p s : Tx) (x y : Char) : lcs (p ++ [x]) (s ++ [y]) = if x = y then lcs p s + 1 else 0 := by
  unfold lcs; simp [lcp]
theorem lcs_nil (s : Tx) : lcs [] s = 0 := by unfold lcs; simp [lcp]
theorem lcs_nil' (s : Tx) : lcs s [] = 0 := by unfold lcs; cases s.reverse <;> simp [lcp]
noncomputable def rowI (p s : Tx) : List Int := (List.range (s.length + 1)).map fun k => ((lcs p (s.take k) : Nat) : Int)
noncomputable def rowTo (p s : Tx) (n : Nat) : List Int := (List.range (n + 1)).map fun k => ((lcs p (s.take k) : Nat) : Int)
theorem rowTo_succ (p s : Tx) (n : Nat) : rowTo p s (n + 1) = rowTo p s n ++ [((lcs p (s.take (n + 1)) : Nat) : Int)] := by
  unfold rowTo; rw [List.range_succ, List.map_append]; rfl
theorem row_len (p s : Tx) : (rowI p s).length = s.length + 1 := by simp [rowI]
theorem row_get (p s : Tx) {k : Nat} (h : k ≤ s.length) : (rowI p s)[k]? = some ((lcs p (s.take k) : Nat) : Int) := by
  unfold rowI; rw [List.getElem?_map, List.getElem?_range (by omega)]; rfl
theorem row_zero (s : Tx) : (rowI [] s).map V.int = List.replicate (s.length + 1) (V.int 0) := by
  apply List.ext_getElem?
  intro k
  rw [List.getElem?_map, List.getElem?_replicate]
  by_cases hk : k < s.length + 1
  · rw [row_get [] s (by omega), if_pos hk, lcs_nil]; rfl
  · rw [if_neg hk, List.getElem?_eq_none (by rw [row_len]; omega)]; rfl

/-- the longest run that stands in both -/
noncomputable def IsRun (a b : Tx) (R : Nat) : Prop := (∀ t k, lcs (a.take t) (b.take k) ≤ R) ∧ ∃ t k, lcs (a.take t) (b.take k) = R
theorem IsRun.uniq {a b : Tx} {R R' : Nat} (h : IsRun a b R) (h' : IsRun a b R') : R = R' := by
  obtain ⟨t, k, e⟩ := h.2
  obtain ⟨t', k', e'⟩ := h'.2
  have := h'.1 t k
  have := h.1 t' k'
  omega

noncomputable def f_law_longest_runPs : List PySem.Str := ["first", "second"]
noncomputable def f_law_longest_runRest : List PySem.Str := ["best", "row", "sign", "new", "place"]
noncomputable def f_law_longest_runNames : List (PySem.Str × NameKind) := [("len", .globalImplicit), ("range", .globalImplicit), ("max", .globalImplicit)]
noncomputable def f_lrIn : List Sm := [.expr (.me (.var 5) .append [.ite (.cmp (.idx (.var 1) (.var 6)) [.Eq] [.var 4]) (.bin .Add (.idx (.var 3) (.var 6)) (.lit (.int 1))) (.lit (.int 0))])]
noncomputable def f_lrOut : List Sm := [
      .assign [.var 5] (.list [.lit (.int 0)]),
      .fr (.var 6) (.bi .range [.bi .len [.var 1]]) f_lrIn,
      .assign [.var 3] (.var 5),
      .assign [.var 2] (.bi .max [.var 2, .bi .max [.var 3]])]
noncomputable def f_law_longest_runBody : List Sm := [
    .assign [.var 2] (.lit (.int 0)),
    .assign [.var 3] (.bin .Mult (.list [.lit (.int 0)]) (.bin .Add (.bi .len [.var 1]) (.lit (.int 1)))),
    .fr (.var 4) (.var 0) f_lrOut,
    .ret (.var 2)]

abbrev Ext (m m' : Mem) : Prop := ∀ a o, m a = some o → m' a = some o
theorem Ext.upd {m m' : Mem} {a : Addr} {o : O} (h : Ext m m') (e : m a = none) : Ext m (upd m' a o) := fun b x hb => by
  rw [upd_ne _ _ (fun q => by subst q; rw [e] at hb; cases hb)]; exact h b x hb

theorem Ext.new {m m' : Mem} {a : Addr} {o : O} (h : Ext m m') (e : m' a = none) : Ext m (Mine.upd m' a o) := fun b x hb => by
  have := h b x hb
  rw [upd_ne _ _ (fun q => by subst q; rw [e] at this; cases this)]; exact this

theorem lr_inner (P : PC) (m₀ : Mem) (first second : Tx) (p : Tx) (c : Char) (B : Int) (r nw : Addr) (Q : Fl → St → Prop) (hs : small second.length) (hne : r ≠ nw) : ∀ (n x : Nat), x + n = second.length → ∀ (pl : Option V) (m : Mem),
    Ext m₀ m → m₀ nw = none → m r = some (.list ((rowI p second).map V.int)) → m nw = some (.list ((rowTo (p ++ [c]) second x).map V.int)) →
    (∀ (pl : Option V) (m : Mem), Ext m₀ m → m r = some (.list ((rowI p second).map V.int)) → m nw = some (.list ((rowI (p ++ [c]) second).map V.int)) → Q .next ⟨[some (.str first), some (.str second), some (.int B), some (.obj r), some (.str [c]), some (.obj nw), pl], m⟩) →
    wpLoop (wpTg P (.var 6)) (wpSs P f_lrIn) (fun _ => True) Q (rngFrom (x : Int) 1 n) ⟨[some (.str first), some (.str second), some (.int B), some (.obj r), some (.str [c]), some (.obj nw), pl], m⟩
  | 0, x, hx, pl, m, hE, hfr, hr, hn, k => by
    have : x = second.length := by omega
    subst this
    exact ⟨trivial, k pl m hE hr hn⟩
  | n + 1, x, hx, pl, m, hE, hfr, hr, hn, k => by
    refine ⟨trivial, ?_⟩
    have hxl : x < second.length := by omega
    have hgc : pyGet second (x : Int) = some second[x] := by rw [pyGet_nn _ _ hxl]; simp [hxl]
    have hgr : pyGet ((rowI p second).map V.int) (x : Int) = some (.int ((lcs p (second.take x) : Nat) : Int)) := by
      rw [pyGet_nn _ _ (by rw [List.length_map, row_len]; omega), List.getElem?_map, row_get p second (by omega)]; rfl
    have tx : tiny (x : Int) := by unfold tiny; unfold small at hs; omega
    have sz : small ((rowTo (p ++ [c]) second x).map V.int).length := by unfold small at *; simp [rowTo]; omega
    have htk : second.take (x + 1) = second.take x ++ [second[x]] := by rw [List.take_add_one, List.getElem?_eq_getElem hxl]; rfl
    have hnew : ((lcs (p ++ [c]) (second.take (x + 1)) : Nat) : Int) = if second[x] = c then ((lcs p (second.take x) : Nat) : Int) + 1 else 0 := by
      rw [htk, lcs_snoc]
      by_cases e : c = second[x]
      · rw [if_pos e, if_pos e.symm]; omega
      · rw [if_neg e, if_neg (Ne.symm e)]; rfl
    have cont : ∀ v : Int, v = ((lcs (p ++ [c]) (second.take (x + 1)) : Nat) : Int) → wpLoop (wpTg P (.var 6)) (wpSs P f_lrIn) (fun _ => True) Q (rngFrom ((x : Int) + 1) 1 n)
        ⟨[some (.str first), some (.str second), some (.int B), some (.obj r), some (.str [c]), some (.obj nw), some (.int x)], upd m nw (.list ((rowTo (p ++ [c]) second x).map V.int ++ [V.int v]))⟩ := fun v hv => by
      subst hv
      have := lr_inner P m₀ first second p c B r nw Q hs hne n (x + 1) (by omega) (some (.int x)) (upd m nw (.list ((rowTo (p ++ [c]) second x).map V.int ++ [V.int ((lcs (p ++ [c]) (second.take (x + 1)) : Nat) : Int)])))
        (hE.upd hfr) hfr (by rw [upd_ne _ _ hne]; exact hr) (by rw [upd_self, rowTo_succ, List.map_append]; rfl) k
      rw [show (((x + 1 : Nat)) : Int) = (x : Int) + 1 by omega] at this
      exact this
    generalize wpLoop (wpTg P (.var 6)) (wpSs P f_lrIn) (fun _ => True) Q (rngFrom ((x : Int) + 1) 1 n) = L at cont ⊢
    unfold f_lrIn
    simp only [wpSs, wpS, wpE, wpEs, wpT, wpTs, wpCh, wpBo, wpTgs, tg_var, tg_tup, bin_add, bin_sub, bin_mul, bin_div, bin_mod, bin_cat, bin_rep, cmp_eqi, cmp_eqs, cmp_nei, cmp_nes, cmp_lt, cmp_le, cmp_gt, cmp_ge, cmp_isn, cmp_ist, cmp_notn, cmp_nott, cmp_eqo, cmp_neo, tr_none, tr_bool, tr_int, tr_str, tr_tup, ix_str, ix_tup, ix_lst, sl_ii, sl_in, sl_ni, sl_lni, bi_lens, bi_lent, bi_leno, bi_min, bi_max, bi_maxl, bi_rng, bi_rng2, bi_lstt, me_find, me_find2, me_app, ok_find, ok_app, it_str, it_rng, it_lst, neg_int, St.set, St.setAll, List.map_cons, List.map_nil, List.replicate, List.cons_append, List.nil_append, List.getElem?_cons_succ, List.getElem?_cons_zero, List.set_cons_succ, List.set_cons_zero, Option.some.injEq, exists_eq_left', exists_eq_left, true_and, and_true, retV, if_true, if_false, Bool.false_eq_true, decide_eq_true_eq, Bool.not_true, Bool.not_false, Bool.not_eq_true', decide_eq_false_iff_not, List.length_cons, List.length_nil, reduceIte, reduceCtorEq]
    refine ⟨⟨_, hn⟩, tx, _, hgc, ?_⟩
    by_cases e : second[x] = c
    · rw [if_pos (by rw [e])]
      refine ⟨tx, _, _, hr, hgr, _, hn, sz, ?_⟩
      exact cont _ (by rw [hnew, if_pos e])
    · rw [if_neg (by simpa using e)]
      refine ⟨_, hn, sz, ?_⟩
      exact cont _ (by rw [hnew, if_neg e])

theorem rng_one (n : Nat) : rngL 0 (n : Int) 1 = rngFrom ((0 : Nat) : Int) 1 n := by
  unfold rngL Builtin.Range.rangeSize
  rw [if_pos (by omega)]
  congr 1
  split <;> omega
theorem row_nil (p s : Tx) : (rowTo p s 0).map V.int = [V.int 0] := by
  unfold rowTo
  simp [lcs_nil']
theorem row_mem {p s : Tx} {M : Int} (h : M ∈ rowI p s) : ∃ k : Nat, k ≤ s.length ∧ M = ((lcs p (s.take k) : Nat) : Int) := by
  unfold rowI at h
  obtain ⟨k, hk, e⟩ := List.mem_map.mp h
  exact ⟨k, by have := List.mem_range.mp hk; omega, e.symm⟩
theorem mem_row {p s : Tx} (k : Nat) (h : k ≤ s.length) : ((lcs p (s.take k) : Nat) : Int) ∈ rowI p s :=
  List.mem_map.mpr ⟨k, List.mem_range.mpr (by omega), rfl⟩
theorem take_min {α : Type} (s : List α) (k : Nat) : s.take k = s.take (min k s.length) := by
  by_cases h : k ≤ s.length
  · rw [Nat.min_eq_left h]
  · rw [Nat.min_eq_right (by omega), List.take_of_length_le (by omega), List.take_of_length_le (by omega)]

theorem lr_outer (P : PC) (m₀ : Mem) (first second : Tx) (Q : Fl → St → Prop) (hs : small second.length) : ∀ (rest p : Tx), first = p ++ rest → ∀ (B : Nat) (r : Addr) (x4 x5 x6 : Option V) (m : Mem),
    Ext m₀ m → m r = some (.list ((rowI p second).map V.int)) → (∀ t k, t ≤ p.length → lcs (first.take t) (second.take k) ≤ B) → (∃ t k, lcs (first.take t) (second.take k) = B) →
    (∀ (B : Nat) (r : Addr) (x4 x5 x6 : Option V) (m : Mem), Ext m₀ m → IsRun first second B → Q .next ⟨[some (.str first), some (.str second), some (.int B), some (.obj r), x4, x5, x6], m⟩) →
    wpLoop (wpTg P (.var 4)) (wpSs P f_lrOut) (fun _ => True) Q (rest.map fun c => V.str [c]) ⟨[some (.str first), some (.str second), some (.int B), some (.obj r), x4, x5, x6], m⟩
  | [], p, hp, B, r, x4, x5, x6, m, hE, hr, hB1, hB2, k => by
    refine ⟨trivial, k B r x4 x5 x6 m hE ⟨fun t j => ?_, hB2⟩⟩
    rw [take_min first t]
    exact hB1 _ _ (by rw [hp]; simp; omega)
  | c :: rest, p, hp, B, r, x4, x5, x6, m, hE, hr, hB1, hB2, k => by
    refine ⟨trivial, ?_⟩
    have cont : ∀ (B : Nat) (r : Addr) (x4 x5 x6 : Option V) (m : Mem), Ext m₀ m → m r = some (.list ((rowI (p ++ [c]) second).map V.int)) → (∀ t k, t ≤ (p ++ [c]).length → lcs (first.take t) (second.take k) ≤ B) → (∃ t k, lcs (first.take t) (second.take k) = B) →
        wpLoop (wpTg P (.var 4)) (wpSs P f_lrOut) (fun _ => True) Q (rest.map fun c => V.str [c]) ⟨[some (.str first), some (.str second), some (.int B), some (.obj r), x4, x5, x6], m⟩ := fun B r x4 x5 x6 m h1 h2 h3 h4 =>
      lr_outer P m₀ first second Q hs rest (p ++ [c]) (by rw [hp]; simp) B r x4 x5 x6 m h1 h2 h3 h4 k
    generalize wpLoop (wpTg P (.var 4)) (wpSs P f_lrOut) (fun _ => True) Q (rest.map fun c => V.str [c]) = L at cont ⊢
    have tl : tiny (second.length : Int) := by unfold tiny; unfold small at hs; omega
    have t0 : tiny 0 := by unfold tiny; omega
    have t1 : tiny 1 := by unfold tiny; omega
    unfold f_lrOut
    generalize hin : f_lrIn = inn
    simp only [wpSs, wpS, wpE, wpEs, wpT, wpTs, wpCh, wpBo, wpTgs, tg_var, tg_tup, bin_add, bin_sub, bin_mul, bin_div, bin_mod, bin_cat, bin_rep, cmp_eqi, cmp_eqs, cmp_nei, cmp_nes, cmp_lt, cmp_le, cmp_gt, cmp_ge, cmp_isn, cmp_ist, cmp_notn, cmp_nott, cmp_eqo, cmp_neo, tr_none, tr_bool, tr_int, tr_str, tr_tup, ix_str, ix_tup, ix_lst, sl_ii, sl_in, sl_ni, sl_lni, bi_lens, bi_lent, bi_leno, bi_min, bi_max, bi_maxl, bi_rng, bi_rng2, bi_lstt, me_find, me_find2, me_app, ok_find, ok_app, it_str, it_rng, it_lst, neg_int, St.set, St.setAll, List.map_cons, List.map_nil, List.replicate, List.cons_append, List.nil_append, List.getElem?_cons_succ, List.getElem?_cons_zero, List.set_cons_succ, List.set_cons_zero, Option.some.injEq, exists_eq_left', exists_eq_left, true_and, and_true, retV, if_true, if_false, Bool.false_eq_true, decide_eq_true_eq, Bool.not_true, Bool.not_false, Bool.not_eq_true', decide_eq_false_iff_not, List.length_cons, List.length_nil, reduceIte, reduceCtorEq, hs]
    intro nw hnw
    refine ⟨tl, t0, tl, t1, by omega, ?_⟩
    rw [rng_one, ← hin]
    have hne : r ≠ nw := fun q => by subst q; rw [hnw] at hr; cases hr
    refine lr_inner P m first second p c B r nw _ hs hne second.length 0 (by omega) x6 (upd m nw (.list [V.int 0])) (Ext.upd (fun _ _ h => h) hnw) hnw (by rw [upd_ne _ _ hne]; exact hr) (by rw [upd_self, row_nil]) fun pl m' hE' hr' hn' => ?_
    simp only [wpSs, wpS, wpE, wpEs, wpT, wpTs, wpCh, wpBo, wpTgs, tg_var, tg_tup, bin_add, bin_sub, bin_mul, bin_div, bin_mod, bin_cat, bin_rep, cmp_eqi, cmp_eqs, cmp_nei, cmp_nes, cmp_lt, cmp_le, cmp_gt, cmp_ge, cmp_isn, cmp_ist, cmp_notn, cmp_nott, cmp_eqo, cmp_neo, tr_none, tr_bool, tr_int, tr_str, tr_tup, ix_str, ix_tup, ix_lst, sl_ii, sl_in, sl_ni, sl_lni, bi_lens, bi_lent, bi_leno, bi_min, bi_max, bi_maxl, bi_rng, bi_rng2, bi_lstt, me_find, me_find2, me_app, ok_find, ok_app, it_str, it_rng, it_lst, neg_int, St.set, St.setAll, List.map_cons, List.map_nil, List.replicate, List.cons_append, List.nil_append, List.getElem?_cons_succ, List.getElem?_cons_zero, List.set_cons_succ, List.set_cons_zero, Option.some.injEq, exists_eq_left', exists_eq_left, true_and, and_true, retV, if_true, if_false, Bool.false_eq_true, decide_eq_true_eq, Bool.not_true, Bool.not_false, Bool.not_eq_true', decide_eq_false_iff_not, List.length_cons, List.length_nil, reduceIte, reduceCtorEq]
    refine ⟨rowI (p ++ [c]) second, hn', by rw [row_len]; omega, fun M hM hmax => ?_⟩
    obtain ⟨kM, hkM, rfl⟩ := row_mem hM
    have hlen : first.take (p.length + 1) = p ++ [c] := by rw [hp, show p ++ c :: rest = (p ++ [c]) ++ rest by simp]; exact List.take_left' (by simp)
    have hle : ∀ j, lcs (p ++ [c]) (second.take j) ≤ lcs (p ++ [c]) (second.take kM) := fun j => by
      rw [take_min second j]
      have := hmax _ (mem_row (p := p ++ [c]) (min j second.length) (by omega))
      omega
    have e : (if (B : Int) < ((lcs (p ++ [c]) (second.take kM) : Nat) : Int) then ((lcs (p ++ [c]) (second.take kM) : Nat) : Int) else (B : Int)) = ((max B (lcs (p ++ [c]) (second.take kM)) : Nat) : Int) := by split <;> omega
    rw [e]
    refine cont _ nw _ _ _ m' (fun a o h => hE' a o (hE a o h)) hn' (fun t j ht => ?_) ?_
    · by_cases htp : t ≤ p.length
      · have := hB1 t j htp; omega
      · have : t = p.length + 1 := by simp at ht; omega
        subst this
        rw [hlen]
        have := hle j
        omega
    · by_cases hc : B ≤ lcs (p ++ [c]) (second.take kM)
      · exact ⟨p.length + 1, kM, by rw [hlen]; omega⟩
      · obtain ⟨t, j, e2⟩ := hB2
        exact ⟨t, j, by omega⟩

theorem w_longest (P : PC) (first second : Tx) (m : Mem) (hf : small first.length) (hs : small second.length) (hs1 : second.length < 1000) (Q : V → Mem → Prop) (q : ∀ R m', IsRun first second R → Ext m m' → Q (.int (R : Nat)) m') :
    wpSs P f_law_longest_runBody (fun fl σ' => Q (retV fl) σ'.mem) ⟨[V.str first, V.str second].map some ++ List.replicate 5 none, m⟩ := by
  unfold f_law_longest_runBody
  generalize hout : f_lrOut = out
  simp only [wpSs, wpS, wpE, wpEs, wpT, wpTs, wpCh, wpBo, wpTgs, tg_var, tg_tup, bin_add, bin_sub, bin_mul, bin_div, bin_mod, bin_cat, bin_rep, cmp_eqi, cmp_eqs, cmp_nei, cmp_nes, cmp_lt, cmp_le, cmp_gt, cmp_ge, cmp_isn, cmp_ist, cmp_notn, cmp_nott, cmp_eqo, cmp_neo, tr_none, tr_bool, tr_int, tr_str, tr_tup, ix_str, ix_tup, ix_lst, sl_ii, sl_in, sl_ni, sl_lni, bi_lens, bi_lent, bi_leno, bi_min, bi_max, bi_maxl, bi_rng, bi_rng2, bi_lstt, me_find, me_find2, me_app, ok_find, ok_app, it_str, it_rng, it_lst, neg_int, St.set, St.setAll, List.map_cons, List.map_nil, List.replicate, List.cons_append, List.nil_append, List.getElem?_cons_succ, List.getElem?_cons_zero, List.set_cons_succ, List.set_cons_zero, Option.some.injEq, exists_eq_left', exists_eq_left, true_and, and_true, retV, if_true, if_false, Bool.false_eq_true, decide_eq_true_eq, Bool.not_true, Bool.not_false, Bool.not_eq_true', decide_eq_false_iff_not, List.length_cons, List.length_nil, reduceIte, reduceCtorEq, hs, hf]
  intro a ha
  have t1 : tiny ((second.length : Int) + 1) := by unfold tiny; unfold small at hs; omega
  have s1 : small ((second.length : Int) + 1).toNat := by
    rw [show ((second.length : Int) + 1).toNat = second.length + 1 by omega]
    unfold small; omega
  refine ⟨V.int 0, upd_self _ _ _, t1, s1, fun r hr => ?_⟩
  rw [show ((second.length : Int) + 1).toNat = second.length + 1 by omega, ← row_zero, ← hout]
  refine lr_outer P m first second _ hs first [] rfl 0 r none none none _ ((Ext.upd (fun _ _ h => h) ha).new hr) (upd_self _ _ _) (fun t k ht => ?_) ⟨0, 0, by simp [lcs_nil]⟩ fun B r x4 x5 x6 m' hE hR => ?_
  · have : t = 0 := by simpa using ht
    subst this; simp [lcs_nil]
  · simp only [wpSs, wpS, wpE, wpEs, wpT, wpTs, wpCh, wpBo, wpTgs, tg_var, tg_tup, bin_add, bin_sub, bin_mul, bin_div, bin_mod, bin_cat, bin_rep, cmp_eqi, cmp_eqs, cmp_nei, cmp_nes, cmp_lt, cmp_le, cmp_gt, cmp_ge, cmp_isn, cmp_ist, cmp_notn, cmp_nott, cmp_eqo, cmp_neo, tr_none, tr_bool, tr_int, tr_str, tr_tup, ix_str, ix_tup, ix_lst, sl_ii, sl_in, sl_ni, sl_lni, bi_lens, bi_lent, bi_leno, bi_min, bi_max, bi_maxl, bi_rng, bi_rng2, bi_lstt, me_find, me_find2, me_app, ok_find, ok_app, it_str, it_rng, it_lst, neg_int, St.set, St.setAll, List.map_cons, List.map_nil, List.replicate, List.cons_append, List.nil_append, List.getElem?_cons_succ, List.getElem?_cons_zero, List.set_cons_succ, List.set_cons_zero, Option.some.injEq, exists_eq_left', exists_eq_left, true_and, and_true, retV, if_true, if_false, Bool.false_eq_true, decide_eq_true_eq, Bool.not_true, Bool.not_false, Bool.not_eq_true', decide_eq_false_iff_not, List.length_cons, List.length_nil, reduceIte, reduceCtorEq]
    exact q B m' hR hE
end Mine
set_option autoImplicit false
set_option maxRecDepth 10000
set_option linter.unusedVariables false
set_option linter.unusedSimpArgs false
namespace Mine

theorem lcp_ge : ∀ (x a b : Tx), x.length ≤ lcp (x ++ a) (x ++ b)
  | [], _, _ => by simp
  | c :: x, a, b => by have := lcp_ge x a b; simp [lcp]; omega
theorem lcs_ge (x a b : Tx) : x.length ≤ lcs (a ++ x) (b ++ x) := by
  have := lcp_ge x.reverse a.reverse b.reverse
  unfold lcs; simpa using this
theorem lcp_comm : ∀ a b : Tx, lcp a b = lcp b a
  | [], [] => rfl
  | [], _ :: _ => by simp [lcp]
  | _ :: _, [] => by simp [lcp]
  | a :: as, b :: bs => by
    unfold lcp
    by_cases h : a = b
    · rw [if_pos h, if_pos h.symm, lcp_comm as bs]
    · rw [if_neg h, if_neg (Ne.symm h)]
theorem lcs_comm (a b : Tx) : lcs a b = lcs b a := lcp_comm _ _
theorem IsRun.symm {a b : Tx} {R : Nat} (h : IsRun a b R) : IsRun b a R := by
  obtain ⟨h1, t, k, h2⟩ := h
  exact ⟨fun t k => by rw [lcs_comm]; exact h1 k t, k, t, by rw [lcs_comm]; exact h2⟩

/-- the piece that stands in both -/
theorem lcp_piece (a b : Tx) : a.take (lcp a b) = b.take (lcp a b) := (lcp_iff _ a b (lcp_le a b).1 (lcp_le a b).2).mp (Nat.le_refl _)
theorem lcs_piece (a b : Tx) : a.drop (a.length - lcs a b) = b.drop (b.length - lcs a b) := by
  have h := lcp_piece a.reverse b.reverse
  rw [List.take_reverse, List.take_reverse] at h
  exact List.reverse_inj.mp h

noncomputable def Good (long short : Tx) (f : Five) : Prop := f.1 ++ f.2.2.2.2 ++ f.2.1 = long ∧ f.2.2.1 ++ f.2.2.2.2 ++ f.2.2.2.1 = short
theorem Good.le {long short : Tx} {f : Five} {R : Nat} (h : Good long short f) (hR : IsRun long short R) : f.2.2.2.2.length ≤ R := by
  obtain ⟨a, b⟩ := h
  have := hR.1 (f.1 ++ f.2.2.2.2).length (f.2.2.1 ++ f.2.2.2.2).length
  rw [← a, ← b, List.take_left' rfl, List.take_left' rfl] at this
  exact Nat.le_trans (lcs_ge _ _ _) this

theorem step_com (long short : Tx) (i : Nat) (acc : Option Five) (j : Nat) (hi : i ≤ long.length) (hj : j ≤ short.length) :
    (com (hmStep long short i acc j)).length = max (com acc).length (lcs (long.take i) (short.take j) + lcp (long.drop i) (short.drop j)) := by
  have A := lcs_le (long.take i) (short.take j)
  have B := lcp_le (long.drop i) (short.drop j)
  simp only [List.length_take, List.length_drop] at A B
  unfold hmStep
  split
  · show ((short.drop (j - lcs (long.take i) (short.take j))).take (lcs (long.take i) (short.take j)) ++ (short.drop j).take (lcp (long.drop i) (short.drop j))).length = _
    rw [List.length_append, List.length_take, List.length_take, List.length_drop, List.length_drop]; omega
  · omega

theorem step_good (long short : Tx) (i : Nat) (acc : Option Five) (j : Nat) (hi : i ≤ long.length) (hj : j ≤ short.length) (h : ∀ f, acc = some f → Good long short f) : ∀ f, hmStep long short i acc j = some f → Good long short f := by
  intro f hf
  unfold hmStep at hf
  split at hf
  · cases hf
    have A := lcs_le (long.take i) (short.take j)
    have B := lcp_le (long.drop i) (short.drop j)
    simp only [List.length_take, List.length_drop] at A B
    have P1 := lcs_piece (long.take i) (short.take j)
    have P2 := lcp_piece (long.drop i) (short.drop j)
    generalize lcs (long.take i) (short.take j) = q at *
    generalize lcp (long.drop i) (short.drop j) = p at *
    rw [List.length_take, List.length_take, Nat.min_eq_left hi, Nat.min_eq_left hj, List.drop_take, List.drop_take] at P1
    rw [show i - (i - q) = q by omega, show j - (j - q) = q by omega] at P1
    have glue : ∀ (s : Tx) (k : Nat), q ≤ k → s.take (k - q) ++ ((s.drop (k - q)).take q ++ (s.drop k).take p) ++ s.drop (k + p) = s := fun s k hk => by
      have e1 : (s.drop k).take p ++ s.drop (k + p) = s.drop k := by rw [← List.drop_drop, List.take_append_drop]
      have e2 : (s.drop (k - q)).take q ++ s.drop k = s.drop (k - q) := by
        have := List.take_append_drop q (s.drop (k - q))
        rw [List.drop_drop, show k - q + q = k by omega] at this
        exact this
      rw [List.append_assoc, List.append_assoc, e1, e2, List.take_append_drop]
    refine ⟨?_, glue short j (by omega)⟩
    show long.take (i - q) ++ ((short.drop (j - q)).take q ++ (short.drop j).take p) ++ long.drop (i + p) = long
    rw [← P1, ← P2]
    exact glue long i (by omega)
  · exact h f hf

theorem fold_good (long short : Tx) (i : Nat) (hi : i ≤ long.length) : ∀ (js : List Nat) (acc : Option Five), (∀ j ∈ js, j ≤ short.length) → (∀ f, acc = some f → Good long short f) → ∀ f, js.foldl (hmStep long short i) acc = some f → Good long short f
  | [], acc, _, h => h
  | j :: js, acc, hj, h => fold_good long short i hi js _ (fun k hk => hj k (List.mem_cons_of_mem _ hk)) (step_good long short i acc j hi (hj j (by simp)) h)
theorem fold_ge (long short : Tx) (i : Nat) (hi : i ≤ long.length) : ∀ (js : List Nat) (acc : Option Five), (∀ j ∈ js, j ≤ short.length) → (com acc).length ≤ (com (js.foldl (hmStep long short i) acc)).length ∧
    ∀ j ∈ js, lcs (long.take i) (short.take j) + lcp (long.drop i) (short.drop j) ≤ (com (js.foldl (hmStep long short i) acc)).length
  | [], acc, _ => ⟨Nat.le_refl _, by simp⟩
  | j :: js, acc, hj => by
    obtain ⟨a, b⟩ := fold_ge long short i hi js (hmStep long short i acc j) (fun k hk => hj k (List.mem_cons_of_mem _ hk))
    have s := step_com long short i acc j hi (hj j (by simp))
    rw [List.foldl_cons]
    refine ⟨by omega, fun k hk => ?_⟩
    rcases List.mem_cons.mp hk with rfl | hk
    · omega
    · exact b k hk
theorem occF_le {s t : Tx} {k j : Nat} (h : j ∈ occF s t k) : j ≤ s.length := by
  unfold occF at h
  rw [List.mem_filter] at h
  exact occ_le (occB_iff.mp h.2)
theorem occF_mem {s t : Tx} {j : Nat} (h : Occ s t j) : j ∈ occF s t 0 := by
  unfold occF
  rw [List.mem_filter, List.mem_range'_1]
  have := occ_le h
  exact ⟨by omega, occB_iff.mpr h⟩

theorem hmI_good {long short : Tx} {i : Nat} (hi : i ≤ long.length) {f : Five} (h : hmI long short i = some f) : Good long short f ∧ long.length ≤ f.2.2.2.2.length * 2 := by
  unfold hmI at h
  split at h
  · rename_i c
    refine ⟨fold_good long short i hi _ none (fun j hj => occF_le hj) (by simp) f h, ?_⟩
    unfold hmFold at h c
    rw [h] at c; exact c
  · cases h

/-- a run that covers the seed is found -/
theorem hmI_find {long short : Tx} {i s s' R : Nat} (h1 : s + R ≤ long.length) (h2 : s' + R ≤ short.length) (he : (long.drop s).take R = (short.drop s').take R) (hs : s ≤ i) (hi : i + long.length / 4 ≤ s + R) (h0 : long.length ≤ R * 2) (h4 : 0 < long.length) :
    ∃ f, hmI long short i = some f ∧ R ≤ f.2.2.2.2.length := by
  have hj : s' + (i - s) + long.length / 4 ≤ short.length := by omega
  have sub : ∀ a b : Nat, a + b ≤ R → (long.drop (s + a)).take b = (short.drop (s' + a)).take b := fun a b hab => by
    have := congrArg (fun x : Tx => (x.drop a).take b) he
    simp only [List.drop_take, List.drop_drop, List.take_take] at this
    rw [Nat.min_eq_left (by omega)] at this
    exact this
  have seed : hmSeed long i = (short.drop (s' + (i - s))).take (long.length / 4) := by
    unfold hmSeed
    have := sub (i - s) (long.length / 4) (by omega)
    rw [show s + (i - s) = i by omega] at this
    exact this
  have occ : Occ short (hmSeed long i) (s' + (i - s)) := by
    have hl : (hmSeed long i).length = long.length / 4 := by unfold hmSeed; rw [List.length_take, List.length_drop]; omega
    unfold Occ
    rw [hl]
    exact ⟨hj, seed.symm⟩
  have g := (fold_ge long short i (by omega) (occF short (hmSeed long i) 0) none (fun j hj => occF_le hj)).2 _ (occF_mem occ)
  have c1 : i - s ≤ lcs (long.take i) (short.take (s' + (i - s))) := by
    have e1 : long.take i = long.take s ++ (long.drop s).take (i - s) := by
      have := List.take_append_drop s (long.take i)
      rw [List.take_take, Nat.min_eq_left hs, List.drop_take] at this
      exact this.symm
    have e2 : short.take (s' + (i - s)) = short.take s' ++ (short.drop s').take (i - s) := by
      have := List.take_append_drop s' (short.take (s' + (i - s)))
      rw [List.take_take, Nat.min_eq_left (by omega), List.drop_take, show s' + (i - s) - s' = i - s by omega] at this
      exact this.symm
    have e3 := sub 0 (i - s) (by omega)
    simp only [Nat.add_zero] at e3
    rw [e1, e2, e3]
    have := lcs_ge ((short.drop s').take (i - s)) (long.take s) (short.take s')
    rw [List.length_take, List.length_drop] at this
    omega
  have c2 : s + R - i ≤ lcp (long.drop i) (short.drop (s' + (i - s))) := by
    have e := sub (i - s) (s + R - i) (by omega)
    rw [show s + (i - s) = i by omega] at e
    exact (lcp_iff _ _ _ (by rw [List.length_drop]; omega) (by rw [List.length_drop]; omega)).mpr e
  have big : R ≤ (com (hmFold long short i)).length := by
    have : (com (hmFold long short i)).length = (com ((occF short (hmSeed long i) 0).foldl (hmStep long short i) none)).length := rfl
    omega
  unfold hmI
  rw [if_pos (by omega)]
  cases hf : hmFold long short i with
  | none => rw [hf] at big; simp [com] at big; omega
  | some f => rw [hf] at big; exact ⟨f, rfl, big⟩

theorem hmMain_spec {long short : Tx} {R : Nat} (hR : IsRun long short R) (hls : short.length ≤ long.length) :
    ((long.length < 4 ∨ 2 * R < long.length) → hmMain long short = none) ∧
    (¬ (long.length < 4 ∨ 2 * R < long.length) → ∃ f, hmMain long short = some f ∧ Good long short f ∧ f.2.2.2.2.length = R) := by
  have up : ∀ i, i ≤ long.length → ∀ f, hmI long short i = some f → Good long short f ∧ long.length ≤ f.2.2.2.2.length * 2 ∧ f.2.2.2.2.length ≤ R := fun i hi f h => by
    obtain ⟨a, b⟩ := hmI_good hi h
    exact ⟨a, b, a.le hR⟩
  constructor
  · intro h
    unfold hmMain
    by_cases g : long.length < 4 ∨ short.length * 2 < long.length
    · rw [if_pos g]
    · rw [if_neg g]
      have hn : ∀ i, i ≤ long.length → hmI long short i = none := fun i hi => by
        cases e : hmI long short i with
        | none => rfl
        | some f => obtain ⟨_, a, b⟩ := up i hi f e; omega
      rw [hn _ (by omega), hn _ (by omega)]; rfl
  · intro h
    obtain ⟨t, k, e⟩ := hR.2
    have A := lcs_le (long.take t) (short.take k)
    rw [e] at A
    simp only [List.length_take] at A
    have P1 := lcs_piece (long.take t) (short.take k)
    rw [e, List.length_take, List.length_take, take_min long t, take_min short k] at P1
    generalize hT : min t long.length = T at *
    generalize hK : min k short.length = S at *
    have hTl : T ≤ long.length := by omega
    have hSl : S ≤ short.length := by omega
    rw [List.drop_take, List.drop_take, show T - (T - R) = R by omega, show S - (S - R) = R by omega] at P1
    have g : ¬ (long.length < 4 ∨ short.length * 2 < long.length) := by omega
    have find : (∃ f, hmI long short ((long.length + 3) / 4) = some f ∧ R ≤ f.2.2.2.2.length) ∨ (∃ f, hmI long short ((long.length + 1) / 2) = some f ∧ R ≤ f.2.2.2.2.length) := by
      by_cases c : T - R ≤ (long.length + 3) / 4
      · exact .inl (hmI_find (s := T - R) (s' := S - R) (R := R) (by omega) (by omega) P1 c (by omega) (by omega) (by omega))
      · exact .inr (hmI_find (s := T - R) (s' := S - R) (R := R) (by omega) (by omega) P1 (by omega) (by omega) (by omega) (by omega))
    unfold hmMain
    rw [if_neg g]
    have u1 := up ((long.length + 3) / 4) (by omega)
    have u2 := up ((long.length + 1) / 2) (by omega)
    cases e1 : hmI long short ((long.length + 3) / 4) with
    | none =>
      cases e2 : hmI long short ((long.length + 1) / 2) with
      | none => rw [e1, e2] at find; rcases find with ⟨f, h, _⟩ | ⟨f, h, _⟩ <;> cases h
      | some f2 =>
        rw [e1, e2] at find
        obtain ⟨a, b, c⟩ := u2 f2 e2
        rcases find with ⟨f, h, _⟩ | ⟨f, h, hb⟩
        · cases h
        · cases h; exact ⟨f2, rfl, a, by omega⟩
    | some f1 =>
      obtain ⟨a1, b1, c1⟩ := u1 f1 e1
      cases e2 : hmI long short ((long.length + 1) / 2) with
      | none =>
        rw [e1, e2] at find
        rcases find with ⟨f, h, hb⟩ | ⟨f, h, _⟩
        · cases h; exact ⟨f1, rfl, a1, by omega⟩
        · cases h
      | some f2 =>
        obtain ⟨a2, b2, c2⟩ := u2 f2 e2
        rw [e1, e2] at find
        show ∃ f, (if f2.2.2.2.2.length < f1.2.2.2.2.length then some f1 else some f2) = some f ∧ _
        have : R ≤ f1.2.2.2.2.length ∨ R ≤ f2.2.2.2.2.length := by
          rcases find with ⟨f, h, hb⟩ | ⟨f, h, hb⟩ <;> cases h
          · exact .inl hb
          · exact .inr hb
        by_cases c : f2.2.2.2.2.length < f1.2.2.2.2.length
        · exact ⟨f1, by rw [if_pos c], a1, by omega⟩
        · exact ⟨f2, by rw [if_neg c], a2, by omega⟩

theorem hmBoth_spec {t1 t2 : Tx} {R : Nat} (hR : IsRun t1 t2 R) :
    ((max t1.length t2.length < 4 ∨ 2 * R < max t1.length t2.length) → hmBoth t1 t2 = none) ∧
    (¬ (max t1.length t2.length < 4 ∨ 2 * R < max t1.length t2.length) → ∃ f, hmBoth t1 t2 = some f ∧ Good t1 t2 f ∧ f.2.2.2.2.length = R) := by
  unfold hmBoth
  by_cases c : t2.length < t1.length
  · rw [if_pos c]
    have := hmMain_spec hR (by omega)
    rw [Nat.max_eq_left (by omega)]
    exact this
  · rw [if_neg c]
    have := hmMain_spec hR.symm (by omega)
    rw [Nat.max_eq_right (by omega)]
    refine ⟨fun h => by rw [this.1 h]; rfl, fun h => ?_⟩
    obtain ⟨f, e, ⟨a, b⟩, d⟩ := this.2 h
    exact ⟨flip5 f, by rw [e]; rfl, ⟨b, a⟩, d⟩
theorem hmBoth_flip {t1 t2 : Tx} (h : t1.length ≠ t2.length) : hmBoth t2 t1 = (hmBoth t1 t2).map flip5 := by
  unfold hmBoth
  by_cases c : t2.length < t1.length
  · rw [if_pos c, if_neg (by omega)]
  · rw [if_neg c, if_pos (by omega)]
    cases hmMain t2 t1 <;> rfl
end Mine
set_option autoImplicit false
set_option maxRecDepth 10000
set_option linter.unusedVariables false
set_option linter.unusedSimpArgs false
namespace Mine
open PySem PyProof.Rows PySem.W

noncomputable def f_law_rightPs : List PySem.Str := ["found", "first", "second", "run"]
noncomputable def f_law_rightRest : List PySem.Str := ["longer", "head", "tail", "other_head", "other_tail", "common"]
noncomputable def f_law_rightNames : List (PySem.Str × NameKind) := [("max", .globalImplicit), ("len", .globalImplicit)]
noncomputable def f_law_rightBody : List Sm := [
    .assign [.var 4] (.bi .max [.bi .len [.var 1], .bi .len [.var 2]]),
    .ife (.bor [.cmp (.var 4) [.Lt] [.lit (.int 4)], .cmp (.bin .Mult (.lit (.int 2)) (.var 3)) [.Lt] [.var 4]]) [
      .ret (.cmp (.var 0) [.Is] [.lit .none])] [],
    .ife (.bor [.cmp (.var 0) [.Is] [.lit .none], .cmp (.bi .len [.var 0]) [.NotEq] [.lit (.int 5)]]) [
      .ret (.lit (.bool false))] [],
    .assign [.tup [5, 6, 7, 8, 9]] (.var 0),
    .ife (.bor [.cmp (.bin .Add (.bin .Add (.var 5) (.var 9)) (.var 6)) [.NotEq] [.var 1], .cmp (.bin .Add (.bin .Add (.var 7) (.var 9)) (.var 8)) [.NotEq] [.var 2]]) [
      .ret (.lit (.bool false))] [],
    .ret (.cmp (.bi .len [.var 9]) [.Eq] [.var 3])]

noncomputable def RightOk (a b : Tx) (R : Nat) (o : Option Five) : Prop :=
  ((max a.length b.length < 4 ∨ 2 * R < max a.length b.length) → o = none) ∧ (¬ (max a.length b.length < 4 ∨ 2 * R < max a.length b.length) → ∃ f, o = some f ∧ Good a b f ∧ f.2.2.2.2.length = R)

theorem max_nat (a b : Nat) : (if (a : Int) < (b : Int) then (b : Int) else (a : Int)) = ((max a b : Nat) : Int) := by split <;> omega

theorem w_right (P : PC) (o : Option Five) (a b : Tx) (R : Nat) (m : Mem) (ha : a.length < 1000) (hb : b.length < 1000) (h : RightOk a b R o) (Q : V → Mem → Prop) (q : Q (.bool true) m) :
    wpSs P f_law_rightBody (fun fl σ' => Q (retV fl) σ'.mem) ⟨[fiveV o, V.str a, V.str b, V.int R].map some ++ List.replicate 6 none, m⟩ := by
  have ha' : small a.length := by unfold small; omega
  have hb' : small b.length := by unfold small; omega
  have t2 : tiny 2 := by unfold tiny; omega
  unfold f_law_rightBody
  simp only [wpSs, wpS, wpE, wpEs, wpT, wpTs, wpCh, wpBo, wpTgs, tg_var, tg_tup, bin_add, bin_sub, bin_mul, bin_div, bin_mod, bin_cat, bin_rep, cmp_eqi, cmp_eqs, cmp_nei, cmp_nes, cmp_lt, cmp_le, cmp_gt, cmp_ge, cmp_isn, cmp_ist, cmp_notn, cmp_nott, cmp_eqo, cmp_neo, tr_none, tr_bool, tr_int, tr_str, tr_tup, ix_str, ix_tup, ix_lst, sl_ii, sl_in, sl_ni, sl_lni, bi_lens, bi_lent, bi_leno, bi_min, bi_max, bi_maxl, bi_rng, bi_rng2, bi_lstt, me_find, me_find2, me_app, ok_find, ok_app, it_str, it_rng, it_lst, neg_int, St.set, St.setAll, List.map_cons, List.map_nil, List.replicate, List.cons_append, List.nil_append, List.getElem?_cons_succ, List.getElem?_cons_zero, List.set_cons_succ, List.set_cons_zero, Option.some.injEq, exists_eq_left', exists_eq_left, true_and, and_true, retV, if_true, if_false, Bool.false_eq_true, decide_eq_true_eq, Bool.not_true, Bool.not_false, Bool.not_eq_true', decide_eq_false_iff_not, List.length_cons, List.length_nil, reduceIte, reduceCtorEq, ha', hb', max_nat, t2]
  by_cases c : max a.length b.length < 4 ∨ 2 * R < max a.length b.length
  · have := h.1 c
    subst this
    simp only [fiveV, wpSs, wpS, wpE, wpEs, wpT, wpTs, wpCh, wpBo, wpTgs, tg_var, tg_tup, bin_add, bin_sub, bin_mul, bin_div, bin_mod, bin_cat, bin_rep, cmp_eqi, cmp_eqs, cmp_nei, cmp_nes, cmp_lt, cmp_le, cmp_gt, cmp_ge, cmp_isn, cmp_ist, cmp_notn, cmp_nott, cmp_eqo, cmp_neo, tr_none, tr_bool, tr_int, tr_str, tr_tup, ix_str, ix_tup, ix_lst, sl_ii, sl_in, sl_ni, sl_lni, bi_lens, bi_lent, bi_leno, bi_min, bi_max, bi_maxl, bi_rng, bi_rng2, bi_lstt, me_find, me_find2, me_app, ok_find, ok_app, it_str, it_rng, it_lst, neg_int, St.set, St.setAll, List.map_cons, List.map_nil, List.replicate, List.cons_append, List.nil_append, List.getElem?_cons_succ, List.getElem?_cons_zero, List.set_cons_succ, List.set_cons_zero, Option.some.injEq, exists_eq_left', exists_eq_left, true_and, and_true, retV, if_true, if_false, Bool.false_eq_true, decide_eq_true_eq, Bool.not_true, Bool.not_false, Bool.not_eq_true', decide_eq_false_iff_not, List.length_cons, List.length_nil, reduceIte, reduceCtorEq]
    rcases c with c | c
    · rw [if_neg (by omega)]; exact q
    · by_cases c1 : max a.length b.length < 4
      · rw [if_neg (by omega)]; exact q
      · rw [if_pos (by omega), if_neg (by omega)]; exact q
  · obtain ⟨f, rfl, ⟨g1, g2⟩, hR⟩ := h.2 c
    rw [if_pos (by omega), if_pos (by omega)]
    have s5 : small (0 + 1 + 1 + 1 + 1 + 1) := by unfold small; omega
    have l1 := congrArg List.length g1
    have l2 := congrArg List.length g2
    simp only [List.length_append] at l1 l2
    have z1 : small f.1.length := by unfold small; omega
    have z2 : small f.2.1.length := by unfold small; omega
    have z3 : small f.2.2.1.length := by unfold small; omega
    have z4 : small f.2.2.2.1.length := by unfold small; omega
    have z5 : small f.2.2.2.2.length := by unfold small; omega
    have z6 : small (f.1 ++ f.2.2.2.2).length := by unfold small; rw [List.length_append]; omega
    have z7 : small (f.2.2.1 ++ f.2.2.2.2).length := by unfold small; rw [List.length_append]; omega
    have zR : small R := by rw [← hR]; exact z5
    simp only [fiveV, wpSs, wpS, wpE, wpEs, wpT, wpTs, wpCh, wpBo, wpTgs, tg_var, tg_tup, bin_add, bin_sub, bin_mul, bin_div, bin_mod, bin_cat, bin_rep, cmp_eqi, cmp_eqs, cmp_nei, cmp_nes, cmp_lt, cmp_le, cmp_gt, cmp_ge, cmp_isn, cmp_ist, cmp_notn, cmp_nott, cmp_eqo, cmp_neo, tr_none, tr_bool, tr_int, tr_str, tr_tup, ix_str, ix_tup, ix_lst, sl_ii, sl_in, sl_ni, sl_lni, bi_lens, bi_lent, bi_leno, bi_min, bi_max, bi_maxl, bi_rng, bi_rng2, bi_lstt, me_find, me_find2, me_app, ok_find, ok_app, it_str, it_rng, it_lst, neg_int, St.set, St.setAll, List.map_cons, List.map_nil, List.replicate, List.cons_append, List.nil_append, List.getElem?_cons_succ, List.getElem?_cons_zero, List.set_cons_succ, List.set_cons_zero, Option.some.injEq, exists_eq_left', exists_eq_left, true_and, and_true, retV, if_true, if_false, Bool.false_eq_true, decide_eq_true_eq, Bool.not_true, Bool.not_false, Bool.not_eq_true', decide_eq_false_iff_not, List.length_cons, List.length_nil, reduceIte, reduceCtorEq, s5, z1, z2, z3, z4, z5, z6, z7, g1, g2, decide_true, hR, zR]
    rw [if_pos (by rfl)]
    exact q

noncomputable def toolFs (v : V) : List (PySem.Str × V) := [("Diff_Timeout", v), ("Diff_EditCost", .int 4), ("Match_Threshold", .flt 4602678819172646912), ("Match_Distance", .int 1000), ("Patch_DeleteThreshold", .flt 4602678819172646912), ("Patch_Margin", .int 4), ("Match_MaxBits", .int 32)]
theorem setF_new {n : String} {v : V} : ∀ {fs : List (PySem.Str × V)}, (fs.map (·.1)).contains (PySem.Str.ofString n) = false → setF n v fs = fs ++ [(PySem.Str.ofString n, v)]
  | [], _ => rfl
  | (x, u) :: r, h => by
    simp only [List.map_cons, List.contains_cons, Bool.or_eq_false_iff, beq_eq_false_iff_ne] at h
    unfold setF
    rw [if_neg (Ne.symm h.1), setF_new h.2]; rfl
theorem setF_tool (v u : V) : setF "Diff_Timeout" v (toolFs u) = toolFs v := by unfold toolFs setF; rw [if_pos rfl]
theorem look_tool (v : V) : lookF "Diff_Timeout" (toolFs v) = some v := by unfold toolFs lookF; rw [if_pos rfl]
theorem lookF_none {n : String} : ∀ {fs : List (PySem.Str × V)}, (fs.map (·.1)).contains (PySem.Str.ofString n) = false → lookF n fs = none
  | [], _ => rfl
  | (x, u) :: r, h => by
    simp only [List.map_cons, List.contains_cons, Bool.or_eq_false_iff, beq_eq_false_iff_ne] at h
    unfold lookF
    rw [if_neg (Ne.symm h.1), lookF_none h.2]
noncomputable def toolNames : List PySem.Str := ["Diff_Timeout", "Diff_EditCost", "Match_Threshold", "Match_Distance", "Patch_DeleteThreshold", "Patch_Margin", "Match_MaxBits"]
theorem tool_names (v : V) : (toolFs v).map (·.1) = toolNames := rfl
theorem tool_no_cp (v : V) : lookF "diff_commonPrefix" (toolFs v) = none := lookF_none (by rw [tool_names]; decide +kernel)
theorem tool_no_cs (v : V) : lookF "diff_commonSuffix" (toolFs v) = none := lookF_none (by rw [tool_names]; decide +kernel)
theorem tool_no_hm (v : V) : lookF "diff_halfMatch" (toolFs v) = none := lookF_none (by rw [tool_names]; decide +kernel)

noncomputable def m_initPs : List PySem.Str := ["self"]
noncomputable def m_initRest : List PySem.Str := []
noncomputable def m_initNames : List (PySem.Str × NameKind) := []
noncomputable def m_initBody : List Sm := [
    .assign [.attr (.var 0) "Diff_Timeout"] (.lit (.flt 4607182418800017408)),
    .assign [.attr (.var 0) "Diff_EditCost"] (.lit (.int 4)),
    .assign [.attr (.var 0) "Match_Threshold"] (.lit (.flt 4602678819172646912)),
    .assign [.attr (.var 0) "Match_Distance"] (.lit (.int 1000)),
    .assign [.attr (.var 0) "Patch_DeleteThreshold"] (.lit (.flt 4602678819172646912)),
    .assign [.attr (.var 0) "Patch_Margin"] (.lit (.int 4)),
    .assign [.attr (.var 0) "Match_MaxBits"] (.lit (.int 32))]

theorem tg_attr {P : PC} {σ : St} {o : Ex} {n : String} {v : V} {Q : St → Prop} : wpTg P (.attr o n) v Q σ = wpE P o (fun ov σ₁ => ∃ a d fs, ov = .obj a ∧ σ₁.mem a = some (.inst P.cls d) ∧ σ₁.mem d = some (.dict fs) ∧ fs.length ≤ 100 ∧ P.fld n = true ∧
      Q { σ₁ with mem := upd σ₁.mem d (.dict (setF n v fs)) }) σ := rfl
theorem at_set {P : PC} {m : Mem} {loc : List (Option V)} {t d : Addr} {fs : List (PySem.Str × V)} {n : String} {v : V} {Q : St → Prop} (h1 : m t = some (.inst P.cls d)) (h2 : m d = some (.dict fs)) (h3 : P.fld n = true) (h4 : fs.length ≤ 100)
    (q : Q ⟨loc, upd m d (.dict (setF n v fs))⟩) : ∃ a d' fs', V.obj t = .obj a ∧ m a = some (.inst P.cls d') ∧ m d' = some (.dict fs') ∧ fs'.length ≤ 100 ∧ P.fld n = true ∧ Q ⟨loc, upd m d' (.dict (setF n v fs'))⟩ :=
  ⟨t, d, fs, rfl, h1, h2, h4, h3, q⟩

theorem fld_ok (cls : Addr) (n : String) (h : ["Diff_Timeout", "Diff_EditCost", "Match_Threshold", "Match_Distance", "Patch_DeleteThreshold", "Patch_Margin", "Match_MaxBits"].contains n = true) : (pcOf cls).fld n = true := h
theorem w_init (cls t d : Addr) (m : Mem) (hI : m t = some (.inst cls d)) (hD : m d = some (.dict [])) (Q : V → Mem → Prop) (q : ∀ m', m' t = some (.inst cls d) → m' d = some (.dict (toolFs (.flt 4607182418800017408))) → (∀ a o, a ≠ d → m a = some o → m' a = some o) → Q .none m') :
    wpSs (pcOf cls) m_initBody (fun fl σ' => Q (retV fl) σ'.mem) ⟨[V.obj t].map some ++ List.replicate 0 none, m⟩ := by
  have hne : t ≠ d := fun e => by subst e; rw [hI] at hD; cases hD
  unfold m_initBody
  simp only [wpSs, wpS, wpE, wpEs, wpT, wpTs, wpCh, wpBo, wpTgs, tg_var, tg_tup, bin_add, bin_sub, bin_mul, bin_div, bin_mod, bin_cat, bin_rep, cmp_eqi, cmp_eqs, cmp_nei, cmp_nes, cmp_lt, cmp_le, cmp_gt, cmp_ge, cmp_isn, cmp_ist, cmp_notn, cmp_nott, cmp_eqo, cmp_neo, tr_none, tr_bool, tr_int, tr_str, tr_tup, ix_str, ix_tup, ix_lst, sl_ii, sl_in, sl_ni, sl_lni, bi_lens, bi_lent, bi_leno, bi_min, bi_max, bi_maxl, bi_rng, bi_rng2, bi_lstt, me_find, me_find2, me_app, ok_find, ok_app, it_str, it_rng, it_lst, neg_int, St.set, St.setAll, List.map_cons, List.map_nil, List.replicate, List.cons_append, List.nil_append, List.getElem?_cons_succ, List.getElem?_cons_zero, List.set_cons_succ, List.set_cons_zero, Option.some.injEq, exists_eq_left', exists_eq_left, true_and, and_true, retV, if_true, if_false, Bool.false_eq_true, decide_eq_true_eq, Bool.not_true, Bool.not_false, Bool.not_eq_true', decide_eq_false_iff_not, List.length_cons, List.length_nil, reduceIte, reduceCtorEq, tg_attr]
  have step : ∀ (m : Mem) o, m t = some (.inst cls d) → upd m d o t = some (.inst cls d) := fun m o h => by rw [upd_ne _ _ hne]; exact h
  refine ⟨t, d, _, rfl, hI, hD, by simp [toolFs], fld_ok _ _ (by decide +kernel), ?_⟩
  have e1 : setF "Diff_Timeout" (.flt 4607182418800017408) [] = (toolFs (.flt 4607182418800017408)).take 1 := rfl
  rw [e1]
  have i1 := step m (.dict ((toolFs (.flt 4607182418800017408)).take 1)) hI
  refine ⟨t, d, _, rfl, i1, (upd_self _ _ _), by simp [toolFs], fld_ok _ _ (by decide +kernel), ?_⟩
  have e2 : setF "Diff_EditCost" (.int 4) ((toolFs (.flt 4607182418800017408)).take 1) = (toolFs (.flt 4607182418800017408)).take 2 := by rw [setF_new (by decide +kernel)]; rfl
  rw [e2, upd_upd]
  have i2 := step m (.dict ((toolFs (.flt 4607182418800017408)).take 2)) hI
  refine ⟨t, d, _, rfl, i2, (upd_self _ _ _), by simp [toolFs], fld_ok _ _ (by decide +kernel), ?_⟩
  have e3 : setF "Match_Threshold" (.flt 4602678819172646912) ((toolFs (.flt 4607182418800017408)).take 2) = (toolFs (.flt 4607182418800017408)).take 3 := by rw [setF_new (by decide +kernel)]; rfl
  rw [e3, upd_upd]
  have i3 := step m (.dict ((toolFs (.flt 4607182418800017408)).take 3)) hI
  refine ⟨t, d, _, rfl, i3, (upd_self _ _ _), by simp [toolFs], fld_ok _ _ (by decide +kernel), ?_⟩
  have e4 : setF "Match_Distance" (.int 1000) ((toolFs (.flt 4607182418800017408)).take 3) = (toolFs (.flt 4607182418800017408)).take 4 := by rw [setF_new (by decide +kernel)]; rfl
  rw [e4, upd_upd]
  have i4 := step m (.dict ((toolFs (.flt 4607182418800017408)).take 4)) hI
  refine ⟨t, d, _, rfl, i4, (upd_self _ _ _), by simp [toolFs], fld_ok _ _ (by decide +kernel), ?_⟩
  have e5 : setF "Patch_DeleteThreshold" (.flt 4602678819172646912) ((toolFs (.flt 4607182418800017408)).take 4) = (toolFs (.flt 4607182418800017408)).take 5 := by rw [setF_new (by decide +kernel)]; rfl
  rw [e5, upd_upd]
  have i5 := step m (.dict ((toolFs (.flt 4607182418800017408)).take 5)) hI
  refine ⟨t, d, _, rfl, i5, (upd_self _ _ _), by simp [toolFs], fld_ok _ _ (by decide +kernel), ?_⟩
  have e6 : setF "Patch_Margin" (.int 4) ((toolFs (.flt 4607182418800017408)).take 5) = (toolFs (.flt 4607182418800017408)).take 6 := by rw [setF_new (by decide +kernel)]; rfl
  rw [e6, upd_upd]
  have i6 := step m (.dict ((toolFs (.flt 4607182418800017408)).take 6)) hI
  refine ⟨t, d, _, rfl, i6, (upd_self _ _ _), by simp [toolFs], fld_ok _ _ (by decide +kernel), ?_⟩
  have e7 : setF "Match_MaxBits" (.int 32) ((toolFs (.flt 4607182418800017408)).take 6) = (toolFs (.flt 4607182418800017408)).take 7 := by rw [setF_new (by decide +kernel)]; rfl
  rw [e7, upd_upd]
  have i7 := step m (.dict ((toolFs (.flt 4607182418800017408)).take 7)) hI
  exact q _ i7 (upd_self _ _ _) fun a o ha h => by rw [upd_ne _ _ ha]; exact h
end Mine
set_option autoImplicit false
set_option maxRecDepth 10000
set_option linter.unusedVariables false
set_option linter.unusedSimpArgs false
namespace Mine
open PySem PyProof.Rows PySem.W

/-- what the law's own text calls -/
noncomputable def lawCall (cls : Addr) (n : String) (vs : List V) (Q : V → Mem → Prop) (m : Mem) : Prop :=
  (n = "_law_longest_run" ∧ ∃ a b, vs = [.str a, .str b] ∧ a.length < 1000 ∧ b.length < 1000 ∧ ∀ R m', IsRun a b R → Ext m m' → Q (.int (R : Nat)) m') ∨
  (n = "_law_right" ∧ ∃ o a b R, vs = [fiveV o, .str a, .str b, .int (R : Nat)] ∧ a.length < 1000 ∧ b.length < 1000 ∧ RightOk a b R o ∧ Q (.bool true) m) ∨
  (n = "diff_match_patch" ∧ vs = [] ∧ ∀ x d m', m x = none → m d = none → m' x = some (.inst cls d) → m' d = some (.dict (toolFs (.flt 4607182418800017408))) → Ext m m' → Q (.obj x) m')
noncomputable def lawMeth (cls P : Addr) (pos : Pos) (q : PySem.Str) (n : String) (vs : List V) (Q : V → Mem → Prop) (m : Mem) : Prop :=
  n = "diff_halfMatch" ∧ ∃ t d t1 t2 lim, vs = [.obj t, .str t1, .str t2] ∧ t1.length < 1000 ∧ t2.length < 1000 ∧ m t = some (.inst cls d) ∧ m d = some (.dict (toolFs (.int lim))) ∧ Tab pos q P m ∧
    ∀ m', Tab pos q P m' → (∀ a o, a ≠ P → m a = some o → m' a = some o) → Q (if lim ≤ 0 then .none else fiveV (hmBoth t1 t2)) m'

noncomputable def f_lawPs : List PySem.Str := ["script"]
noncomputable def f_lawRest : List PySem.Str := ["first", "second", "number", "sign", "run", "tool", "one", "two", "limit"]
noncomputable def f_lawNames : List (PySem.Str × NameKind) := [("_law_longest_run", .globalImplicit), ("diff_match_patch", .globalImplicit), ("len", .globalImplicit), ("_law_right", .globalImplicit), ("list", .globalImplicit)]
noncomputable def f_lawIn : List Sm := [
      .assign [.var 4] (.idx (.lit (.str ['a', 'b', 'c'])) (.bin .Mod (.var 3) (.lit (.int 3)))),
      .ife (.cmp (.bin .Mod (.var 3) (.lit (.int 8))) [.NotEq] [.lit (.int 7)]) [
        .assign [.var 1] (.bin .Add (.var 1) (.var 4))] [],
      .ife (.cmp (.bin .Mod (.var 3) (.lit (.int 8))) [.NotEq] [.lit (.int 6)]) [
        .assign [.var 2] (.bin .Add (.var 2) (.var 4))] []]
noncomputable def f_lawA : List Sm := [
    .assign [.tup [1, 2]] (.tup [.lit (.str []), .lit (.str [])]),
    .fr (.var 3) (.slc (.var 0) (.lit .none) (.lit (.int 20)) (.lit .none)) f_lawIn]
noncomputable def f_lawLim : List Sm := [
      .assign [.attr (.var 6) "Diff_Timeout"] (.var 9),
      .ife (.cmp (.imeth (.var 6) "diff_halfMatch" [.var 1, .var 2]) [.IsNot] [.lit .none]) [
        .ret (.lit (.bool false))] []]
noncomputable def f_lawB : List Sm := [
    .assign [.var 5] (.call "_law_longest_run" [.var 1, .var 2]),
    .assign [.var 6] (.call "diff_match_patch" []),
    .assign [.attr (.var 6) "Diff_Timeout"] (.bin .Add (.lit (.int 1)) (.bin .Mod (.bi .len [.var 0]) (.lit (.int 5)))),
    .assign [.var 7] (.imeth (.var 6) "diff_halfMatch" [.var 1, .var 2]),
    .assign [.var 8] (.imeth (.var 6) "diff_halfMatch" [.var 2, .var 1]),
    .ife (.bor [.not (.call "_law_right" [.var 7, .var 1, .var 2, .var 5]), .not (.call "_law_right" [.var 8, .var 2, .var 1, .var 5])]) [
      .ret (.lit (.bool false))] [],
    .ife (.band [.cmp (.var 7) [.IsNot] [.lit .none], .cmp (.bi .len [.var 1]) [.NotEq] [.bi .len [.var 2]]]) [
      .ife (.cmp (.bi .list [.var 7]) [.NotEq] [.list [.idx (.var 8) (.lit (.int 2)), .idx (.var 8) (.lit (.int 3)), .idx (.var 8) (.lit (.int 0)), .idx (.var 8) (.lit (.int 1)), .idx (.var 8) (.lit (.int 4))]]) [
        .ret (.lit (.bool false))] []] [],
    .fr (.var 9) (.list [.lit (.int 0), .neg (.lit (.int 1)), .bin .Sub (.neg (.lit (.int 2))) (.bi .len [.var 0])]) f_lawLim,
    .ret (.lit (.bool true))]
noncomputable def f_lawBody : List Sm := f_lawA ++ f_lawB

theorem abc_get (n : Int) : ∃ c, pyGet ['a', 'b', 'c'] (n % 3) = some c := by
  obtain ⟨k, hk, e⟩ : ∃ k : Nat, k < 3 ∧ n % 3 = (k : Int) := ⟨(n % 3).toNat, by omega, by omega⟩
  rw [e, pyGet_nn _ _ (by simpa using hk)]
  exact ⟨['a', 'b', 'c'][k], by simp [hk]⟩

theorem law_first (P : PC) (Q : Fl → St → Prop) (sc : V) (m : Mem) (g : Mem → Prop) (hg : g m) (r5 r6 r7 r8 r9 : Option V) : ∀ (ns : List Int) (a b : Tx) (x3 x4 : Option V), a.length + ns.length ≤ 20 → b.length + ns.length ≤ 20 →
    (∀ (a b : Tx) (x3 x4 : Option V), a.length ≤ 20 → b.length ≤ 20 → Q .next ⟨[some sc, some (.str a), some (.str b), x3, x4, r5, r6, r7, r8, r9], m⟩) →
    wpLoop (wpTg P (.var 3)) (wpSs P f_lawIn) g Q (ns.map V.int) ⟨[some sc, some (.str a), some (.str b), x3, x4, r5, r6, r7, r8, r9], m⟩
  | [], a, b, x3, x4, h1, h2, k => ⟨hg, k a b x3 x4 (by simpa using h1) (by simpa using h2)⟩
  | n :: ns, a, b, x3, x4, h1, h2, k => by
    simp only [List.length_cons] at h1 h2
    refine ⟨hg, ?_⟩
    have cont := fun (a' b' : Tx) (x3 x4 : Option V) (q1 : a'.length + ns.length ≤ 20) (q2 : b'.length + ns.length ≤ 20) => law_first P Q sc m g hg r5 r6 r7 r8 r9 ns a' b' x3 x4 q1 q2 k
    generalize wpLoop (wpTg P (.var 3)) (wpSs P f_lawIn) g Q (ns.map V.int) = L at cont ⊢
    obtain ⟨c, hc⟩ := abc_get n
    have t3 : tiny (n % 3) := by unfold tiny; omega
    have sa : small a.length := by unfold small; omega
    have sb : small b.length := by unfold small; omega
    have s1 : small (0 + 1) := by unfold small; omega
    unfold f_lawIn
    simp only [wpSs, wpS, wpE, wpEs, wpT, wpTs, wpCh, wpBo, wpTgs, tg_var, tg_tup, bin_add, bin_sub, bin_mul, bin_div, bin_mod, bin_cat, bin_rep, cmp_eqi, cmp_eqs, cmp_nei, cmp_nes, cmp_lt, cmp_le, cmp_gt, cmp_ge, cmp_isn, cmp_ist, cmp_notn, cmp_nott, cmp_eqo, cmp_neo, tr_none, tr_bool, tr_int, tr_str, tr_tup, ix_str, ix_tup, ix_lst, sl_ii, sl_in, sl_ni, sl_lni, bi_lens, bi_lent, bi_leno, bi_min, bi_max, bi_maxl, bi_rng, bi_rng2, bi_lstt, me_find, me_find2, me_app, ok_find, ok_app, it_str, it_rng, it_lst, neg_int, St.set, St.setAll, List.map_cons, List.map_nil, List.replicate, List.cons_append, List.nil_append, List.getElem?_cons_succ, List.getElem?_cons_zero, List.set_cons_succ, List.set_cons_zero, Option.some.injEq, exists_eq_left', exists_eq_left, true_and, and_true, retV, if_true, if_false, Bool.false_eq_true, decide_eq_true_eq, Bool.not_true, Bool.not_false, Bool.not_eq_true', decide_eq_false_iff_not, List.length_cons, List.length_nil, reduceIte, reduceCtorEq]
    refine ⟨by omega, t3, c, hc, by omega, ?_⟩
    by_cases c7 : n % 8 = 7
    · rw [if_neg (by simp [c7])]
      refine ⟨by omega, ?_⟩
      rw [if_pos (by omega)]
      exact ⟨sb, s1, cont _ _ _ _ (by omega) (by simp; omega)⟩
    · rw [if_pos c7]
      refine ⟨sa, s1, by omega, ?_⟩
      by_cases c6 : n % 8 = 6
      · rw [if_neg (by simp [c6])]
        exact cont _ _ _ _ (by simp; omega) (by omega)
      · rw [if_pos c6]
        exact ⟨sb, s1, cont _ _ _ _ (by simp; omega) (by simp; omega)⟩

theorem pySl_20 (ns : List Int) : ∃ ks : List Int, pySl (ns.map V.int) none (some 20) = ks.map V.int ∧ ks.length ≤ 20 := by
  refine ⟨ns.take 20, ?_, by simp; omega⟩
  unfold pySl slLo slHi
  simp only [Option.elim, List.drop_zero, Nat.sub_zero]
  rw [show (20 : Int) = ((20 : Nat) : Int) from rfl, clip_nn, ← take_min, List.map_take]

theorem w_lawA (P : PC) (K : Fl → St → Prop) (sc : Addr) (ns : List Int) (m : Mem) (hn : ns.length ≤ 63) (oS : Obj) (hsc : m sc = some (.ro oS (ns.map V.int)))
    (k : ∀ (a b : Tx) (x3 x4 : Option V) (m' : Mem), a.length ≤ 20 → b.length ≤ 20 → Ext m m' → K .next ⟨[some (.obj sc), some (.str a), some (.str b), x3, x4, none, none, none, none, none], m'⟩) :
    wpSs P f_lawA K ⟨[V.obj sc].map some ++ List.replicate 9 none, m⟩ := by
  unfold f_lawA
  generalize hin : f_lawIn = inn
  simp only [wpSs, wpS, wpE, wpEs, wpT, wpTs, wpCh, wpBo, wpTgs, tg_var, tg_tup, bin_add, bin_sub, bin_mul, bin_div, bin_mod, bin_cat, bin_rep, cmp_eqi, cmp_eqs, cmp_nei, cmp_nes, cmp_lt, cmp_le, cmp_gt, cmp_ge, cmp_isn, cmp_ist, cmp_notn, cmp_nott, cmp_eqo, cmp_neo, tr_none, tr_bool, tr_int, tr_str, tr_tup, ix_str, ix_tup, ix_lst, sl_ii, sl_in, sl_ni, sl_lni, bi_lens, bi_lent, bi_leno, bi_min, bi_max, bi_maxl, bi_rng, bi_rng2, bi_lstt, me_find, me_find2, me_app, ok_find, ok_app, it_str, it_rng, it_lst, neg_int, St.set, St.setAll, List.map_cons, List.map_nil, List.replicate, List.cons_append, List.nil_append, List.getElem?_cons_succ, List.getElem?_cons_zero, List.set_cons_succ, List.set_cons_zero, Option.some.injEq, exists_eq_left', exists_eq_left, true_and, and_true, retV, if_true, if_false, Bool.false_eq_true, decide_eq_true_eq, Bool.not_true, Bool.not_false, Bool.not_eq_true', decide_eq_false_iff_not, List.length_cons, List.length_nil, reduceIte, reduceCtorEq]
  refine ⟨_, .inr ⟨_, hsc⟩, by unfold small; simp; omega, fun c hc => ?_⟩
  obtain ⟨ks, e, hk⟩ := pySl_20 ns
  refine ⟨_, upd_self _ _ _, by rw [e]; unfold small; simp; omega, ?_⟩
  rw [e, ← hin]
  refine law_first P _ (.obj sc) _ _ (upd_self _ _ _) none none none none none ks [] [] none none (by simpa using hk) (by simpa using hk) fun a b x3 x4 ha hb => ?_
  exact k a b x3 x4 _ ha hb ((show Ext m m from fun _ _ h => h).new hc)
end Mine
set_option autoImplicit false
set_option maxRecDepth 10000
set_option linter.unusedVariables false
set_option linter.unusedSimpArgs false
namespace Mine
open PySem PyProof.Rows PySem.W

theorem tab_ne {pos : Pos} {q : PySem.Str} {P a : Addr} {o : O} {m : Mem} (hT : Tab pos q P m) (h : m a = some o) (hn : ∀ x, o ≠ .raw x) : a ≠ P := fun z => by
  subst z
  obtain ⟨ps, e⟩ := hT.grown
  rw [e] at h; cases h; exact hn _ rfl
theorem Tab.ext {pos : Pos} {q : PySem.Str} {P : Addr} {m m' : Mem} (hT : Tab pos q P m) (h : Ext m m') : Tab pos q P m' := by
  rcases hT with e | ⟨c', hne, e, oc, vs, t, e1, e2, e3⟩
  · exact .inl (h _ _ e)
  · exact .inr ⟨c', hne, h _ _ e, oc, vs, t, h _ _ e1, e2, e3⟩
theorem Tab.set {pos : Pos} {q : PySem.Str} {P a : Addr} {o o' : O} {m : Mem} (hT : Tab pos q P m) (h : m a = some o) (hn : ∀ x, o ≠ .raw x) : Tab pos q P (upd m a o') := by
  have k : ∀ b x, m b = some (.raw x) → upd m a o' b = some (.raw x) := fun b x e => by
    rw [upd_ne _ _ (fun z => by subst z; rw [h] at e; cases e; exact hn _ rfl)]; exact e
  rcases hT with e | ⟨c', hne, e, oc, vs, t, e1, e2, e3⟩
  · exact .inl (k _ _ e)
  · exact .inr ⟨c', hne, k _ _ e, oc, vs, t, k _ _ e1, e2, e3⟩

theorem rd_strs {m : Mem} {a : Addr} {xs : List Tx} (h : m a = some (.list (xs.map V.str))) : rd 8 m (.obj a) = some (.list (xs.map fun x => .str (mkS x))) := by
  have e : ∀ ys : List Tx, (ys.map V.str).mapM (rd 7 m) = some (ys.map fun x => PyData.str (mkS x)) := fun ys => by
    induction ys with
    | nil => rfl
    | cons y ys ih => rw [List.map_cons, List.mapM_cons, ih]; rfl
  show (match m a with | some (.list vs) => (vs.mapM (rd 7 m)).map PyData.list | _ => none) = _
  rw [h]
  dsimp only
  rw [e]; rfl
theorem eqv_strs (xs : List Tx) : PyData.eqv (.list (xs.map fun x => .str (mkS x))) (.list (xs.map fun x => .str (mkS x))) = true := by
  show PyData.eqvAll _ _ = true
  induction xs with
  | nil => rfl
  | cons x xs ih => simp only [List.map_cons, PyData.eqvAll, ih, Bool.and_true]; show (mkS x == mkS x) = true; simp

theorem law_lim (P : PC) (Pt : Addr) (pos : Pos) (q : PySem.Str) (hmeth : ∀ n vs Q m, lawMeth P.cls Pt pos q n vs Q m → P.meth n vs Q m) (hfld : P.fld "Diff_Timeout" = true) (Q : Fl → St → Prop)
    (r0 r3 r4 r5 r7 r8 : Option V) (x d l : Addr) (L : List V) (a b : Tx) (ha : a.length ≤ 20) (hb : b.length ≤ 20) (sc : Addr) (oS : Obj) (LS : List V) (k : ∀ σ, Tab pos q Pt σ.mem → σ.mem sc = some (.ro oS LS) → Q .next σ) : ∀ (lims : List Int), (∀ i ∈ lims, i ≤ 0) → ∀ (m : Mem) (u : Int) (x9 : Option V),
    m x = some (.inst P.cls d) → m d = some (.dict (toolFs (.int u))) → m l = some (.list L) → Tab pos q Pt m → m sc = some (.ro oS LS) →
    wpLoop (wpTg P (.var 9)) (wpSs P f_lawLim) (fun m' => m' l = some (.list L)) Q (lims.map V.int) ⟨[r0, some (.str a), some (.str b), r3, r4, r5, some (.obj x), r7, r8, x9], m⟩
  | [], _, m, u, x9, hI, hD, hl, hT, hS => ⟨hl, k _ hT hS⟩
  | i :: lims, hi, m, u, x9, hI, hD, hl, hT, hS => by
    refine ⟨hl, ?_⟩
    have cont := fun (m : Mem) (u : Int) (x9 : Option V) h1 h2 h3 h4 h5 => law_lim P Pt pos q hmeth hfld Q r0 r3 r4 r5 r7 r8 x d l L a b ha hb sc oS LS k lims (fun j hj => hi j (List.mem_cons_of_mem _ hj)) m u x9 h1 h2 h3 h4 h5
    generalize wpLoop (wpTg P (.var 9)) (wpSs P f_lawLim) (fun m' => m' l = some (.list L)) Q (lims.map V.int) = LL at cont ⊢
    have hxd : x ≠ d := fun e => by subst e; rw [hI] at hD; cases hD
    have hld : l ≠ d := fun e => by subst e; rw [hl] at hD; cases hD
    have i0 := hi i (by simp)
    unfold f_lawLim
    simp only [wpSs, wpS, wpE, wpEs, wpT, wpTs, wpCh, wpBo, wpTgs, tg_var, tg_tup, bin_add, bin_sub, bin_mul, bin_div, bin_mod, bin_cat, bin_rep, cmp_eqi, cmp_eqs, cmp_nei, cmp_nes, cmp_lt, cmp_le, cmp_gt, cmp_ge, cmp_isn, cmp_ist, cmp_notn, cmp_nott, cmp_eqo, cmp_neo, tr_none, tr_bool, tr_int, tr_str, tr_tup, ix_str, ix_tup, ix_lst, sl_ii, sl_in, sl_ni, sl_lni, bi_lens, bi_lent, bi_leno, bi_min, bi_max, bi_maxl, bi_rng, bi_rng2, bi_lstt, me_find, me_find2, me_app, ok_find, ok_app, it_str, it_rng, it_lst, neg_int, St.set, St.setAll, List.map_cons, List.map_nil, List.replicate, List.cons_append, List.nil_append, List.getElem?_cons_succ, List.getElem?_cons_zero, List.set_cons_succ, List.set_cons_zero, Option.some.injEq, exists_eq_left', exists_eq_left, true_and, and_true, retV, if_true, if_false, Bool.false_eq_true, decide_eq_true_eq, Bool.not_true, Bool.not_false, Bool.not_eq_true', decide_eq_false_iff_not, List.length_cons, List.length_nil, reduceIte, reduceCtorEq, tg_attr]
    refine ⟨x, d, _, rfl, hI, hD, by simp [toolFs], hfld, ?_⟩
    rw [setF_tool]
    generalize hm3 : upd m d (.dict (toolFs (.int i))) = m3
    have hI3 : m3 x = some (.inst P.cls d) := by rw [← hm3, upd_ne _ _ hxd]; exact hI
    have hD3 : m3 d = some (.dict (toolFs (.int i))) := by rw [← hm3, upd_self]
    have hl3 : m3 l = some (.list L) := by rw [← hm3, upd_ne _ _ hld]; exact hl
    have hT3 : Tab pos q Pt m3 := by rw [← hm3]; exact hT.set hD (fun _ h => by cases h)
    have hsd : sc ≠ d := fun e => by subst e; rw [hS] at hD; cases hD
    have hS3 : m3 sc = some (.ro oS LS) := by rw [← hm3, upd_ne _ _ hsd]; exact hS
    refine ⟨⟨x, d, _, rfl, hI3, hD3, tool_no_hm _⟩, ?_⟩
    refine hmeth _ _ _ _ ⟨rfl, x, d, a, b, _, rfl, by omega, by omega, hI3, hD3, hT3, fun m4 hT4 hE4 => ?_⟩
    rw [if_pos i0]
    simp only [wpSs, wpS, wpE, wpEs, wpT, wpTs, wpCh, wpBo, wpTgs, tg_var, tg_tup, bin_add, bin_sub, bin_mul, bin_div, bin_mod, bin_cat, bin_rep, cmp_eqi, cmp_eqs, cmp_nei, cmp_nes, cmp_lt, cmp_le, cmp_gt, cmp_ge, cmp_isn, cmp_ist, cmp_notn, cmp_nott, cmp_eqo, cmp_neo, tr_none, tr_bool, tr_int, tr_str, tr_tup, ix_str, ix_tup, ix_lst, sl_ii, sl_in, sl_ni, sl_lni, bi_lens, bi_lent, bi_leno, bi_min, bi_max, bi_maxl, bi_rng, bi_rng2, bi_lstt, me_find, me_find2, me_app, ok_find, ok_app, it_str, it_rng, it_lst, neg_int, St.set, St.setAll, List.map_cons, List.map_nil, List.replicate, List.cons_append, List.nil_append, List.getElem?_cons_succ, List.getElem?_cons_zero, List.set_cons_succ, List.set_cons_zero, Option.some.injEq, exists_eq_left', exists_eq_left, true_and, and_true, retV, if_true, if_false, Bool.false_eq_true, decide_eq_true_eq, Bool.not_true, Bool.not_false, Bool.not_eq_true', decide_eq_false_iff_not, List.length_cons, List.length_nil, reduceIte, reduceCtorEq]
    exact cont m4 i _ (hE4 _ _ (tab_ne hT3 hI3 (fun _ h => by cases h)) hI3) (hE4 _ _ (tab_ne hT3 hD3 (fun _ h => by cases h)) hD3) (hE4 _ _ (tab_ne hT3 hl3 (fun _ h => by cases h)) hl3) hT4 (hE4 _ _ (tab_ne hT3 hS3 (fun _ h => by cases h)) hS3)

theorem w_lawB (P : PC) (cls Pt : Addr) (pos : Pos) (q : PySem.Str) (hcls : P.cls = cls) (hcall : ∀ n vs Q m, lawCall cls n vs Q m → P.call n vs Q m) (hmeth : ∀ n vs Q m, lawMeth cls Pt pos q n vs Q m → P.meth n vs Q m) (hfld : P.fld "Diff_Timeout" = true)
    (K : Fl → St → Prop) (sc : Addr) (ns : List Int) (a b : Tx) (x3 x4 : Option V) (m : Mem) (hn : ns.length ≤ 63) (ha : a.length ≤ 20) (hb : b.length ≤ 20) (oS : Obj) (hsc : m sc = some (.ro oS (ns.map V.int))) (hT : Tab pos q Pt m)
    (k : ∀ σ, Tab pos q Pt σ.mem → σ.mem sc = some (.ro oS (ns.map V.int)) → K (.ret (.bool true)) σ) :
    wpSs P f_lawB K ⟨[some (.obj sc), some (.str a), some (.str b), x3, x4, none, none, none, none, none], m⟩ := by
  subst hcls
  have sa : small a.length := by unfold small; omega
  have sb : small b.length := by unfold small; omega
  have sn : small (ns.map V.int).length := by unfold small; simp; omega
  unfold f_lawB
  generalize hlim : f_lawLim = limB
  simp only [wpSs, wpS, wpE, wpEs, wpT, wpTs, wpCh, wpBo, wpTgs, tg_var, tg_tup, bin_add, bin_sub, bin_mul, bin_div, bin_mod, bin_cat, bin_rep, cmp_eqi, cmp_eqs, cmp_nei, cmp_nes, cmp_lt, cmp_le, cmp_gt, cmp_ge, cmp_isn, cmp_ist, cmp_notn, cmp_nott, cmp_eqo, cmp_neo, tr_none, tr_bool, tr_int, tr_str, tr_tup, ix_str, ix_tup, ix_lst, sl_ii, sl_in, sl_ni, sl_lni, bi_lens, bi_lent, bi_leno, bi_min, bi_max, bi_maxl, bi_rng, bi_rng2, bi_lstt, me_find, me_find2, me_app, ok_find, ok_app, it_str, it_rng, it_lst, neg_int, St.set, St.setAll, List.map_cons, List.map_nil, List.replicate, List.cons_append, List.nil_append, List.getElem?_cons_succ, List.getElem?_cons_zero, List.set_cons_succ, List.set_cons_zero, Option.some.injEq, exists_eq_left', exists_eq_left, true_and, and_true, retV, if_true, if_false, Bool.false_eq_true, decide_eq_true_eq, Bool.not_true, Bool.not_false, Bool.not_eq_true', decide_eq_false_iff_not, List.length_cons, List.length_nil, reduceIte, reduceCtorEq, tg_attr]
  refine hcall _ _ _ _ (.inl ⟨rfl, a, b, rfl, by omega, by omega, fun R m1 hR hE1 => ?_⟩)
  refine hcall _ _ _ _ (.inr (.inr ⟨rfl, rfl, fun x d m2 hx hd hI hD hE2 => ?_⟩))
  have hsc2 := hE2 _ _ (hE1 _ _ hsc)
  have hT2 := (hT.ext hE1).ext hE2
  refine ⟨_, .inr ⟨_, hsc2⟩, sn, by omega, x, d, _, rfl, hI, hD, by simp [toolFs], hfld, ?_⟩
  rw [setF_tool]
  have hlen : ((ns.map V.int).length : Int) = (ns.length : Int) := by simp
  rw [hlen]
  have hxd : x ≠ d := fun e => by subst e; rw [hI] at hD; cases hD
  have hsd : sc ≠ d := fun e => by subst e; rw [hsc2] at hD; cases hD
  generalize hm3 : upd m2 d (.dict (toolFs (.int (1 + (ns.length : Int) % 5)))) = m3
  have hI3 : m3 x = some (.inst P.cls d) := by rw [← hm3, upd_ne _ _ hxd]; exact hI
  have hD3 : m3 d = some (.dict (toolFs (.int (1 + (ns.length : Int) % 5)))) := by rw [← hm3, upd_self]
  have hsc3 : m3 sc = some (.ro oS (ns.map V.int)) := by rw [← hm3, upd_ne _ _ hsd]; exact hsc2
  have hT3 : Tab pos q Pt m3 := by rw [← hm3]; exact hT2.set hD (fun _ h => by cases h)
  have hpos : ¬ (1 + (ns.length : Int) % 5 ≤ 0) := by omega
  refine ⟨⟨x, d, _, rfl, hI3, hD3, tool_no_hm _⟩, ?_⟩
  refine hmeth _ _ _ _ ⟨rfl, x, d, a, b, _, rfl, by omega, by omega, hI3, hD3, hT3, fun m4 hT4 hE4 => ?_⟩
  rw [if_neg hpos]
  have nI : ∀ y, O.inst P.cls d ≠ .raw y := fun y h => by cases h
  have nD : ∀ (z : List (PySem.Str × V)) y, O.dict z ≠ .raw y := fun z y h => by cases h
  have nR : ∀ (z : List V) y, O.ro oS z ≠ .raw y := fun z y h => by cases h
  have hI4 := hE4 _ _ (tab_ne hT3 hI3 nI) hI3
  have hD4 := hE4 _ _ (tab_ne hT3 hD3 (nD _)) hD3
  have hsc4 := hE4 _ _ (tab_ne hT3 hsc3 (nR _)) hsc3
  refine ⟨⟨x, d, _, rfl, hI4, hD4, tool_no_hm _⟩, ?_⟩
  refine hmeth _ _ _ _ ⟨rfl, x, d, b, a, _, rfl, by omega, by omega, hI4, hD4, hT4, fun m5 hT5 hE5 => ?_⟩
  rw [if_neg hpos]
  have hI5 := hE5 _ _ (tab_ne hT4 hI4 nI) hI4
  have hD5 := hE5 _ _ (tab_ne hT4 hD4 (nD _)) hD4
  have hsc5 := hE5 _ _ (tab_ne hT4 hsc4 (nR _)) hsc4
  refine hcall _ _ _ _ (.inr (.inl ⟨rfl, _, a, b, R, rfl, by omega, by omega, hmBoth_spec hR, ?_⟩))
  simp only [wpSs, wpS, wpE, wpEs, wpT, wpTs, wpCh, wpBo, wpTgs, tg_var, tg_tup, bin_add, bin_sub, bin_mul, bin_div, bin_mod, bin_cat, bin_rep, cmp_eqi, cmp_eqs, cmp_nei, cmp_nes, cmp_lt, cmp_le, cmp_gt, cmp_ge, cmp_isn, cmp_ist, cmp_notn, cmp_nott, cmp_eqo, cmp_neo, tr_none, tr_bool, tr_int, tr_str, tr_tup, ix_str, ix_tup, ix_lst, sl_ii, sl_in, sl_ni, sl_lni, bi_lens, bi_lent, bi_leno, bi_min, bi_max, bi_maxl, bi_rng, bi_rng2, bi_lstt, me_find, me_find2, me_app, ok_find, ok_app, it_str, it_rng, it_lst, neg_int, St.set, St.setAll, List.map_cons, List.map_nil, List.replicate, List.cons_append, List.nil_append, List.getElem?_cons_succ, List.getElem?_cons_zero, List.set_cons_succ, List.set_cons_zero, Option.some.injEq, exists_eq_left', exists_eq_left, true_and, and_true, retV, if_true, if_false, Bool.false_eq_true, decide_eq_true_eq, Bool.not_true, Bool.not_false, Bool.not_eq_true', decide_eq_false_iff_not, List.length_cons, List.length_nil, reduceIte, reduceCtorEq]
  refine hcall _ _ _ _ (.inr (.inl ⟨rfl, _, b, a, R, rfl, by omega, by omega, hmBoth_spec hR.symm, ?_⟩))
  simp only [wpSs, wpS, wpE, wpEs, wpT, wpTs, wpCh, wpBo, wpTgs, tg_var, tg_tup, bin_add, bin_sub, bin_mul, bin_div, bin_mod, bin_cat, bin_rep, cmp_eqi, cmp_eqs, cmp_nei, cmp_nes, cmp_lt, cmp_le, cmp_gt, cmp_ge, cmp_isn, cmp_ist, cmp_notn, cmp_nott, cmp_eqo, cmp_neo, tr_none, tr_bool, tr_int, tr_str, tr_tup, ix_str, ix_tup, ix_lst, sl_ii, sl_in, sl_ni, sl_lni, bi_lens, bi_lent, bi_leno, bi_min, bi_max, bi_maxl, bi_rng, bi_rng2, bi_lstt, me_find, me_find2, me_app, ok_find, ok_app, it_str, it_rng, it_lst, neg_int, St.set, St.setAll, List.map_cons, List.map_nil, List.replicate, List.cons_append, List.nil_append, List.getElem?_cons_succ, List.getElem?_cons_zero, List.set_cons_succ, List.set_cons_zero, Option.some.injEq, exists_eq_left', exists_eq_left, true_and, and_true, retV, if_true, if_false, Bool.false_eq_true, decide_eq_true_eq, Bool.not_true, Bool.not_false, Bool.not_eq_true', decide_eq_false_iff_not, List.length_cons, List.length_nil, reduceIte, reduceCtorEq]
  have fin : ∀ (m6 : Mem) (r0 r3 r4 r5 r7 r8 : Option V), m6 sc = some (.ro oS (ns.map V.int)) → m6 x = some (.inst P.cls d) → m6 d = some (.dict (toolFs (.int (1 + (ns.length : Int) % 5)))) → Tab pos q Pt m6 →
      ∃ vs, (m6 sc = some (O.list vs) ∨ ∃ o, m6 sc = some (O.ro o vs)) ∧ small vs.length ∧ ∀ a_1, m6 a_1 = none → ∃ vs_1, upd m6 a_1 (O.list [V.int 0, V.int (-1), V.int (-2 - (vs.length : Int))]) a_1 = some (O.list vs_1) ∧ small vs_1.length ∧
        wpLoop (wpTg P (Tg.var 9)) (wpSs P limB) (fun m' => m' a_1 = some (O.list vs_1)) (fun fl σ₁ => match fl with
          | Fl.next => K (Fl.ret (V.bool true)) σ₁
          | Fl.brk => K Fl.brk σ₁
          | Fl.cont => K Fl.cont σ₁
          | Fl.ret r => K (Fl.ret r) σ₁) vs_1 ⟨[r0, some (.str a), some (.str b), r3, r4, r5, some (.obj x), r7, r8, none], upd m6 a_1 (O.list [V.int 0, V.int (-1), V.int (-2 - (vs.length : Int))])⟩ := by
    intro m6 r0 r3 r4 r5 r7 r8 h1 h2 h3 h4
    refine ⟨_, .inr ⟨_, h1⟩, sn, fun l hl => ⟨_, upd_self _ _ _, by unfold small; simp, ?_⟩⟩
    rw [← hlim]
    have nl : ∀ o y, m6 y = some o → y ≠ l := fun o y e z => by subst z; rw [hl] at e; cases e
    refine law_lim P Pt pos q hmeth hfld _ r0 r3 r4 r5 r7 r8 x d l _ a b ha hb sc oS (ns.map V.int) (fun σ hσ hS => k σ hσ hS) [0, -1, -2 - ((ns.map V.int).length : Int)] (by intro i hi; simp at hi; omega) _ _ none (by rw [upd_ne _ _ (nl _ _ h2)]; exact h2) (by rw [upd_ne _ _ (nl _ _ h3)]; exact h3) (upd_self _ _ _) (h4.ext ((show Ext m6 m6 from fun _ _ h => h).new hl)) (by rw [upd_ne _ _ (nl _ _ h1)]; exact h1)
  cases hab : hmBoth a b with
  | none =>
    simp only [fiveV, wpSs, wpS, wpE, wpEs, wpT, wpTs, wpCh, wpBo, wpTgs, tg_var, tg_tup, bin_add, bin_sub, bin_mul, bin_div, bin_mod, bin_cat, bin_rep, cmp_eqi, cmp_eqs, cmp_nei, cmp_nes, cmp_lt, cmp_le, cmp_gt, cmp_ge, cmp_isn, cmp_ist, cmp_notn, cmp_nott, cmp_eqo, cmp_neo, tr_none, tr_bool, tr_int, tr_str, tr_tup, ix_str, ix_tup, ix_lst, sl_ii, sl_in, sl_ni, sl_lni, bi_lens, bi_lent, bi_leno, bi_min, bi_max, bi_maxl, bi_rng, bi_rng2, bi_lstt, me_find, me_find2, me_app, ok_find, ok_app, it_str, it_rng, it_lst, neg_int, St.set, St.setAll, List.map_cons, List.map_nil, List.replicate, List.cons_append, List.nil_append, List.getElem?_cons_succ, List.getElem?_cons_zero, List.set_cons_succ, List.set_cons_zero, Option.some.injEq, exists_eq_left', exists_eq_left, true_and, and_true, retV, if_true, if_false, Bool.false_eq_true, decide_eq_true_eq, Bool.not_true, Bool.not_false, Bool.not_eq_true', decide_eq_false_iff_not, List.length_cons, List.length_nil, reduceIte, reduceCtorEq]
    exact fin m5 _ _ _ _ _ _ hsc5 hI5 hD5 hT5
  | some f =>
    simp only [fiveV, wpSs, wpS, wpE, wpEs, wpT, wpTs, wpCh, wpBo, wpTgs, tg_var, tg_tup, bin_add, bin_sub, bin_mul, bin_div, bin_mod, bin_cat, bin_rep, cmp_eqi, cmp_eqs, cmp_nei, cmp_nes, cmp_lt, cmp_le, cmp_gt, cmp_ge, cmp_isn, cmp_ist, cmp_notn, cmp_nott, cmp_eqo, cmp_neo, tr_none, tr_bool, tr_int, tr_str, tr_tup, ix_str, ix_tup, ix_lst, sl_ii, sl_in, sl_ni, sl_lni, bi_lens, bi_lent, bi_leno, bi_min, bi_max, bi_maxl, bi_rng, bi_rng2, bi_lstt, me_find, me_find2, me_app, ok_find, ok_app, it_str, it_rng, it_lst, neg_int, St.set, St.setAll, List.map_cons, List.map_nil, List.replicate, List.cons_append, List.nil_append, List.getElem?_cons_succ, List.getElem?_cons_zero, List.set_cons_succ, List.set_cons_zero, Option.some.injEq, exists_eq_left', exists_eq_left, true_and, and_true, retV, if_true, if_false, Bool.false_eq_true, decide_eq_true_eq, Bool.not_true, Bool.not_false, Bool.not_eq_true', decide_eq_false_iff_not, List.length_cons, List.length_nil, reduceIte, reduceCtorEq]
    refine ⟨sa, sb, ?_⟩
    by_cases hl : (a.length : Int) = (b.length : Int)
    · rw [if_neg (fun z => z hl)]
      exact fin m5 _ _ _ _ _ _ hsc5 hI5 hD5 hT5
    · rw [if_pos hl]
      have hba : hmBoth b a = some (flip5 f) := by rw [hmBoth_flip (by omega), hab]; rfl
      rw [hba]
      have s5 : small (0 + 1 + 1 + 1 + 1 + 1) := by unfold small; omega
      simp only [fiveV, wpSs, wpS, wpE, wpEs, wpT, wpTs, wpCh, wpBo, wpTgs, tg_var, tg_tup, bin_add, bin_sub, bin_mul, bin_div, bin_mod, bin_cat, bin_rep, cmp_eqi, cmp_eqs, cmp_nei, cmp_nes, cmp_lt, cmp_le, cmp_gt, cmp_ge, cmp_isn, cmp_ist, cmp_notn, cmp_nott, cmp_eqo, cmp_neo, tr_none, tr_bool, tr_int, tr_str, tr_tup, ix_str, ix_tup, ix_lst, sl_ii, sl_in, sl_ni, sl_lni, bi_lens, bi_lent, bi_leno, bi_min, bi_max, bi_maxl, bi_rng, bi_rng2, bi_lstt, me_find, me_find2, me_app, ok_find, ok_app, it_str, it_rng, it_lst, neg_int, St.set, St.setAll, List.map_cons, List.map_nil, List.replicate, List.cons_append, List.nil_append, List.getElem?_cons_succ, List.getElem?_cons_zero, List.set_cons_succ, List.set_cons_zero, Option.some.injEq, exists_eq_left', exists_eq_left, true_and, and_true, retV, if_true, if_false, Bool.false_eq_true, decide_eq_true_eq, Bool.not_true, Bool.not_false, Bool.not_eq_true', decide_eq_false_iff_not, List.length_cons, List.length_nil, reduceIte, reduceCtorEq, s5]
      intro c hc
      refine ⟨by unfold tiny; omega, _, rfl, by unfold tiny; omega, _, rfl, by unfold tiny; omega, _, rfl, by unfold tiny; omega, _, rfl, by unfold tiny; omega, _, rfl, fun c2 hc2 => ?_⟩
      have hcc : c ≠ c2 := fun z => by subst z; rw [upd_self] at hc2; cases hc2
      have r1 : rd 8 (upd (upd m5 c (.list [V.str f.1, .str f.2.1, .str f.2.2.1, .str f.2.2.2.1, .str f.2.2.2.2])) c2 (.list [V.str f.1, .str f.2.1, .str f.2.2.1, .str f.2.2.2.1, .str f.2.2.2.2])) (.obj c) = some (.list ([f.1, f.2.1, f.2.2.1, f.2.2.2.1, f.2.2.2.2].map fun x => .str (mkS x))) :=
        rd_strs (xs := [f.1, f.2.1, f.2.2.1, f.2.2.2.1, f.2.2.2.2]) (by rw [upd_ne _ _ hcc, upd_self]; rfl)
      have r2 : rd 8 (upd (upd m5 c (.list [V.str f.1, .str f.2.1, .str f.2.2.1, .str f.2.2.2.1, .str f.2.2.2.2])) c2 (.list [V.str f.1, .str f.2.1, .str f.2.2.1, .str f.2.2.2.1, .str f.2.2.2.2])) (.obj c2) = some (.list ([f.1, f.2.1, f.2.2.1, f.2.2.2.1, f.2.2.2.2].map fun x => .str (mkS x))) :=
        rd_strs (xs := [f.1, f.2.1, f.2.2.1, f.2.2.2.1, f.2.2.2.2]) (by rw [upd_self]; rfl)
      refine ⟨_, _, r1, r2, ?_⟩
      rw [eqv_strs, if_neg (by decide)]
      have e2 : Ext m5 (upd (upd m5 c (.list [V.str f.1, .str f.2.1, .str f.2.2.1, .str f.2.2.2.1, .str f.2.2.2.2])) c2 (.list [V.str f.1, .str f.2.1, .str f.2.2.1, .str f.2.2.2.1, .str f.2.2.2.2])) := ((show Ext m5 m5 from fun _ _ h => h).new hc).new hc2
      exact fin _ _ _ _ _ _ _ (e2 _ _ hsc5) (e2 _ _ hI5) (e2 _ _ hD5) (hT5.ext e2)
end Mine
set_option autoImplicit false
set_option maxRecDepth 10000
set_option linter.unusedVariables false
set_option linter.unusedSimpArgs false
namespace Mine
open PySem PyProof.Rows PySem.W

theorem Lv.call {A : Around} {k : Nat} (h : Lv A (k + 1)) (C : Addr) : Lv (A.under (.builtin "type.__call__" ⟨[.ref C], []⟩)) k := by
  have hw : Code.weight (.builtin "type.__call__" ⟨[.ref C], []⟩) ≤ 1 := Nat.le_of_eq (by kernel_rfl)
  have hu : Code.cUnits (.builtin "type.__call__" ⟨[.ref C], []⟩) ≤ 4 := by
    have e : Code.cUnits (.builtin "type.__call__" ⟨[.ref C], []⟩) = 1 := by kernel_rfl
    omega
  refine ⟨h.hd, ?_, ?_⟩
  · have := h.dp; show A.depth + _ + k < _; omega
  · have := h.un; show A.units + _ + 4 * k + 80 < _; omega

noncomputable def fns1 : List String := ["_law_longest_run", "_law_right", "diff_match_patch"]
noncomputable def meths1 : List String := ["diff_commonPrefix", "diff_commonSuffix", "diff_halfMatch"]
noncomputable def vA : Value → Addr
  | .ref a => a
  | _ => 0
noncomputable def fnA (K : Frag) (n : String) : Addr := vA (fnV K n)
noncomputable def clsA (K : Frag) : Addr := fnA K "diff_match_patch"
noncomputable def toolList : List String := ["Diff_Timeout", "Diff_EditCost", "Match_Threshold", "Match_Distance", "Patch_DeleteThreshold", "Patch_Margin", "Match_MaxBits"]
noncomputable def pcChk (K : Frag) (cls : Addr) : Bool :=
  hasDictIn K cls && toolList.all (fun n => plainGet K cls (PySem.Str.ofString n) && findIn K (.ref cls) (PySem.Str.ofString n) == some none && takerIn K cls (PySem.Str.ofString n) == some none) &&
  findIn K (.ref cls) "__setattr__" == some (some (.builtin "object.__setattr__")) && plainOver K cls
noncomputable def noList (K : Frag) : Bool := K.all fun p => !(p.2.cls == .type "list")
noncomputable def biChk (K : Frag) : Bool := ["len", "min", "max", "sum", "range", "list", "chr", "ord"].all fun n => nsIn K mainGlobals (PySem.Str.ofString n) == some none
noncomputable def chk1 (K : Frag) (c91 : Addr) : Bool :=
  fnsOk K fns1 && methsOk K (clsA K) meths1 && pcChk K (clsA K) && biChk K && noList K && fns1.all (fun n => fnV K n == .ref (fnA K n)) &&
  fnChk K (fnA K "_law_longest_run") f_law_longest_runPs f_law_longest_runRest (locSC f_law_longest_runPs f_law_longest_runRest f_law_longest_runNames fns1 meths1) f_law_longest_runBody &&
  fnChk K (fnA K "_law_right") f_law_rightPs f_law_rightRest (locSC f_law_rightPs f_law_rightRest f_law_rightNames fns1 meths1) f_law_rightBody &&
  fnChk K (meA K (clsA K) "diff_commonPrefix") m_diff_commonPrefixPs m_diff_commonPrefixRest (locSC m_diff_commonPrefixPs m_diff_commonPrefixRest m_diff_commonPrefixNames fns1 meths1) m_diff_commonPrefixBody &&
  fnChk K (meA K (clsA K) "diff_commonSuffix") m_diff_commonSuffixPs m_diff_commonSuffixRest (locSC m_diff_commonSuffixPs m_diff_commonSuffixRest m_diff_commonSuffixNames fns1 meths1) m_diff_commonSuffixBody &&
  hmChk K (meA K (clsA K) "diff_halfMatch") fns1 meths1 c91 &&
  makesIn K (clsA K) && findIn K (.ref (clsA K)) "__init__" == some (some (.ref (meA K (clsA K) "__init__"))) && typeIn K (.ref (meA K (clsA K) "__init__")) == some (.type "function") &&
  fnChk K (meA K (clsA K) "__init__") m_initPs m_initRest (locSC m_initPs m_initRest m_initNames fns1 meths1) m_initBody

noncomputable def pcW (cls P : Addr) (pos : Pos) (q : PySem.Str) : PC := { pcOf cls with call := lawCall cls, meth := lawMeth cls P pos q }

theorem pc_ok {G : GS} (h : pcChk G.K (clsA G.K) = true) : (pcOf (clsA G.K)).ok G := by
  unfold pcChk at h
  simp only [Bool.and_eq_true, beq_iff_eq, List.all_eq_true] at h
  obtain ⟨⟨⟨h1, h2⟩, h3⟩, h4⟩ := h
  constructor
  · exact h1
  · intro n hn
    have := h2 n (List.contains_iff_mem.mp hn)
    exact ⟨this.1.1, this.1.2, this.2⟩
  · intro n v hv; cases hv
  · exact h3
  · exact h4

section
variable {G : GS} {A : Around} {c91 P : Addr}
theorem runW (gok : G.ok) (gbi : G.bi) (hf : G.fns = fns1) (hme : G.meths = meths1) (h : chk1 G.K c91 = true) (T : BM G) (C : CodeHd G.base c91 P) (lv : Lv A 4) :
    (pcW (clsA G.K) P (hmPos G.K (meA G.K (clsA G.K) "diff_halfMatch")) (hmQ G.K (meA G.K (clsA G.K) "diff_halfMatch"))).run G A := by
  unfold chk1 at h
  simp only [Bool.and_eq_true, beq_iff_eq] at h
  obtain ⟨⟨⟨⟨⟨⟨⟨⟨⟨⟨⟨⟨⟨⟨g1, g2⟩, g3⟩, g4⟩, g5⟩, g6⟩, g7⟩, g8⟩, g9⟩, g10⟩, g11⟩, g12⟩, g13⟩, g14⟩, g15⟩ := h
  have b : Base G (pcOf (clsA G.K)) := ⟨gok, gbi, pc_ok g3, by rw [hf]; exact g1, by rw [hme]; exact g2⟩
  have hcp : ChkCP G (clsA G.K) = true := by unfold ChkCP; rw [hf, hme, g9, g10]; rfl
  have fv : ∀ n, n ∈ fns1 → fnV G.K n = .ref (fnA G.K n) := fun n hn => beq_iff_eq.mp (List.all_eq_true.mp g6 n hn)
  have hF : ∀ n, n ∈ fns1 → n ∈ G.fns := fun n hn => by rw [hf]; exact hn
  have hM : ∀ n, n ∈ meths1 → n ∈ G.meths := fun n hn => by rw [hme]; exact hn
  refine run_mk (b.swap rfl rfl rfl) (fun n hn vs Q m hc => ?_) (fun n hn vs Q m hc => ?_) (fun _ _ _ _ h => h.elim)
  · have sm : ∀ {x : Tx}, x.length < 1000 → small x.length := fun h => by unfold small; omega
    rcases hc with ⟨rfl, x, y, rfl, hx, hy, q⟩ | ⟨rfl, o, x, y, R, rfl, hx, hy, hR, q⟩ | ⟨rfl, rfl, q⟩
    · rw [fv _ (by decide)]
      exact (call_fn gok gbi g7 lv.room (fun env => (lv.deeper env).rm) (fun env => run0 b) hF hM rfl (w_longest (pcOf (clsA G.K)) x y m (sm hx) (sm hy) hy Q q)).toS
    · rw [fv _ (by decide)]
      exact (call_fn gok gbi g8 lv.room (fun env => (lv.deeper env).rm) (fun env => run0 b) hF hM rfl (w_right (pcOf (clsA G.K)) o x y R m hx hy hR Q q)).toS
    · rw [fv _ (by decide)]
      refine (call_class gok g12 g13 g14 fun x d hx hd hne => ?_).toS
      have lv' := lv.call (clsA G.K)
      refine call_fn gok gbi g15 lv'.room (fun env => (lv'.deeper env).rm) (fun env => run0 b) hF hM rfl (w_init (clsA G.K) x d _ (upd_self _ _ _) (by rw [upd_ne _ _ (Ne.symm hne), upd_self]) (fun r m' => r = V.none ∧ Q (.obj x) m') fun m' h1 h2 h3 => ⟨rfl, q x d m' hx hd h1 h2 fun a o e => ?_⟩)
      have nx : a ≠ x := fun z => by subst z; rw [hx] at e; cases e
      have nd : a ≠ d := fun z => by subst z; rw [hd] at e; cases e
      exact h3 a o nd (by rw [upd_ne _ _ nx, upd_ne _ _ nd]; exact e)
  · obtain ⟨rfl, t, d, t1, t2, lim, rfl, h1, h2, hI, hD, hT, q⟩ := hc
    exact (call_hm b hcp (by rw [hf, hme]; exact g11) T C (lv.less (by omega)) (by unfold small; omega) (by unfold small; omega) hI hD (look_tool _) (tool_no_cp _) (tool_no_cs _) hT q).toS
end

theorem wpSs_app {P : PC} {ys : List Sm} {Q : Fl → St → Prop} : ∀ (xs : List Sm), (wpSs P xs fun fl σ' => match fl with | .next => wpSs P ys Q σ' | .brk => Q .brk σ' | .cont => Q .cont σ' | .ret v => Q (.ret v) σ') = wpSs P (xs ++ ys) Q
  | [] => by funext σ; simp only [wpSs, List.nil_append]
  | x :: xs => by
    have ih := wpSs_app (P := P) (ys := ys) (Q := Q) xs
    funext σ
    simp only [wpSs, List.cons_append]
    rw [ih]
end Mine
set_option autoImplicit false
set_option maxRecDepth 10000
set_option linter.unusedVariables false
set_option linter.unusedSimpArgs false
namespace Mine
open PySem PyProof.Rows PySem.W

theorem bi_boot (b : Bi) : bootBuiltins (PySem.Str.ofString b.name) = some b.val := by
  cases b
  · show bootBuiltins "len" = some (.builtin "len"); boot_by_name
  · show bootBuiltins "min" = some (.builtin "min"); boot_by_name
  · show bootBuiltins "max" = some (.builtin "max"); boot_by_name
  · show bootBuiltins "sum" = some (.builtin "sum"); boot_by_name
  · show bootBuiltins "range" = some (.type "range"); boot_by_name
  · show bootBuiltins "list" = some (.type "list"); boot_by_name
  · show bootBuiltins "chr" = some (.builtin "chr"); boot_by_name
  · show bootBuiltins "ord" = some (.builtin "ord"); boot_by_name
noncomputable def lawChk (scope : Scope) (body : List Stmt) (ps rest : List PySem.Str) (C : SC) (mine : List Sm) : Bool :=
  locOk { (default : FuncData) with scope := scope } (ps ++ rest) && namesOk { (default : FuncData) with scope := scope } C && scope.kind == .function && chkSs C mine body

noncomputable def mem0 (P sc : Addr) (o : Obj) (ns : List Int) : Mem := fun a => if a = P then some (.raw (tabObj #[])) else if a = sc then some (.ro o (ns.map V.int)) else none

theorem rvs_ints {h : Heap} : ∀ {vs : List Value} {ns : List Int}, IntsAre vs ns → RVs h vs (ns.map V.int)
  | _, _, .nil => .nil
  | _, _, .cons n t r => .cons (.int n t) (rvs_ints r)

/-- a law's call at the top -/
theorem law_top {prog : Program} {w : World} {p : Program} {loose : List PySem.Str} {mean : ExcName → Option Value} {mg mb : PySem.Str → Option Value} {g h₁ : Heap} {K : Frag} {L sc fa Pt c91 : Addr} {s : Shared} {tk : Nat} {cd : Value} {name : PySem.Str} {scope : Scope} {body : List Stmt}
    {vals : List Value} {ns : List Int} {post : Flow → Shared → Prop} {E : Value → Shared → Prop} {rest : List PySem.Str} {names : List (PySem.Str × NameKind)} {fns meths : List String} {mine : List Sm}
    (X : K.In g) (T : Top p loose mean mg mb g) (F : Fr g L h₁ (fun x => List.lookup x [(("script" : PySem.Str), Value.ref sc)].reverse)) (N : News g L h₁ [(Pt, tabObj #[])]) (C : CodeHd g c91 Pt) (hl : g.IsList sc vals.toArray) (hI : IntsAre vals ns)
    (hbi : biChk K = true) (hnl : noList K = true) (hchk : lawChk scope body f_lawPs rest (locSC f_lawPs rest names fns meths) mine = true)
    (go : ∀ (ol : Obj) (G : GS), G.prog = prog → G.w = w → G.K = K → G.fns = fns → G.meths = meths → G.ok → G.bi → BM G → CodeHd G.base c91 Pt → mem0 Pt sc ol ns Pt = some (.raw (tabObj #[])) → mem0 Pt sc ol ns sc = some (.ro ol (ns.map V.int)) →
      ∃ P : PC, P.run G (callerA.deeper (envOf name scope L fa cd)) ∧ wpSs P mine (fun fl σ' => fl = .ret (.bool true) ∧ (∃ ps, σ'.mem Pt = some (.raw (tabObj ps))) ∧ σ'.mem sc = some (.ro ol (ns.map V.int))) ⟨[V.obj sc].map some ++ List.replicate rest.length none, mem0 Pt sc ol ns⟩)
    (hpost : ∀ s' : Shared, (∃ h tk, s' = { s with heap := h, toks := tk }) → (∀ b o, g.get? b = some o → s'.heap.get? b = some o) → (∃ ps, s'.heap.get? Pt = some (tabObj ps)) → post (.ret (.bool true)) s') :
    wpAny (model prog w) (callerA.deeper (envOf name scope L fa cd)) (execs body (envOf name scope L fa cd)) post E { s with heap := h₁, toks := tk } := by
  obtain ⟨ol, gl, cl, nl, dl⟩ := hl
  have hk : ∀ b o, (hideAll g [sc]).get? b = some o → g.get? b = some o := fun b o e => of_hideAll _ e
  have hne : ∀ b o, g.get? b = some o → (∀ xs n, o.data ≠ .seq xs n) → (hideAll g [sc]).get? b = some o := fun b o e hd => hideAll_get _ e fun q => by
    rw [List.mem_singleton] at q; subst q; rw [gl] at e; cases e; exact hd _ _ dl
  have nsk : ∀ {a m}, g.Ns a m → (hideAll g [sc]).Ns a m := fun ⟨o, es, ep, e, d, r⟩ => ⟨o, es, ep, hne _ _ e (fun xs n q => by rw [d] at q; cases q), d, r⟩
  have hsc : (hideAll g [sc]).get? sc = none := hideAll_none _ (List.mem_singleton.mpr rfl)
  have Xb : K.In (hideAll g [sc]) := fun a o e => by
    refine hideAll_get _ (X a o e) fun q => ?_
    rw [List.mem_singleton] at q; subst q
    have h2 := List.all_eq_true.mp hnl _ (mem_of_lookupK e)
    have := X _ _ e
    rw [gl] at this; cases this
    simp [cl] at h2
  have nP := N (Pt, tabObj #[]) (List.mem_singleton.mpr rfl)
  have hPs : Pt ≠ sc := fun q => by have := nP.2.2; rw [show ((Pt, tabObj #[]) : Addr × Obj).1 = sc from q, gl] at this; cases this
  have hbP : (hideAll g [sc]).get? Pt = none := by
    cases q : (hideAll g [sc]).get? Pt with
    | none => rfl
    | some o => have := hk _ _ q; rw [nP.2.2] at this; cases this
  let G : GS := ⟨prog, w, s, hideAll g [sc], (hideAll g [sc]).get?, mg, mb, K, fns, meths⟩
  have gok : G.ok := ⟨nsk T.g, nsk T.b, let ⟨mc, a, r⟩ := T.nolimit; ⟨mc, nsk a, r⟩, Xb⟩
  have gbi : G.bi := ⟨fun b => by
    have hb := List.all_eq_true.mp hbi b.name (by cases b <;> simp [Bi.name])
    exact ⟨mg_none_of X T.g (beq_iff_eq.mp hb), (T.builtins _ (by cases b <;> decide +kernel)).trans (bi_boot b)⟩⟩
  have bm : BM G := by
    obtain ⟨bm, ob, b1, b2, b3, b4, b5, b6⟩ := T.bmain
    exact ⟨bm, ob, b1, b2, hne _ _ b3 (fun xs n q => by rw [b6] at q; cases q), b4, b5, b6⟩
  have Cb : CodeHd G.base c91 Pt := by
    obtain ⟨o, vs, file, tf, flags, tg, inF, text, tt, e1, r1, r2, r⟩ := C
    exact ⟨o, vs, file, tf, flags, tg, inF, text, tt, hne _ _ e1 (fun xs n q => by rw [r2] at q; cases q), r1, r2, r⟩
  have m1 : mem0 Pt sc ol ns Pt = some (.raw (tabObj #[])) := by simp [mem0]
  have m2 : mem0 Pt sc ol ns sc = some (.ro ol (ns.map V.int)) := by unfold mem0; rw [if_neg (Ne.symm hPs), if_pos rfl]
  obtain ⟨P, run, wp⟩ := go ol G rfl rfl rfl rfl rfl gok gbi bm Cb m1 m2
  unfold lawChk at hchk
  simp only [Bool.and_eq_true, beq_iff_eq] at hchk
  obtain ⟨⟨⟨c1, c2⟩, c3⟩, c4⟩ := hchk
  have ok : FE.ok ⟨envOf name scope L fa cd, (f_lawPs ++ rest).map (·, .loc)⟩ := loc_ok c1 rfl c3 rfl rfl
  have hC : (locSC f_lawPs rest names fns meths).ok G ⟨envOf name scope L fa cd, (f_lawPs ++ rest).map (·, .loc)⟩ := sc_ok c2 rfl (fun _ h => h) (fun _ h => h)
  have Lsc : L ≠ sc := Ne.symm (Nat.ne_of_lt (Nat.lt_of_lt_of_le (Heap.lt_size gl) F.above))
  have hLb : (hideAll g [sc]).get? L = none := by
    cases q : (hideAll g [sc]).get? L with
    | none => rfl
    | some o => exact absurd (Nat.lt_of_lt_of_le (Heap.lt_size (hk _ _ q)) F.above) (Nat.lt_irrefl _)
  have r0 : Rep G ⟨envOf name scope L fa cd, (f_lawPs ++ rest).map (·, .loc)⟩ (hideAll g [sc]).get? ⟨[V.obj sc].map some ++ List.replicate rest.length none, mem0 Pt sc ol ns⟩ { s with heap := h₁, toks := tk } := by
    refine ⟨⟨h₁, tk, rfl⟩, fun _ _ e => e, fun _ _ e => e, fun b o e => F.keep b o (hk _ _ e), ?_, ?_, ?_, hLb, ?_, ?_, ?_, ?_⟩
    · intro a o e
      replace e : mem0 Pt sc ol ns a = some o := e
      unfold mem0 at e
      split at e
      · rename_i q; subst q; cases e; exact .raw nP.1 (by simp [Imm])
      · split at e
        · rename_i q; subst q; cases e; exact .ro (F.keep _ _ gl) cl dl (rvs_ints hI)
        · cases e
    · intro a o e
      replace e : mem0 Pt sc ol ns a = some o := e
      unfold mem0 at e
      split at e
      · rename_i q; subst q; exact hbP
      · split at e
        · rename_i q; subst q; exact hsc
        · cases e
    · show (hideAll g [sc]).objs.size ≤ L
      rw [hideAll_size]; exact F.above
    · show mem0 Pt sc ol ns L = none
      unfold mem0; rw [if_neg (Ne.symm nP.2.1), if_neg Lsc]
    · refine ⟨_, F.ns, fun i x v hx hv => ?_⟩
      obtain ⟨hx, _⟩ := vars_get hx
      cases i with
      | zero =>
        simp only [f_lawPs, List.cons_append, List.nil_append, List.getElem?_cons_zero, Option.some.injEq] at hx
        subst hx
        simp only [List.map_cons, List.map_nil, List.cons_append, List.getElem?_cons_zero, Option.some.injEq] at hv
        subst hv
        exact ⟨.ref sc, by simp [List.lookup], .obj sc⟩
      | succ i =>
        simp only [List.map_cons, List.map_nil, List.cons_append, List.nil_append, List.getElem?_cons_succ, List.getElem?_replicate] at hv
        split at hv <;> cases hv
    · intro i x c hx; cases (vars_get hx).2
    · intro i x c hx; cases (vars_get hx).2
  have rm : Rm (callerA.deeper (envOf name scope L fa cd)) := ⟨rfl, by show callerA.units + 3 + 64 < cLine; decide⟩
  refine (soundSs gok gbi rm ok hC run mine body c4 wp).then r0 fun cf fl σ₁ s₁ a1 r1 t1 w1 => ?_
  obtain ⟨rfl, ⟨ps, hps⟩, hS⟩ := w1
  cases a1 with
  | ret q =>
    cases q
    refine hpost s₁ r1.same (fun b o e => ?_) ?_
    · by_cases hb : b = sc
      · subst hb
        rw [gl] at e; cases e
        cases r1.hmem _ _ hS with
        | ro g' _ _ _ => exact g'
      · exact r1.hfrz b o (hideAll_get _ e (fun q => hb (List.mem_singleton.mp q)))
    · cases r1.hmem _ _ hps with
      | raw g _ => exact ⟨ps, g⟩
end Mine
set_option autoImplicit false
set_option maxRecDepth 10000
set_option linter.unusedVariables false
set_option linter.unusedSimpArgs false
namespace Mine
open PySem PyProof.Rows PySem.W

theorem callerLv : Lv callerA 5 := ⟨rfl, by show 301 + 5 < 1000; omega, by show callerA.units + 4 * 5 + 80 < cLine; decide⟩

theorem law1_top {prog : Program} {w : World} {p : Program} {loose : List PySem.Str} {mean : ExcName → Option Value} {mg mb : PySem.Str → Option Value} {g h₁ : Heap} {K : Frag} {L sc fa Pt c91 : Addr} {s : Shared} {tk : Nat} {cd : Value} {name : PySem.Str} {scope : Scope} {body : List Stmt}
    {vals : List Value} {ns : List Int} {post : Flow → Shared → Prop} {E : Value → Shared → Prop}
    (X : K.In g) (T : Top p loose mean mg mb g) (F : Fr g L h₁ (fun x => List.lookup x [(("script" : PySem.Str), Value.ref sc)].reverse)) (N : News g L h₁ [(Pt, tabObj #[])]) (C : CodeHd g c91 Pt) (hl : g.IsList sc vals.toArray) (hI : IntsAre vals ns) (hn : ¬ (63 : Int) < (ns.length : Int))
    (hK : chk1 K c91 = true) (hchk : lawChk scope body f_lawPs f_lawRest (locSC f_lawPs f_lawRest f_lawNames fns1 meths1) f_lawBody = true)
    (hpost : ∀ s' : Shared, (∃ h tk, s' = { s with heap := h, toks := tk }) → (∀ b o, g.get? b = some o → s'.heap.get? b = some o) → (∃ ps, s'.heap.get? Pt = some (tabObj ps)) → post (.ret (.bool true)) s') :
    wpAny (model prog w) (callerA.deeper (envOf name scope L fa cd)) (execs body (envOf name scope L fa cd)) post E { s with heap := h₁, toks := tk } := by
  have hK' := hK
  unfold chk1 at hK'
  simp only [Bool.and_eq_true] at hK'
  refine law_top X T F N C hl hI hK'.1.1.1.1.1.1.1.1.1.1.1.2 hK'.1.1.1.1.1.1.1.1.1.1.2 hchk (fun ol G e1 e2 e3 e4 e5 gok gbi bm Cb m1 m2 => ?_) hpost
  subst e3
  refine ⟨_, runW gok gbi e4 e5 hK bm Cb (callerLv.deeper _), ?_⟩
  unfold f_lawBody
  rw [← wpSs_app]
  refine w_lawA _ _ sc ns _ (by omega) ol m2 fun a b x3 x4 m' ha hb hE => ?_
  refine w_lawB _ _ Pt _ _ rfl (fun _ _ _ _ h => h) (fun _ _ _ _ h => h) rfl _ sc ns a b x3 x4 m' (by omega) ha hb ol (hE _ _ m2) (.inl (hE _ _ m1)) fun σ hT hS => ?_
  exact ⟨rfl, hT.grown, hS⟩
end Mine
open PySem PySem.W PyProof.Rows
set_option Elab.async false
namespace Mine
noncomputable def fragAt (as : List Addr) (h : Heap) : Frag := as.filterMap fun a => (h.get? a).map fun o => (a, o)
theorem fragAt_in {as : List Addr} {h : Heap} : (fragAt as h).In h := fun a o e => by
  have := mem_of_lookupK e
  unfold fragAt at this
  rw [List.mem_filterMap] at this
  obtain ⟨b, _, e⟩ := this
  rw [Option.map_eq_some_iff] at e
  obtain ⟨x, e1, e2⟩ := e
  cases e2
  exact e1
/-- what the own hook sees: a test over the written part, and empty tables -/
noncomputable def myHook (chk : Frag → Bool) (as ts : List Addr) : Hook where
  α := Bool × List (Option Obj)
  obs := fun s => (chk (fragAt as s.heap), ts.map s.heap.get?)
  val := fun _ => (true, ts.map fun _ => some (tabObj #[]))
  says := fun _ h => (∃ K : Frag, K.In h ∧ chk K = true) ∧ ∀ P, P ∈ ts → h.get? P = some (tabObj #[])
  of := fun _ _ x => ⟨⟨_, fragAt_in, (Prod.mk.inj x).1⟩, List.map_inj_left.mp (Prod.mk.inj x).2⟩
  keeps := fun _ _ _ x k => ⟨let ⟨K, a, b⟩ := x.1; ⟨K, fun p o e => k _ _ (a p o e), b⟩, fun P hP => k _ _ (x.2 P hP)⟩
theorem left_boot {p q : Program} {loose : List PySem.Str} {Xt : Shared → Bool} {α : Type} {Yf : Shared → α} {Ya : World → α} {N : Nat} {g0 : Bool}
    (hb : ∀ w : World, (fencedOpening treeTable p w N).map (fun s => (s.heap, s.gens, s.drawn, s.toks)) = some (boot_heap w.params, Array.mk [], boot_drawn, boot_toks))
    (h : ∀ (w : World) (os : OsState), (topFrom treeTable p w N ⟨boot_heap w.params, Array.mk [], boot_drawn, boot_toks, os⟩).map (fun s => (openSeen q loose (importedModules p.main.body) Xt g0 s, Yf s)) = some (openGood q loose, Ya w)) :
    LeftO p q loose Xt Yf Ya N g0 := fun w => by
  obtain ⟨⟨h0, gs, d, k, os⟩, e, e'⟩ := Option.map_eq_some_iff.mp (hb w)
  cases e'
  unfold openEnds
  rw [e]
  exact h w os
noncomputable def vw : Program := view PySem.Challenge.pw_im0119_01 [0, 2, 4, 5, 6]
noncomputable def topChk (K : Frag) : Bool := chk1 K 91 && codeHdIn K 91 87 && noTabs K
noncomputable def topHook : Hook := myHook topChk [2, 3, 15, 17, 18, 20, 21, 29, 31, 32, 34, 35, 36, 37, 39, 40, 42, 43, 44, 46, 47, 49, 50, 51, 53, 54, 56, 57, 58, 60, 61, 63, 64, 65, 67, 68, 70, 71, 72, 74, 75, 77, 78, 79, 81, 82, 84, 85, 86, 88, 89, 91, 92, 93, 95, 96, 98, 99, 100, 102, 103, 105, 106, 107, 109, 110, 112, 113, 114, 116, 117, 119, 120, 121, 123, 124, 126, 127, 128, 130, 131, 133, 134, 135, 136, 137, 138, 139, 142, 144, 145, 147, 148, 149, 151, 152, 154, 155, 156, 158, 159, 161, 162] [87]
set_option maxRecDepth 100000 in
theorem boot1 : ∀ w : World, (fencedOpening treeTable PySem.Challenge.pw_im0119_01 w 1000).map (fun s => (s.heap, s.gens, s.drawn, s.toks)) = some (boot_heap w.params, Array.mk [], boot_drawn, boot_toks) :=
  boot_open rfl (by decide) (fun s => rfl)
set_option maxRecDepth 100000 in
theorem left1 : LeftO PySem.Challenge.pw_im0119_01 vw ["diff_match_patch"] (fun s => xlAt vw [] s && recOk [] s) topHook.obs topHook.val 1000 := by
  refine left_boot boot1 fun w os => ?_
  kernel_rfl
end Mine
set_option maxRecDepth 100000 in
set_option maxHeartbeats 8000000 in
theorem PySem.Challenge.cw_im0119_01_holds : PySem.Challenge.rw_im0119_01.Holds := by
  w_on
  refine holds_law (by kernel_rfl) fun said => ?_
  refine holds_open (q := Mine.vw) (XP := XL Mine.vw []) (YP := Mine.topHook.says) Mine.left1 Mine.topHook.of Mine.topHook.keeps (fun s e => xl_of s (Bool.and_eq_true_iff.mp e).1) XL.keeps (by rfl) (by rfl) (by rfl) (fun s e => recFacts_of (Bool.and_eq_true_iff.mp e).2) (by rfl) (by first | assumption | decide +kernel) (by decide +kernel) ⟨rfl, rfl, rfl, rfl, rfl, by decide +kernel⟩ ?hw ?hc
  (case hw => w_witness2)
  intro w s₀ s₁ mg mb G Y fa o pm cd doc dV kV ho hd hcd hD hmg hg args vals as hpre hlay hrd hwl hlo
  obtain ⟨⟨K, KX, hchk⟩, hT8⟩ := Y
  have hchk := Bool.and_eq_true_iff.mp hchk
  have hch2 := Bool.and_eq_true_iff.mp hchk.1
  refine Ground.open G ?_
  intro T B D TE TW
  try (refine guard_noD D (by decide +kernel) ?_; clear D)
  have hT9 : TabsAt [(91, 87)] s₁.heap := List.forall_mem_cons.mpr ⟨⟨codeHd_of_K (c := 91) (P := 87) KX hch2.2, hT8 87 (List.mem_singleton.mpr rfl)⟩, fun _ h => nomatch h⟩
  clear hmg
  wrow_args hpre hlay hrd hwl hlo
  refine enter_call ?_
  w_top on
  kn_posts
  w_call any ho hd hcd hD T F
  clear hd
  rename News _ _ _ _ => N
  rename Heap.IsList _ _ _ => hl
  refine' Mine.law1_top (Pt := 87) (c91 := 91) (ghost_K hT9 KX hchk.2) (ghost_top hT9 T) (ghost_fr hT9 F) (ghost_news hT9 F N) (ghost_code hT9).1 (ghost_list hT9 hl) ?minehI ?minehn hch2.1 ?minehchk ?minehpost
  (case minehI => assumption)
  (case minehn => assumption)
  (case minehchk => decide +kernel)
  (case minehpost => (intro s' hs hkeep hgr; obtain ⟨h, tk, rfl⟩ := hs; refine And.intro ?minep1 (And.intro hgr trivial); (show GoodW _ _ _ _ _ (.ok (.ret (.bool _))) _); refine' And.intro (Or.inl ⟨_, _, [], rfl, raisesW_false ?minep2, .bool true, ?minep3, unshared_nil⟩) ⟨hkeep, rfl, ?minep4⟩; (case minep2 => wrow_none_raised); (case minep3 => first | wrow_post | kc_post); (case minep4 => assumption)))
