import PyProof.Rows.All
import Wide.All
import OpenK.AllK
import Wide.FinOn
import PySem.Challenge.RW_im0119_06
set_option Elab.async false
set_option genSizeOf false
set_option genInjectivity false
set_option bootstrap.genMatcherCode false
set_option compiler.extract_closed false
set_option autoImplicit false
set_option maxRecDepth 10000
set_option linter.unusedVariables false
set_option linter.unusedSimpArgs false
namespace Mine.Internal
open PySem PyProof.Rows PySem.W
theorem bc {G : Prop} (h : ¬G → False) : G := Classical.byContradiction h
abbrev Tx := List Char
noncomputable abbrev mkS (x : Tx) : Str := ⟨(x.map Char.toNat).toArray⟩
set_option genCtorIdx false in
inductive V where
  | none
  | bool (b : Bool)
  | int (i : Int)
  | str (s : Tx)
  | flt (x : UInt64)
  | tup (vs : List V)
  | rng (a b c : Int)
  | obj (a : Addr)
noncomputable def V.ctorIdx (x : V) : Nat := V.casesOn (motive_1 := fun _ => Nat) x 0 (fun _ => 1) (fun _ => 2) (fun _ => 3) (fun _ => 4) (fun _ => 5) (fun _ _ _ => 6) (fun _ => 7)
set_option genCtorIdx false in
inductive O where
  | list (vs : List V)
  | ro (o : Obj) (vs : List V)
  | raw (o : Obj)
  | inst (C d : Addr)
  | dict (fs : List (Str × V))
noncomputable def O.ctorIdx (x : O) : Nat := O.casesOn (motive := fun _ => Nat) x (fun _ => 0) (fun _ _ => 1) (fun _ => 2) (fun _ _ => 3) (fun _ => 4)
abbrev Mem := Addr → Option O
structure St where
  loc : List (Option V)
  mem : Mem
set_option genCtorIdx false in
inductive Fl where
  | next | brk | cont
  | ret (v : V)
mutual
inductive RV (h : Heap) : Value → V → Prop
  | none : RV h .none .none
  | bool (b : Bool) : RV h (.bool b) (.bool b)
  | int (i : Int) (t : Tok) : RV h (.int i t) (.int i)
  | str (x : Tx) (t : Tok) : RV h (.str (mkS x) t) (.str x)
  | flt (x : UInt64) (t : Tok) : RV h (.float x t) (.flt x)
  | tup {a : Addr} {arr : Array Value} {n : Nat} {xs : List V} : h.get? a = some { cls := .type "tuple", data := .seq arr n } → RVs h arr.toList xs → RV h (.ref a) (.tup xs)
  | rng {a : Addr} {x y z : Int} {t u w : Tok} : h.get? a = some { cls := .type "range", data := .fields #[.int x t, .int y u, .int z w] } → RV h (.ref a) (.rng x y z)
  | obj (a : Addr) : RV h (.ref a) (.obj a)
inductive RVs (h : Heap) : List Value → List V → Prop
  | nil : RVs h [] []
  | cons {v : Value} {x : V} {vs : List Value} {xs : List V} : RV h v x → RVs h vs xs → RVs h (v :: vs) (x :: xs)
end
noncomputable def Imm (o : Obj) : Prop := (o.cls = .type "tuple" ∧ ∃ xs n, o.data = .seq xs n) ∨ (o.cls = .type "range" ∧ ∃ xs, o.data = .fields xs ∧ ∃ x t, xs[1]? = some (.int x t))
noncomputable def TK (h h' : Heap) : Prop := ∀ b o, h.get? b = some o → Imm o → h'.get? b = some o
theorem TK.refl (h : Heap) : TK h h := fun _ _ e _ => e
theorem TK.trans {h h' h'' : Heap} (a : TK h h') (b : TK h' h'') : TK h h'' := fun x o e c => b x o (a x o e c) c
theorem TK.of {h h' : Heap} (a : ∀ b o, h.get? b = some o → h'.get? b = some o) : TK h h' := fun x o e _ => a x o e
theorem RV.both {h : Heap} {M : Value → V → Prop} {N : List Value → List V → Prop} (h1 : M .none .none) (h2 : ∀ b, M (.bool b) (.bool b)) (h3 : ∀ i t, M (.int i t) (.int i)) (h4 : ∀ x t, M (.str (mkS x) t) (.str x)) (h5 : ∀ x t, M (.float x t) (.flt x))
    (h6 : ∀ (a : Addr) (arr : Array Value) (n : Nat) (xs : List V), h.get? a = some { cls := .type "tuple", data := .seq arr n } → N arr.toList xs → M (.ref a) (.tup xs))
    (h7 : ∀ (a : Addr) (x y z : Int) (t u w : Tok), h.get? a = some { cls := .type "range", data := .fields #[.int x t, .int y u, .int z w] } → M (.ref a) (.rng x y z)) (h8 : ∀ a, M (.ref a) (.obj a)) (n1 : N [] [])
    (n2 : ∀ (v : Value) (x : V) (vs : List Value) (xs : List V), RV h v x → RVs h vs xs → M v x → N vs xs → N (v :: vs) (x :: xs)) :
    (∀ {v : Value} {x : V}, RV h v x → M v x) ∧ ∀ {vs : List Value} {xs : List V}, RVs h vs xs → N vs xs :=
  ⟨fun r => RV.rec (motive_1 := fun v x _ => M v x) (motive_2 := fun v x _ => N v x) h1 h2 h3 h4 h5 (fun e _ q => h6 _ _ _ _ e q) (fun e => h7 _ _ _ _ _ _ _ e) h8 n1 (fun a b c d => n2 _ _ _ _ a b c d) r,
   fun r => RVs.rec (motive_1 := fun v x _ => M v x) (motive_2 := fun v x _ => N v x) h1 h2 h3 h4 h5 (fun e _ q => h6 _ _ _ _ e q) (fun e => h7 _ _ _ _ _ _ _ e) h8 n1 (fun a b c d => n2 _ _ _ _ a b c d) r⟩
theorem RV.tks {h h' : Heap} (k : TK h h') : (∀ {v : Value} {x : V}, RV h v x → RV h' v x) ∧ ∀ {vs : List Value} {xs : List V}, RVs h vs xs → RVs h' vs xs :=
  RV.both (M := RV h') (N := RVs h') .none .bool .int .str .flt (fun _ _ _ _ e r => .tup (k _ _ e (.inl ⟨rfl, _, _, rfl⟩)) r) (fun _ _ _ _ _ _ _ e => .rng (k _ _ e (.inr ⟨rfl, _, rfl, _, _, rfl⟩))) .obj .nil (fun _ _ _ _ _ _ a r => .cons a r)
theorem RV.tk {h h' : Heap} (k : TK h h') {v : Value} {x : V} (r : RV h v x) : RV h' v x := (RV.tks k).1 r
theorem RVs.tk {h h' : Heap} (k : TK h h') {v : List Value} {x : List V} (r : RVs h v x) : RVs h' v x := (RV.tks k).2 r
theorem RVs.ind {h : Heap} {N : List Value → List V → Prop} (n1 : N [] []) (n2 : ∀ (v : Value) (x : V) (vs : List Value) (xs : List V), RV h v x → RVs h vs xs → N vs xs → N (v :: vs) (x :: xs)) {vs : List Value} {xs : List V} (r : RVs h vs xs) : N vs xs :=
  (RV.both (h := h) (M := fun _ _ => True) (N := N) trivial (fun _ => trivial) (fun _ _ => trivial) (fun _ _ => trivial) (fun _ _ => trivial) (fun _ _ _ _ _ _ => trivial) (fun _ _ _ _ _ _ _ _ => trivial) (fun _ => trivial) n1 (fun v x vs xs a b _ d => n2 v x vs xs a b d)).2 r
theorem RVs.length {h : Heap} {vs : List Value} {xs : List V} (r : RVs h vs xs) : vs.length = xs.length := RVs.ind (N := fun vs xs => vs.length = xs.length) rfl (fun _ _ _ _ _ _ e => congrArg (· + 1) e) r
theorem RVs.append {h : Heap} {vs ws : List Value} {xs ys : List V} (r : RVs h vs xs) (b : RVs h ws ys) : RVs h (vs ++ ws) (xs ++ ys) := RVs.ind (N := fun vs xs => RVs h (vs ++ ws) (xs ++ ys)) b (fun _ _ _ _ a _ e => .cons a e) r
theorem RVs.get {h : Heap} {vs : List Value} {xs : List V} (r : RVs h vs xs) : ∀ {i : Nat} {x : V}, xs[i]? = some x → ∃ v, vs[i]? = some v ∧ RV h v x := by
  refine RVs.ind (N := fun vs xs => ∀ {i : Nat} {x : V}, xs[i]? = some x → ∃ v, vs[i]? = some v ∧ RV h v x) ?_ ?_ r
  · intro i x e; cases i <;> exact (Option.some_ne_none _ e.symm).elim
  · intro v x vs xs a _ ih i y e
    cases i with
    | zero => cases e; exact ⟨_, rfl, a⟩
    | succ i => exact ih (i := i) e
theorem RVs.take {h : Heap} {vs : List Value} {xs : List V} (r : RVs h vs xs) : ∀ n : Nat, RVs h (vs.take n) (xs.take n) := by
  refine RVs.ind (N := fun vs xs => ∀ n : Nat, RVs h (vs.take n) (xs.take n)) ?_ ?_ r
  · intro n; cases n <;> exact .nil
  · intro v x vs xs a _ ih n
    cases n with
    | zero => exact .nil
    | succ n => exact .cons a (ih n)
theorem RVs.drop {h : Heap} {vs : List Value} {xs : List V} (r : RVs h vs xs) : ∀ n : Nat, RVs h (vs.drop n) (xs.drop n) := by
  refine RVs.ind (N := fun vs xs => ∀ n : Nat, RVs h (vs.drop n) (xs.drop n)) ?_ ?_ r
  · intro n; cases n <;> exact .nil
  · intro v x vs xs a b ih n
    cases n with
    | zero => exact .cons a b
    | succ n => exact ih n
theorem RVs.set {h : Heap} {vs : List Value} {xs : List V} (r : RVs h vs xs) : ∀ (n : Nat) {v : Value} {x : V}, RV h v x → RVs h (vs.set n v) (xs.set n x) := by
  refine RVs.ind (N := fun vs xs => ∀ (n : Nat) {v : Value} {x : V}, RV h v x → RVs h (vs.set n v) (xs.set n x)) ?_ ?_ r
  · intro n _ _ _; cases n <;> exact .nil
  · intro v x vs xs a b ih n _ _ c
    cases n with
    | zero => exact .cons c b
    | succ n => exact .cons a (ih n c)
theorem RVs.one {h : Heap} {v : Value} {x : V} (r : RV h v x) : RVs h [v] [x] := .cons r .nil
section
variable {h : Heap} {cv : Value} {cs : List Value} {M : Value → Prop} {N : List Value → Prop}
@[elab_as_elim] theorem RV.eN (r : RV h cv .none) (k : M .none) : M cv := by cases r; exact k
@[elab_as_elim] theorem RV.eB {b : Bool} (r : RV h cv (.bool b)) (k : M (.bool b)) : M cv := by cases r; exact k
@[elab_as_elim] theorem RV.eI {i : Int} (r : RV h cv (.int i)) (k : ∀ t, M (.int i t)) : M cv := by cases r; exact k _
@[elab_as_elim] theorem RV.eS {x : Tx} (r : RV h cv (.str x)) (k : ∀ t, M (.str (mkS x) t)) : M cv := by cases r; exact k _
@[elab_as_elim] theorem RV.eT {xs : List V} (r : RV h cv (.tup xs)) (k : ∀ a arr n, h.get? a = some { cls := .type "tuple", data := .seq arr n } → RVs h arr.toList xs → M (.ref a)) : M cv := by cases r with | tup g q => exact k _ _ _ g q
@[elab_as_elim] theorem RV.eO {a : Addr} (r : RV h cv (.obj a)) (k : M (.ref a)) : M cv := by cases r; exact k
@[elab_as_elim] theorem RVs.e0 (r : RVs h cs []) (k : N []) : N cs := by cases r; exact k
@[elab_as_elim] theorem RVs.eC {x : V} {xs : List V} (r : RVs h cs (x :: xs)) (k : ∀ c cs, RV h c x → RVs h cs xs → N (c :: cs)) : N cs := by cases r with | cons a b => exact k _ _ a b
@[elab_as_elim] theorem RVs.e1 {x : V} (r : RVs h cs [x]) (k : ∀ c, RV h c x → N [c]) : N cs := by cases r with | cons a b => cases b; exact k _ a
@[elab_as_elim] theorem RVs.e2 {x y : V} (r : RVs h cs [x, y]) (k : ∀ c d, RV h c x → RV h d y → N [c, d]) : N cs := by cases r with | cons a b => cases b with | cons c d => cases d; exact k _ _ a c
@[elab_as_elim] theorem RVs.e3 {x y z : V} (r : RVs h cs [x, y, z]) (k : ∀ c d e, RV h c x → RV h d y → RV h e z → N [c, d, e]) : N cs := by cases r with | cons a b => cases b with | cons c d => cases d with | cons e f => cases f; exact k _ _ _ a c e
end
noncomputable def Fields (h : Heap) : List DictEntry → List (Str × V) → Prop
  | [], [] => True
  | e :: es, f :: fs => (∃ t, e.key = .str f.1 t) ∧ RV h e.val f.2 ∧ Fields h es fs
  | _, _ => False
theorem Fields.tk {h h' : Heap} (k : TK h h') : ∀ {es : List DictEntry} {fs : List (Str × V)}, Fields h es fs → Fields h' es fs
  | [], [], _ => trivial
  | _ :: _, _ :: _, ⟨a, b, c⟩ => ⟨a, b.tk k, Fields.tk k c⟩
  | [], _ :: _, x => x.elim
  | _ :: _, [], x => x.elim
inductive RO (h : Heap) (a : Addr) : O → Prop
  | list {arr : Array Value} {n : Nat} {vs : List V} : h.get? a = some { cls := .type "list", data := .seq arr n } → RVs h arr.toList vs → RO h a (.list vs)
  | ro {arr : Array Value} {n : Nat} {o : Obj} {vs : List V} : h.get? a = some o → o.cls = .type "list" → o.data = .seq arr n → RVs h arr.toList vs → RO h a (.ro o vs)
  | raw {o : Obj} : h.get? a = some o → ¬ Imm o → RO h a (.raw o)
  | inst {C d : Addr} : h.get? a = some (instObj C d) → RO h a (.inst C d)
  | dict {es : List DictEntry} {n : Nat} {fs : List (Str × V)} : h.get? a = some (dictOf es n) → Fields h es fs → RO h a (.dict fs)
theorem RO.l {h : Heap} {a : Addr} {vs : List V} (r : RO h a (.list vs)) : ∃ arr n, h.get? a = some { cls := .type "list", data := .seq arr n } ∧ RVs h arr.toList vs ∧ arr.size = vs.length := by
  cases r with
  | list g q => exact ⟨_, _, g, q, q.length⟩
theorem RO.obj {h : Heap} {a : Addr} {o : O} (r : RO h a o) : ∃ x, h.get? a = some x ∧ ¬ Imm x := by
  cases r with
  | list e _ => exact ⟨_, e, by simp [Imm]⟩
  | ro e c _ _ => exact ⟨_, e, by rw [Imm, c]; simp⟩
  | raw e c => exact ⟨_, e, c⟩
  | inst e => exact ⟨_, e, by simp [Imm]⟩
  | dict e _ => exact ⟨_, e, by simp [Imm]⟩
theorem RO.lt {h : Heap} {a : Addr} {o : O} (r : RO h a o) : a < h.objs.size := let ⟨_, e, _⟩ := r.obj; Heap.lt_size e
theorem RO.keep {h h' : Heap} {a : Addr} {o : O} (r : RO h a o) (k : TK h h') (e : ∀ x, h.get? a = some x → h'.get? a = some x) : RO h' a o := by
  cases r with
  | list g s => exact .list (e _ g) (s.tk k)
  | ro g c d s => exact .ro (e _ g) c d (s.tk k)
  | raw g c => exact .raw (e _ g) c
  | inst g => exact .inst (e _ g)
  | dict g s => exact .dict (e _ g) (s.tk k)
structure GS where
  prog : Program
  w : World
  s0 : Shared
  base : Heap
  keep : Addr → Option Obj
  mg : Str → Option Value
  mb : Str → Option Value
  K : Frag
  fns : List String
  meths : List String
structure GS.ok (G : GS) : Prop where
  g : G.base.Ns mainGlobals G.mg
  b : G.base.Ns builtinsNs G.mb
  lim : G.base.NoLimit
  k : G.K.In G.base
set_option genCtorIdx false in
inductive VK where
  | loc
  | own (c : Addr)
  | ref (c : Addr)
noncomputable def VK.ctorIdx (x : VK) : Nat := VK.casesOn (motive := fun _ => Nat) x 0 (fun _ => 1) (fun _ => 2)
structure FE where
  env : Env
  vars : List (Str × VK)
structure FE.ok (Γ : FE) : Prop where
  fn : Γ.env.scope.kind = .function
  glb : Γ.env.globals = mainGlobals
  bui : Γ.env.builtins = builtinsNs
  loc : ∀ (i : Nat) x, Γ.vars[i]? = some (x, .loc) → Γ.env.kindOf x = some .local
  own : ∀ (i : Nat) x c, Γ.vars[i]? = some (x, .own c) → Γ.env.kindOf x = some .cell ∧ Γ.env.cells.lookup x = some c ∧ c ≠ Γ.env.locals
  ref : ∀ (i : Nat) x c, Γ.vars[i]? = some (x, .ref c) → (Γ.env.kindOf x = some .cell ∨ Γ.env.kindOf x = some .free) ∧ Γ.env.cells.lookup x = some c
  names : ∀ (i j : Nat) x k k', Γ.vars[i]? = some (x, k) → Γ.vars[j]? = some (x, k') → i = j
  cells : ∀ (i j : Nat) x y c, Γ.vars[i]? = some (x, .own c) → Γ.vars[j]? = some (y, .own c) → i = j
  dbg : ∀ (i : Nat) x k, Γ.vars[i]? = some (x, k) → (x == ("__debug__" : Str)) = false ∧ (x == ("__classdict__" : Str)) = false
abbrev Frz := Addr → Option Obj
structure Rep (G : GS) (Γ : FE) (frz : Frz) (σ : St) (s : Shared) : Prop where
  same : ∃ h tk, s = { G.s0 with heap := h, toks := tk }
  hbase : ∀ b o, G.base.get? b = some o → frz b = some o
  hkeep : ∀ b o, G.keep b = some o → frz b = some o
  hfrz : ∀ b o, frz b = some o → s.heap.get? b = some o
  hmem : ∀ a o, σ.mem a = some o → RO s.heap a o
  hmemF : ∀ a o, σ.mem a = some o → frz a = none
  hab : G.base.objs.size ≤ Γ.env.locals
  hlf : frz Γ.env.locals = none
  hlm : σ.mem Γ.env.locals = none
  hns : ∃ m, s.heap.Ns Γ.env.locals m ∧ ∀ (i : Nat) x v, Γ.vars[i]? = some (x, .loc) → σ.loc[i]? = some (some v) → ∃ cv, m x = some cv ∧ RV s.heap cv v
  hown : ∀ (i : Nat) x c, Γ.vars[i]? = some (x, .own c) → frz c = none ∧ σ.mem c = none ∧ ∃ o ov, s.heap.get? c = some o ∧ o.data = .cell ov ∧ ∀ v, σ.loc[i]? = some (some v) → ∃ cv, ov = some cv ∧ RV s.heap cv v
  href : ∀ (i : Nat) x c, Γ.vars[i]? = some (x, .ref c) → ∃ o ov, frz c = some o ∧ o.data = .cell ov ∧ ∀ v, σ.loc[i]? = some (some v) → ∃ cv, ov = some cv ∧ RV s.heap cv v
structure Rp (G : GS) (frz : Frz) (m : Mem) (s : Shared) : Prop where
  same : ∃ h tk, s = { G.s0 with heap := h, toks := tk }
  hbase : ∀ b o, G.base.get? b = some o → frz b = some o
  hkeep : ∀ b o, G.keep b = some o → frz b = some o
  hfrz : ∀ b o, frz b = some o → s.heap.get? b = some o
  hmem : ∀ a o, m a = some o → RO s.heap a o
  hmemF : ∀ a o, m a = some o → frz a = none
  hsz : G.base.objs.size ≤ s.heap.objs.size
noncomputable def upd (m : Mem) (a : Addr) (o : O) : Mem := fun b => if b = a then some o else m b
theorem ups (m : Mem) (a : Addr) (o : O) : upd m a o a = some o := by simp [upd]
theorem upn (m : Mem) {a b : Addr} (o : O) (h : b ≠ a) : upd m a o b = m b := by simp [upd, h]
theorem upd_upd (m : Mem) (a : Addr) (o o' : O) : upd (upd m a o) a o' = upd m a o' := by
  funext b; by_cases h : b = a <;> simp [upd, h]
section
variable {G : GS} {Γ : FE} {frz : Frz} {σ : St} {s : Shared}
structure Kp (L : Addr) (h h' : Heap) : Prop where
  all : ∀ b o, b ≠ L → h.get? b = some o → h'.get? b = some o
  ns : ∀ m, h.Ns L m → h'.Ns L m
theorem ns_not_imm {h : Heap} {L : Addr} {m : Str → Option Value} (n : h.Ns L m) {o : Obj} (e : h.get? L = some o) : ¬ Imm o := by
  obtain ⟨o', es, ep, e', d, _⟩ := n
  rw [e] at e'; cases e'
  rintro (⟨_, _, _, q⟩ | ⟨_, _, q, _⟩) <;> rw [d] at q <;> cases q
theorem Rep.kp_tk (r : Rep G Γ frz σ s) {h' : Heap} (k : Kp Γ.env.locals s.heap h') : TK s.heap h' := fun b o e i => by
  by_cases hb : b = Γ.env.locals
  · subst hb
    obtain ⟨m, n, _⟩ := r.hns
    exact absurd i (ns_not_imm n e)
  · exact k.all b o hb e
theorem Rep.mem_ne (r : Rep G Γ frz σ s) {a : Addr} {o : O} (e : σ.mem a = some o) : a ≠ Γ.env.locals := fun q => by subst q; rw [r.hlm] at e; exact (Option.some_ne_none _ e.symm).elim
theorem Rep.frz_ne (r : Rep G Γ frz σ s) {a : Addr} {o : Obj} (e : frz a = some o) : a ≠ Γ.env.locals := fun q => by subst q; rw [r.hlf] at e; exact (Option.some_ne_none _ e.symm).elim
theorem Rep.growL (ok : Γ.ok) (r : Rep G Γ frz σ s) {h' : Heap} {tk : Nat} (k : Kp Γ.env.locals s.heap h') : Rep G Γ frz σ { s with heap := h', toks := tk } where
  same := let ⟨_, _, e⟩ := r.same; ⟨h', tk, by rw [e]⟩
  hbase := r.hbase
  hkeep := r.hkeep
  hfrz := fun b o e => k.all b o (r.frz_ne e) (r.hfrz b o e)
  hmem := fun a o e => (r.hmem a o e).keep (r.kp_tk k) fun x => k.all a x (r.mem_ne e)
  hmemF := r.hmemF
  hab := r.hab
  hlf := r.hlf
  hlm := r.hlm
  hns := let ⟨m, n, f⟩ := r.hns; ⟨m, k.ns m n, fun i x v a b => let ⟨cv, e, q⟩ := f i x v a b; ⟨cv, e, q.tk (r.kp_tk k)⟩⟩
  hown := fun i x c e => let ⟨a, b, o, ov, g, d, f⟩ := r.hown i x c e; ⟨a, b, o, ov, k.all _ _ (ok.own i x c e).2.2 g, d, fun v q => let ⟨cv, e1, e2⟩ := f v q; ⟨cv, e1, e2.tk (r.kp_tk k)⟩⟩
  href := fun i x c a => let ⟨o, ov, e, d, f⟩ := r.href i x c a; ⟨o, ov, e, d, fun v b => let ⟨cv, e1, e2⟩ := f v b; ⟨cv, e1, e2.tk (r.kp_tk k)⟩⟩
theorem Rep.grow (r : Rep G Γ frz σ s) {h' : Heap} {tk : Nat} (k : ∀ b o, s.heap.get? b = some o → h'.get? b = some o) : Rep G Γ frz σ { s with heap := h', toks := tk } where
  same := let ⟨_, _, e⟩ := r.same; ⟨h', tk, by rw [e]⟩
  hbase := r.hbase
  hkeep := r.hkeep
  hfrz := fun b o e => k b o (r.hfrz b o e)
  hmem := fun a o e => (r.hmem a o e).keep (.of k) (k a)
  hmemF := r.hmemF
  hab := r.hab
  hlf := r.hlf
  hlm := r.hlm
  hns := let ⟨m, n, f⟩ := r.hns; ⟨m, n.keeps k, fun i x v a b => let ⟨cv, e, q⟩ := f i x v a b; ⟨cv, e, q.tk (.of k)⟩⟩
  hown := fun i x c e => let ⟨a, b, o, ov, g, d, f⟩ := r.hown i x c e; ⟨a, b, o, ov, k _ _ g, d, fun v q => let ⟨cv, e1, e2⟩ := f v q; ⟨cv, e1, e2.tk (.of k)⟩⟩
  href := fun i x c a => let ⟨o, ov, e, d, f⟩ := r.href i x c a; ⟨o, ov, e, d, fun v b => let ⟨cv, e1, e2⟩ := f v b; ⟨cv, e1, e2.tk (.of k)⟩⟩
theorem Rep.toks (r : Rep G Γ frz σ s) (tk : Nat) : Rep G Γ frz σ { s with toks := tk } := r.grow (h' := s.heap) fun _ _ e => e
theorem Rep.changeL (ok : Γ.ok) (r : Rep G Γ frz σ s) {a : Addr} {o₀ o : O} (ha : σ.mem a = some o₀) {h' : Heap} {tk : Nat}
    (k : ∀ b o, b ≠ a → b ≠ Γ.env.locals → s.heap.get? b = some o → h'.get? b = some o) (kn : ∀ m, s.heap.Ns Γ.env.locals m → h'.Ns Γ.env.locals m)
    (ro : TK s.heap h' → RO h' a o) : Rep G Γ frz { σ with mem := upd σ.mem a o } { s with heap := h', toks := tk } ∧ TK s.heap h' := by
  have tkk : TK s.heap h' := fun b x e c => by
    by_cases hb : b = a
    · subst hb
      refine bc fun z9 => ?_
      obtain ⟨y, ey, hy⟩ := (r.hmem _ _ ha).obj
      refine z9 ?_
      rw [e] at ey; cases ey; exact absurd c hy
    · by_cases hl : b = Γ.env.locals
      · subst hl
        refine bc fun z9 => ?_
        obtain ⟨m, n, _⟩ := r.hns
        refine z9 ?_
        exact absurd c (ns_not_imm n e)
      · exact k b x hb hl e
  have nf : ∀ b o, frz b = some o → b ≠ a := fun b o e q => by subst q; rw [r.hmemF _ _ ha] at e; exact (Option.some_ne_none _ e.symm).elim
  refine ⟨⟨let ⟨_, _, e⟩ := r.same; ⟨h', tk, by rw [e]⟩, r.hbase, r.hkeep, fun b o e => k b o (nf b o e) (r.frz_ne e) (r.hfrz b o e), ?_, ?_, r.hab, r.hlf, ?_, ?_, ?_, ?_⟩, tkk⟩
  · intro b x e
    replace e : upd _ _ _ _ = _ := e
    by_cases hb : b = a
    · subst hb; rw [ups] at e; cases e; exact ro tkk
    · rw [upn _ _ hb] at e; exact (r.hmem b x e).keep tkk fun y => k b y hb (r.mem_ne e)
  · intro b x e
    replace e : upd _ _ _ _ = _ := e
    by_cases hb : b = a
    · subst hb; exact r.hmemF _ _ ha
    · rw [upn _ _ hb] at e; exact r.hmemF b x e
  · show upd _ _ _ _ = none
    rw [upn]; exact r.hlm
    intro q; rw [← q, r.hlm] at ha; exact (Option.some_ne_none _ ha.symm).elim
  · refine bc fun z9 => ?_
    obtain ⟨m, n, f⟩ := r.hns
    refine z9 ?_
    refine ⟨m, kn m n, fun i x v p q => ?_⟩
    refine bc fun z9 => ?_
    obtain ⟨cv, e1, e2⟩ := f i x v p q
    refine z9 ?_
    exact ⟨cv, e1, e2.tk tkk⟩
  · intro i x c e
    refine bc fun z9 => ?_
    obtain ⟨p, q, o, ov, g, d, f⟩ := r.hown i x c e
    refine z9 ?_
    have hc : c ≠ a := by intro z; rw [z, ha] at q; exact (Option.some_ne_none _ q).elim
    refine ⟨p, ?_, o, ov, k _ _ hc (ok.own i x c e).2.2 g, d, fun v z => ?_⟩
    · show upd _ _ _ _ = none
      rw [upn _ _ hc]; exact q
    · obtain ⟨cv, e1, e2⟩ := f v z; exact ⟨cv, e1, e2.tk tkk⟩
  · intro i x c p
    refine bc fun z9 => ?_
    obtain ⟨o, ov, e1, d, f⟩ := r.href i x c p
    refine z9 ?_
    exact ⟨o, ov, e1, d, fun v b => let ⟨cv, e1, e2⟩ := f v b; ⟨cv, e1, e2.tk tkk⟩⟩
theorem Rep.change (ok : Γ.ok) (r : Rep G Γ frz σ s) {a : Addr} {o₀ o : O} (ha : σ.mem a = some o₀) {h' : Heap} {tk : Nat} (k : ∀ b o, b ≠ a → s.heap.get? b = some o → h'.get? b = some o)
    (ro : TK s.heap h' → RO h' a o) : Rep G Γ frz { σ with mem := upd σ.mem a o } { s with heap := h', toks := tk } ∧ TK s.heap h' :=
  r.changeL ok ha (fun b o hb _ => k b o hb) (fun m n => n.extBut (b := a) (fun b o hb e => k b o hb e) (Ne.symm (r.mem_ne ha))) ro
theorem Rep.none_of_ge (r : Rep G Γ frz σ s) {a : Addr} (h : s.heap.objs.size ≤ a) : σ.mem a = none ∧ frz a = none := by
  constructor
  · cases e : σ.mem a with
    | none => rfl
    | some o => exact absurd (r.hmem _ _ e).lt (Nat.not_lt.mpr h)
  · cases e : frz a with
    | none => rfl
    | some o => exact absurd (Heap.lt_size (r.hfrz _ _ e)) (Nat.not_lt.mpr h)
theorem Rep.rp (r : Rep G Γ frz σ s) : Rp G frz σ.mem s :=
  ⟨r.same, r.hbase, r.hkeep, r.hfrz, r.hmem, r.hmemF, Nat.le_of_lt (Nat.lt_of_le_of_lt r.hab (let ⟨_, n, _⟩ := r.hns; n.lt))⟩
theorem Rep.lt_locals (r : Rep G Γ frz σ s) : Γ.env.locals < s.heap.objs.size := let ⟨_, n, _⟩ := r.hns; n.lt
theorem Rep.join (r : Rep G Γ frz σ s) {a : Addr} {o : O} (hm : σ.mem a = none) (hf : frz a = none) (hl : a ≠ Γ.env.locals) (hc : ∀ (i : Nat) x c, Γ.vars[i]? = some (x, .own c) → c ≠ a) (ro : RO s.heap a o) :
    Rep G Γ frz { σ with mem := upd σ.mem a o } s := by
  refine ⟨r.same, r.hbase, r.hkeep, r.hfrz, ?_, ?_, r.hab, r.hlf, ?_, r.hns, ?_, r.href⟩
  · intro b x e
    replace e : upd _ _ _ _ = _ := e
    by_cases hb : b = a
    · subst hb; rw [ups] at e; cases e; exact ro
    · rw [upn _ _ hb] at e; exact r.hmem b x e
  · intro b x e
    replace e : upd _ _ _ _ = _ := e
    by_cases hb : b = a
    · subst hb; exact hf
    · rw [upn _ _ hb] at e; exact r.hmemF b x e
  · show upd _ _ _ _ = none
    rw [upn _ _ (Ne.symm hl)]; exact r.hlm
  · intro i x c e
    refine bc fun z9 => ?_
    obtain ⟨p, q, o, ov, g, d, f⟩ := r.hown i x c e
    refine z9 ?_
    refine ⟨p, ?_, o, ov, g, d, f⟩
    show upd _ _ _ _ = none
    rw [upn _ _ (hc i x c e)]; exact q
theorem Rep.fresh (r : Rep G Γ frz σ s) {a : Addr} {o : O} (ha : s.heap.objs.size ≤ a) {h' : Heap} {tk : Nat} (k : ∀ b o, s.heap.get? b = some o → h'.get? b = some o)
    (ro : RO h' a o) : Rep G Γ frz { σ with mem := upd σ.mem a o } { s with heap := h', toks := tk } := by
  have r' := r.grow (tk := tk) k
  refine r'.join (r.none_of_ge ha).1 (r.none_of_ge ha).2 (Ne.symm (Nat.ne_of_lt (Nat.lt_of_lt_of_le r.lt_locals ha))) (fun i x c e => ?_) ro
  obtain ⟨_, _, o', ov', g', _, _⟩ := r.hown i x c e
  exact Nat.ne_of_lt (Nat.lt_of_lt_of_le (Heap.lt_size g') ha)
structure Aside (G : GS) (Γ : FE) (frz : Frz) (σ : St) (a : Addr) : Prop where
  m : σ.mem a = none
  f : frz a = none
  l : a ≠ Γ.env.locals
  c : ∀ (i : Nat) x c, Γ.vars[i]? = some (x, .own c) → c ≠ a
  r : ∀ (i : Nat) x c, Γ.vars[i]? = some (x, .ref c) → c ≠ a
theorem Rep.asideNew (r : Rep G Γ frz σ s) {a : Addr} (h : s.heap.objs.size ≤ a) : Aside G Γ frz σ a where
  m := (r.none_of_ge h).1
  f := (r.none_of_ge h).2
  l := Ne.symm (Nat.ne_of_lt (Nat.lt_of_lt_of_le r.lt_locals h))
  c := fun i x c e => let ⟨_, _, _, _, g, _⟩ := r.hown i x c e; Nat.ne_of_lt (Nat.lt_of_lt_of_le (Heap.lt_size g) h)
  r := fun i x c e => let ⟨_, _, g, _⟩ := r.href i x c e; Nat.ne_of_lt (Nat.lt_of_lt_of_le (Heap.lt_size (r.hfrz _ _ g)) h)
theorem Rep.asideTk (r : Rep G Γ frz σ s) {a : Addr} {o : Obj} (_d : Aside G Γ frz σ a) (ho : s.heap.get? a = some o) (ni : ¬ Imm o) {h' : Heap} (k : ∀ b o, b ≠ a → s.heap.get? b = some o → h'.get? b = some o) : TK s.heap h' := fun b x e c => by
  by_cases hb : b = a
  · subst hb; rw [ho] at e; cases e; exact absurd c ni
  · exact k b x hb e
theorem Rep.aside (r : Rep G Γ frz σ s) {a : Addr} {o : Obj} (d : Aside G Γ frz σ a) (ho : s.heap.get? a = some o) (ni : ¬ Imm o) {h' : Heap} {tk : Nat} (k : ∀ b o, b ≠ a → s.heap.get? b = some o → h'.get? b = some o) :
    Rep G Γ frz σ { s with heap := h', toks := tk } ∧ TK s.heap h' := by
  have t := r.asideTk d ho ni k
  have nf : ∀ b o, frz b = some o → b ≠ a := fun b o e q => by subst q; rw [d.f] at e; exact (Option.some_ne_none _ e.symm).elim
  have nm : ∀ b o, σ.mem b = some o → b ≠ a := fun b o e q => by subst q; rw [d.m] at e; exact (Option.some_ne_none _ e.symm).elim
  refine ⟨⟨let ⟨_, _, e⟩ := r.same; ⟨h', tk, by rw [e]⟩, r.hbase, r.hkeep, fun b o e => k b o (nf b o e) (r.hfrz b o e), fun b x e => (r.hmem b x e).keep t fun y ey => k b y (nm b x e) ey, r.hmemF, r.hab, r.hlf, r.hlm, ?_, ?_, ?_⟩, t⟩
  · refine bc fun z9 => ?_
    obtain ⟨m, n, f⟩ := r.hns
    refine z9 ?_
    exact ⟨m, n.extBut (b := a) (fun b o hb e => k b o hb e) (Ne.symm d.l), fun i x v p q => let ⟨cv, e1, e2⟩ := f i x v p q; ⟨cv, e1, e2.tk t⟩⟩
  · intro i x c e
    refine bc fun z9 => ?_
    obtain ⟨p, q, o, ov, g, dd, f⟩ := r.hown i x c e
    refine z9 ?_
    exact ⟨p, q, o, ov, k _ _ (d.c i x c e) g, dd, fun v z => let ⟨cv, e1, e2⟩ := f v z; ⟨cv, e1, e2.tk t⟩⟩
  · intro i x c e
    refine bc fun z9 => ?_
    obtain ⟨o, ov, g, dd, f⟩ := r.href i x c e
    refine z9 ?_
    exact ⟨o, ov, g, dd, fun v z => let ⟨cv, e1, e2⟩ := f v z; ⟨cv, e1, e2.tk t⟩⟩
theorem Rep.fr (r : Rep G Γ frz σ s) {m : Str → Option Value} (n : s.heap.Ns Γ.env.locals m) : Fr G.base Γ.env.locals s.heap m :=
  ⟨n, fun b o e => r.hfrz b o (r.hbase b o e), r.hab⟩
noncomputable def restOf (G : GS) (L : Addr) (h : Heap) (D : List Addr) : List (Addr × Obj) :=
  (List.range h.objs.size).filterMap fun b => if b = L ∨ b ∈ D ∨ (G.base.get? b).isSome then none else (h.get? b).map (b, ·)
theorem restOf_mem {L : Addr} {h : Heap} {D : List Addr} {b : Addr} {o : Obj} : (b, o) ∈ restOf G L h D ↔ b ≠ L ∧ b ∉ D ∧ G.base.get? b = none ∧ h.get? b = some o := by
  unfold restOf
  rw [List.mem_filterMap]
  constructor
  · rintro ⟨c, _, e⟩
    split at e
    · exact (Option.some_ne_none _ e.symm).elim
    · rename_i q
      rw [Option.map_eq_some_iff] at e
      obtain ⟨x, e1, e2⟩ := e
      cases e2
      simp only [not_or, Option.not_isSome_iff_eq_none] at q
      exact ⟨q.1, q.2.1, q.2.2, e1⟩
  · rintro ⟨h1, h2, h3, h4⟩
    refine ⟨b, List.mem_range.mpr (Heap.lt_size h4), ?_⟩
    rw [if_neg (by simp [h1, h2, h3]), h4]; rfl
theorem Rep.rest (_r : Rep G Γ frz σ s) (D : List Addr) : News G.base Γ.env.locals s.heap (restOf G Γ.env.locals s.heap D) := fun p hp => by
  obtain ⟨b, o⟩ := p
  obtain ⟨h1, h2, h3, h4⟩ := restOf_mem.mp hp
  exact ⟨h4, h1, h3⟩
theorem Rep.keep_of_rest (r : Rep G Γ frz σ s) {D : List Addr} {h' : Heap} {m : Str → Option Value} (F : Fr G.base Γ.env.locals h' m) (N : News G.base Γ.env.locals h' (restOf G Γ.env.locals s.heap D)) :
    ∀ b o, b ∉ D → b ≠ Γ.env.locals → s.heap.get? b = some o → h'.get? b = some o := fun b o hd hl e => by
  cases q : G.base.get? b with
  | some o' =>
    have := r.hfrz b o' (r.hbase b o' q)
    rw [e] at this; cases this
    exact F.keep b o q
  | none => exact (N (b, o) (restOf_mem.mpr ⟨hl, hd, q, e⟩)).1
theorem Rep.freeze (r : Rep G Γ frz σ s) {frz' : Frz} (h1 : ∀ b o, frz b = some o → frz' b = some o) (h2 : ∀ b o, frz' b = some o → s.heap.get? b = some o)
    (h3 : ∀ a o, σ.mem a = some o → frz' a = none) (h4 : frz' Γ.env.locals = none) (h5 : ∀ (i : Nat) x c, Γ.vars[i]? = some (x, .own c) → frz' c = none) : Rep G Γ frz' σ s :=
  ⟨r.same, fun b o e => h1 b o (r.hbase b o e), fun b o e => h1 b o (r.hkeep b o e), h2, r.hmem, h3, r.hab, h4, r.hlm, r.hns, fun i x c e => ⟨h5 i x c e, (r.hown i x c e).2⟩, fun i x c a => let ⟨o, ov, e, d, q⟩ := r.href i x c a; ⟨o, ov, h1 _ _ e, d, q⟩⟩
noncomputable def frzAdd (frz : Frz) (a : Addr) (o : Obj) : Frz := fun b => if b = a then some o else frz b
theorem Rep.freezeOne (r : Rep G Γ frz σ s) {a : Addr} {o : Obj} (ho : s.heap.get? a = some o) (hf : ∀ o', frz a = some o' → o' = o) (hm : σ.mem a = none) (hl : a ≠ Γ.env.locals) (hc : ∀ (i : Nat) x c, Γ.vars[i]? = some (x, .own c) → c ≠ a) :
    Rep G Γ (frzAdd frz a o) σ s := by
  refine r.freeze ?_ ?_ ?_ ?_ ?_
  · intro b x e; unfold frzAdd; split
    · rename_i q; subst q; rw [hf x e]
    · exact e
  · intro b x e; unfold frzAdd at e; split at e
    · rename_i q; subst q; cases e; exact ho
    · exact r.hfrz b x e
  · intro b x e; unfold frzAdd; split
    · rename_i q; subst q; rw [hm] at e; exact (Option.some_ne_none _ e.symm).elim
    · exact r.hmemF b x e
  · unfold frzAdd; rw [if_neg (Ne.symm hl)]; exact r.hlf
  · intro i x c e; unfold frzAdd; rw [if_neg (hc i x c e)]; exact (r.hown i x c e).1
theorem Rep.thaw (r : Rep G Γ frz σ s) {frz' : Frz} (h0 : ∀ b o, G.base.get? b = some o → frz' b = some o) (h0' : ∀ b o, G.keep b = some o → frz' b = some o) (h1 : ∀ b o, frz' b = some o → frz b = some o) (h2 : ∀ (i : Nat) x c o, Γ.vars[i]? = some (x, .ref c) → frz c = some o → frz' c = some o) : Rep G Γ frz' σ s := by
  have nn : ∀ a, frz a = none → frz' a = none := fun a e => by
    cases q : frz' a with
    | none => rfl
    | some o => rw [h1 a o q] at e; cases e
  exact ⟨r.same, h0, h0', fun b o e => r.hfrz b o (h1 b o e), r.hmem, fun a o e => nn _ (r.hmemF a o e), r.hab, nn _ r.hlf, r.hlm, r.hns, fun i x c e => ⟨nn _ (r.hown i x c e).1, (r.hown i x c e).2⟩,
    fun i x c a => let ⟨o, ov, e, d, q⟩ := r.href i x c a; ⟨o, ov, h2 i x c _ a e, d, q⟩⟩
theorem Rep.asideIn (r : Rep G Γ frz σ s) {a : Addr} {o : Obj} (d : Aside G Γ frz σ a) (ho : s.heap.get? a = some o) : Rep G Γ (frzAdd frz a o) σ s :=
  r.freezeOne ho (fun o' e => by rw [d.f] at e; exact (Option.some_ne_none _ e.symm).elim) d.m d.l d.c
theorem Rep.asideOut {σ₀ : St} {s₀ : Shared} (r₀ : Rep G Γ frz σ₀ s₀) {a : Addr} {o : Obj} (d : Aside G Γ frz σ₀ a) (r : Rep G Γ (frzAdd frz a o) σ s) : Rep G Γ frz σ s ∧ Aside G Γ frz σ a ∧ s.heap.get? a = some o := by
  have e : frzAdd frz a o a = some o := by simp [frzAdd]
  have hm : σ.mem a = none := by
    cases q : σ.mem a with
    | none => rfl
    | some x => have := r.hmemF a x q; rw [e] at this; cases this
  refine ⟨r.thaw r₀.hbase r₀.hkeep (fun b x q => ?_) (fun i x c x' p q => ?_), ⟨hm, d.f, d.l, d.c, d.r⟩, r.hfrz _ _ e⟩
  · unfold frzAdd; rw [if_neg (fun z => by subst z; rw [d.f] at q; cases q)]; exact q
  · unfold frzAdd at q; rw [if_neg (d.r i x c p)] at q; exact q
end
abbrev NoE : Value → Shared → Prop := fun _ _ => False
noncomputable def PV (G : GS) (Γ : FE) (frz : Frz) (s : Shared) (Q : V → St → Prop) : Value → Shared → Prop :=
  fun cv s' => ∃ v σ', RV s'.heap cv v ∧ Rep G Γ frz σ' s' ∧ TK s.heap s'.heap ∧ Q v σ'
noncomputable def PVs (G : GS) (Γ : FE) (frz : Frz) (s : Shared) (Q : List V → St → Prop) : List Value → Shared → Prop :=
  fun cv s' => ∃ v σ', RVs s'.heap cv v ∧ Rep G Γ frz σ' s' ∧ TK s.heap s'.heap ∧ Q v σ'
noncomputable def PB (G : GS) (Γ : FE) (frz : Frz) (s : Shared) (Q : Bool → St → Prop) : Bool → Shared → Prop :=
  fun b s' => ∃ σ', Rep G Γ frz σ' s' ∧ TK s.heap s'.heap ∧ Q b σ'
noncomputable def PU (G : GS) (Γ : FE) (frz : Frz) (s : Shared) (Q : St → Prop) : Unit → Shared → Prop :=
  fun _ s' => ∃ σ', Rep G Γ frz σ' s' ∧ TK s.heap s'.heap ∧ Q σ'
inductive RF (h : Heap) : Flow → Fl → Prop
  | next : RF h .next .next
  | brk : RF h .brk .brk
  | cont : RF h .cont .cont
  | ret {v : Value} {x : V} : RV h v x → RF h (.ret v) (.ret x)
noncomputable def PF (G : GS) (Γ : FE) (frz : Frz) (s : Shared) (Q : Fl → St → Prop) : Flow → Shared → Prop :=
  fun f s' => ∃ fl σ', RF s'.heap f fl ∧ Rep G Γ frz σ' s' ∧ TK s.heap s'.heap ∧ Q fl σ'
noncomputable def W (G : GS) (A : Around) (Γ : FE) (t : Sem Value) (Q : V → St → Prop) (σ : St) : Prop :=
  ∀ frz s, Rep G Γ frz σ s → wpAny (model G.prog G.w) A t (PV G Γ frz s Q) NoE s
noncomputable def Ws (G : GS) (A : Around) (Γ : FE) (t : Sem (List Value)) (Q : List V → St → Prop) (σ : St) : Prop :=
  ∀ frz s, Rep G Γ frz σ s → wpAny (model G.prog G.w) A t (PVs G Γ frz s Q) NoE s
noncomputable def WB (G : GS) (A : Around) (Γ : FE) (t : Sem Bool) (Q : Bool → St → Prop) (σ : St) : Prop :=
  ∀ frz s, Rep G Γ frz σ s → wpAny (model G.prog G.w) A t (PB G Γ frz s Q) NoE s
noncomputable def WF (G : GS) (A : Around) (Γ : FE) (t : Sem Flow) (Q : Fl → St → Prop) (σ : St) : Prop :=
  ∀ frz s, Rep G Γ frz σ s → wpAny (model G.prog G.w) A t (PF G Γ frz s Q) NoE s
set_option genCtorIdx false in
mutual
inductive Bi where
  | len | min | max | sum | range | list | chr | ord
inductive Me where
  | find | startswith | endswith | join | append | pop | insert
end
noncomputable def Bi.name : Bi → String
  | .len => "len" | .min => "min" | .max => "max" | .sum => "sum" | .range => "range" | .list => "list" | .chr => "chr" | .ord => "ord"
noncomputable def Me.name : Me → String
  | .find => "find" | .startswith => "startswith" | .endswith => "endswith" | .join => "join" | .append => "append" | .pop => "pop" | .insert => "insert"
set_option genCtorIdx false in
inductive Ex where
  | lit (v : V)
  | var (i : Nat)
  | bin (op : Operator) (a b : Ex)
  | neg (a : Ex)
  | not (a : Ex)
  | ite (c a b : Ex)
  | list (es : List Ex)
  | tup (es : List Ex)
  | cmp (a : Ex) (ops : List CmpOp) (es : List Ex)
  | band (es : List Ex)
  | bor (es : List Ex)
  | idx (a i : Ex)
  | slc (a lo hi st : Ex)
  | attr (o : Ex) (n : String)
  | bi (b : Bi) (args : List Ex)
  | call (f : String) (args : List Ex)
  | me (o : Ex) (m : Me) (args : List Ex)
  | imeth (o : Ex) (m : String) (args : List Ex)
  | lcall (i : Nat) (args : List Ex)
  | comp (elt : Ex) (one : Bool) (is : List Nat) (it : Ex) (cs : List Ex) (n : Nat) (caps : List Nat)
  | comp2 (elt : Ex) (one : Bool) (is : List Nat) (it iti : Ex) (j : Nat) (n : Nat) (caps : List Nat)
set_option genCtorIdx false in
inductive Tg where
  | var (i : Nat)
  | tup (is : List Nat)
  | idx (o i : Ex)
  | slc (o lo hi : Ex)
  | attr (o : Ex) (n : String)
set_option genCtorIdx false in
inductive Sm where
  | expr (e : Ex)
  | assign (ts : List Tg) (e : Ex)
  | aug (i : Nat) (op : Operator) (e : Ex)
  | del (o i : Ex)
  | ife (c : Ex) (a b : List Sm)
  | whl (c : Ex) (b : List Sm)
  | fr (t : Tg) (it : Ex) (b : List Sm)
  | ret (e : Ex)
  | brk
  | junk
structure PC where
  cls : Addr
  fld : String → Bool
  cc : String → Option V
  call : String → List V → (V → Mem → Prop) → Mem → Prop
  meth : String → List V → (V → Mem → Prop) → Mem → Prop
  loc : V → List V → (V → Mem → Prop) → Mem → Prop
noncomputable def pyGet {α : Type} (xs : List α) (i : Int) : Option α := (seqIndex? i xs.length).bind (xs[·]?)
noncomputable def clip (n : Nat) (i : Int) : Nat := clipAt n i
noncomputable def slLo (n : Nat) (lo : Option Int) : Nat := lo.elim 0 (clip n)
noncomputable def slHi (n : Nat) (hi : Option Int) : Nat := hi.elim n (clip n)
noncomputable def pySl {α : Type} (xs : List α) (lo hi : Option Int) : List α :=
  (xs.drop (slLo xs.length lo)).take (slHi xs.length hi - slLo xs.length lo)
noncomputable def slPart : V → Option (Option Int)
  | .none => some none
  | .int i => some (some i)
  | _ => none
noncomputable def rd0 (v : V) : Option PyData := match v with
  | .none => some .none
  | .bool b => some (.bool b)
  | .int i => some (.int i)
  | .str s => some (.str (mkS s))
  | _ => none
noncomputable def listAt (m : Mem) (a : Addr) : Option (List V) := (m a).bind fun o => match o with
  | .list vs => some vs
  | _ => none
noncomputable def rd : Nat → Mem → V → Option PyData
  | 0, _, v => rd0 v
  | n + 1, m, v => match v with
    | .tup vs => (vs.mapM (rd n m)).map .tuple
    | .obj a => (listAt m a).bind fun vs => (vs.mapM (rd n m)).map .list
    | v => rd0 v
noncomputable def lookF (n : String) : List (Str × V) → Option V
  | [] => none
  | (x, v) :: r => if x = Str.ofString n then some v else lookF n r
noncomputable def setF (n : String) (v : V) : List (Str × V) → List (Str × V)
  | [] => [(Str.ofString n, v)]
  | (x, u) :: r => if x = Str.ofString n then (x, v) :: r else (x, u) :: setF n v r
noncomputable def rngFrom (a c : Int) : Nat → List V
  | 0 => []
  | n + 1 => .int a :: rngFrom (a + c) c n
noncomputable def rngL (a b c : Int) : List V := rngFrom a c (Builtin.Range.rangeSize a b c).toNat
noncomputable def sma (n : Nat) : Prop := n ≤ 1000000
noncomputable def tiny (i : Int) : Prop := -1000000000 < i ∧ i < 1000000000
noncomputable def arg1 (vs : List V) (K : V → Prop) : Prop := match vs with
  | [v] => K v
  | _ => False
noncomputable def arg2 (vs : List V) (K : V → V → Prop) : Prop := match vs with
  | [v, u] => K v u
  | _ => False
noncomputable def asI (v : V) (K : Int → Prop) : Prop := match v with
  | .int i => K i
  | _ => False
noncomputable def asS (v : V) (K : Tx → Prop) : Prop := match v with
  | .str i => K i
  | _ => False
noncomputable def asO (v : V) (K : Addr → Prop) : Prop := match v with
  | .obj i => K i
  | _ => False
theorem arg1_inv {vs : List V} {K : V → Prop} (h : arg1 vs K) : ∃ v, vs = [v] ∧ K v := by
  cases vs with
  | nil => exact h.elim
  | cons v r => cases r with
    | nil => exact ⟨v, rfl, h⟩
    | cons => exact h.elim
theorem arg2_inv {vs : List V} {K : V → V → Prop} (h : arg2 vs K) : ∃ v u, vs = [v, u] ∧ K v u := by
  cases vs with
  | nil => exact h.elim
  | cons v r => cases r with
    | nil => exact h.elim
    | cons u r => cases r with
      | nil => exact ⟨v, u, rfl, h⟩
      | cons => exact h.elim
theorem asI_inv {v : V} {K : Int → Prop} (h : asI v K) : ∃ i, v = .int i ∧ K i := by cases v <;> first | exact False.elim h | exact ⟨_, rfl, h⟩
theorem asS_inv {v : V} {K : Tx → Prop} (h : asS v K) : ∃ i, v = .str i ∧ K i := by cases v <;> first | exact False.elim h | exact ⟨_, rfl, h⟩
theorem asO_inv {v : V} {K : Addr → Prop} (h : asO v K) : ∃ i, v = .obj i ∧ K i := by cases v <;> first | exact False.elim h | exact ⟨_, rfl, h⟩
noncomputable def ordI (a b : V) (K : Int → Int → Prop) : Prop := asI a fun x => asI b fun y => K x y
noncomputable def addV (m : Mem) (v u : V) (Q : V → Mem → Prop) : Prop := match v with
  | .int a => asI u fun b => Q (.int (a + b)) m
  | .str a => asS u fun b => sma a.length ∧ sma b.length ∧ Q (.str (a ++ b)) m
  | .obj a => asO u fun b => ∃ xs ys, m a = some (.list xs) ∧ m b = some (.list ys) ∧ sma xs.length ∧ sma ys.length ∧ ∀ c, m c = none → Q (.obj c) (upd m c (.list (xs ++ ys)))
  | _ => False
noncomputable def mulV (m : Mem) (v u : V) (Q : V → Mem → Prop) : Prop := match v with
  | .int a => asI u fun b => tiny a ∧ Q (.int (a * b)) m
  | .obj a => asI u fun k => ∃ x, m a = some (.list [x]) ∧ tiny k ∧ sma k.toNat ∧ ∀ c, m c = none → Q (.obj c) (upd m c (.list (List.replicate k.toNat x)))
  | _ => False
noncomputable def wpBin (m : Mem) (op : Operator) (v u : V) (Q : V → Mem → Prop) : Prop := match op with
  | .Add => addV m v u Q
  | .Sub => ordI v u fun a b => Q (.int (a - b)) m
  | .Mult => mulV m v u Q
  | .FloorDiv => ordI v u fun a b => 0 < b ∧ tiny b ∧ Q (.int (a / b)) m
  | .Mod => ordI v u fun a b => 0 < b ∧ Q (.int (a % b)) m
  | _ => False
noncomputable def eqAny (m : Mem) (a b : V) (K : Bool → Prop) : Prop := ∃ d e, rd 8 m a = some d ∧ rd 8 m b = some e ∧ K (PyData.eqv d e)
noncomputable def cmpEq (m : Mem) (a b : V) (K : Bool → Prop) : Prop := match a with
  | .int x => (match b with | .int y => K (decide (x = y)) | _ => eqAny m a b K)
  | .str x => (match b with | .str y => K (decide (x = y)) | _ => eqAny m a b K)
  | _ => eqAny m a b K
noncomputable def inAny (m : Mem) (a b : V) (K : Bool → Prop) : Prop := asO b fun l => ∃ vs d ds, m l = some (.list vs) ∧ sma vs.length ∧ rd 7 m a = some d ∧ vs.mapM (rd 7 m) = some ds ∧ K (ds.any fun e => PyData.eqv e d)
noncomputable def cmpIs (a b : V) (K : Bool → Prop) : Prop := match b with
  | .none => (match a with | .none => K true | .tup _ => K false | _ => False)
  | _ => False
noncomputable def wpCmp (m : Mem) (op : CmpOp) (a b : V) (Q : Bool → Prop) : Prop := match op with
  | .Eq => cmpEq m a b Q
  | .NotEq => cmpEq m a b fun t => Q (!t)
  | .Lt => ordI a b fun x y => Q (decide (x < y))
  | .LtE => ordI a b fun x y => Q (decide (x ≤ y))
  | .Gt => ordI a b fun x y => Q (decide (y < x))
  | .GtE => ordI a b fun x y => Q (decide (y ≤ x))
  | .Is => cmpIs a b Q
  | .IsNot => cmpIs a b fun t => Q (!t)
  | .In => inAny m a b Q
  | .NotIn => inAny m a b fun t => Q (!t)
noncomputable def wpTruth (m : Mem) : V → (Bool → Prop) → Prop
  | .none, Q => Q false
  | .bool b, Q => Q b
  | .int i, Q => Q (i != 0)
  | .str s, Q => sma s.length ∧ Q (!s.isEmpty)
  | .tup vs, Q => sma vs.length ∧ Q (!vs.isEmpty)
  | .obj a, Q => ∃ vs, m a = some (.list vs) ∧ sma vs.length ∧ Q (!vs.isEmpty)
  | _, _ => False
noncomputable def ixV (m : Mem) (v : V) (i : Int) (Q : V → Prop) : Prop := match v with
  | .str s => tiny i ∧ ∃ c, pyGet s i = some c ∧ Q (.str [c])
  | .tup vs => tiny i ∧ ∃ v, pyGet vs i = some v ∧ Q v
  | .obj a => tiny i ∧ ∃ vs v, m a = some (.list vs) ∧ pyGet vs i = some v ∧ Q v
  | _ => False
noncomputable def wpIdx (m : Mem) (v u : V) (Q : V → Prop) : Prop := asI u fun i => ixV m v i Q
noncomputable def slK (v : V) (K : Option Int → Prop) : Prop := match v with
  | .none => K none
  | .int i => K (some i)
  | _ => False
noncomputable def stK (v : V) (K : Option Int → Prop) : Prop := match v with
  | .none => K none
  | .int i => 0 < i ∧ K (some i)
  | _ => False
noncomputable def pySt {α : Type} (xs : List α) (lo hi : Option Int) (st : Option Int) : List α := match st with
  | none => pySl xs lo hi
  | some k => (sliceRange (sliceBounds lo hi (some k) xs.length).1 (sliceBounds lo hi (some k) xs.length).2.1 (sliceBounds lo hi (some k) xs.length).2.2).filterMap (xs[·]?)
noncomputable def slS (m : Mem) (s : Tx) (lo hi st : V) (Q : V → Mem → Prop) : Prop := match st with
  | .none => slK lo fun a => slK hi fun b => sma s.length ∧ Q (.str (pySl s a b)) m
  | _ => False
noncomputable def wpSlc (m : Mem) (v lo hi st : V) (Q : V → Mem → Prop) : Prop := match v with
  | .str s => slS m s lo hi st Q
  | .obj l => slK lo fun a => slK hi fun b => stK st fun k => ∃ vs, (m l = some (.list vs) ∨ ∃ o, m l = some (.ro o vs)) ∧ sma vs.length ∧ ∀ c, m c = none → Q (.obj c) (upd m c (.list (pySt vs a b k)))
  | _ => False
noncomputable def wpAttr (P : PC) (m : Mem) : V → String → (V → Prop) → Prop
  | .obj a, n, Q => ∃ d fs, m a = some (.inst P.cls d) ∧ m d = some (.dict fs) ∧ match lookF n fs with
      | some v => P.fld n = true ∧ Q v
      | none => ∃ v, P.cc n = some v ∧ Q v
  | _, _, _ => False
noncomputable def Occ (s t : Tx) (i : Nat) : Prop := i + t.length ≤ s.length ∧ (s.drop i).take t.length = t
noncomputable def FindIs (s t : Tx) (k : Nat) (r : Int) : Prop := (r = -1 ∧ ∀ i, k ≤ i → ¬ Occ s t i) ∨ ∃ i : Nat, r = i ∧ k ≤ i ∧ Occ s t i ∧ ∀ j, k ≤ j → j < i → ¬ Occ s t j
noncomputable def lenV (m : Mem) (v : V) (Q : V → Mem → Prop) : Prop := match v with
  | .str s => sma s.length ∧ Q (.int s.length) m
  | .tup vs => sma vs.length ∧ Q (.int vs.length) m
  | .obj a => ∃ vs, (m a = some (.list vs) ∨ ∃ o, m a = some (.ro o vs)) ∧ sma vs.length ∧ Q (.int vs.length) m
  | _ => False
noncomputable def maxV (m : Mem) (v : V) (Q : V → Mem → Prop) : Prop := asO v fun a => ∃ ns : List Int, m a = some (.list (ns.map V.int)) ∧ 0 < ns.length ∧ ∀ M : Int, M ∈ ns → (∀ a, a ∈ ns → a ≤ M) → Q (.int M) m
noncomputable def listV (m : Mem) (v : V) (Q : V → Mem → Prop) : Prop := match v with
  | .tup vs => sma vs.length ∧ ∀ c, m c = none → Q (.obj c) (upd m c (.list vs))
  | .obj a => ∃ vs, m a = some (.list vs) ∧ sma vs.length ∧ ∀ c, m c = none → Q (.obj c) (upd m c (.list vs))
  | .rng a b k => ∃ n : Nat, a = 0 ∧ b = n ∧ k = 1 ∧ sma n ∧ ∀ c, m c = none → Q (.obj c) (upd m c (.list ((List.range' 0 n).map fun j : Nat => V.int j)))
  | _ => False
noncomputable def sumV (m : Mem) (v : V) (Q : V → Mem → Prop) : Prop := asO v fun a => ∃ ns : List Int, (m a = some (.list (ns.map V.int)) ∨ ∃ o, m a = some (.ro o (ns.map V.int))) ∧ Q (.int ns.sum) m
noncomputable def arg12 (vs : List V) (K : V → Prop) (L : V → V → Prop) : Prop := match vs with
  | [v] => K v
  | [v, u] => L v u
  | _ => False
noncomputable def arg13 (vs : List V) (K : V → Prop) (L : V → V → Prop) (N : V → V → V → Prop) : Prop := match vs with
  | [v] => K v
  | [v, u] => L v u
  | [v, u, w] => N v u w
  | _ => False
noncomputable def arg23 (vs : List V) (L : V → V → Prop) (N : V → V → V → Prop) : Prop := match vs with
  | [v, u] => L v u
  | [v, u, w] => N v u w
  | _ => False
noncomputable def wpBi (m : Mem) (b : Bi) (args : List V) (Q : V → Mem → Prop) : Prop := match b with
  | .len => arg1 args fun v => lenV m v Q
  | .min => arg23 args (fun v u => ordI v u fun a b => Q (.int (if b < a then b else a)) m) fun v u w => ordI v u fun a b => asI w fun c => Q (.int (min (min a b) c)) m
  | .max => arg12 args (fun v => maxV m v Q) fun v u => ordI v u fun a b => Q (.int (if a < b then b else a)) m
  | .range => arg13 args (fun v => asI v fun a => tiny a ∧ Q (.rng 0 a 1) m) (fun v u => ordI v u fun a b => tiny a ∧ tiny b ∧ Q (.rng a b 1) m)
      fun v u w => ordI v u fun a b => asI w fun c => tiny a ∧ tiny b ∧ tiny c ∧ 0 < c ∧ Q (.rng a b c) m
  | .list => arg1 args fun v => listV m v Q
  | .sum => arg1 args fun v => sumV m v Q
  | .chr => arg1 args fun v => asI v fun i => ∃ c : Char, i = c.toNat ∧ Q (.str [c]) m
  | .ord => arg1 args fun v => asS v fun s => ∃ c, s = [c] ∧ Q (.int c.toNat) m
theorem arg12_inv {vs : List V} {K : V → Prop} {L : V → V → Prop} (h : arg12 vs K L) : (∃ v, vs = [v] ∧ K v) ∨ ∃ v u, vs = [v, u] ∧ L v u := by
  match vs, h with
  | [v], h => exact .inl ⟨_, rfl, h⟩
  | [v, u], h => exact .inr ⟨_, _, rfl, h⟩
theorem arg13_inv {vs : List V} {K : V → Prop} {L : V → V → Prop} {N : V → V → V → Prop} (h : arg13 vs K L N) : (∃ v, vs = [v] ∧ K v) ∨ (∃ v u, vs = [v, u] ∧ L v u) ∨ ∃ v u w, vs = [v, u, w] ∧ N v u w := by
  match vs, h with
  | [v], h => exact .inl ⟨_, rfl, h⟩
  | [v, u], h => exact .inr (.inl ⟨_, _, rfl, h⟩)
  | [v, u, w], h => exact .inr (.inr ⟨_, _, _, rfl, h⟩)
theorem arg23_inv {vs : List V} {L : V → V → Prop} {N : V → V → V → Prop} (h : arg23 vs L N) : (∃ v u, vs = [v, u] ∧ L v u) ∨ ∃ v u w, vs = [v, u, w] ∧ N v u w := by
  match vs, h with
  | [v, u], h => exact .inl ⟨_, _, rfl, h⟩
  | [v, u, w], h => exact .inr ⟨_, _, _, rfl, h⟩
noncomputable def meOk (m : Mem) (v : V) (me : Me) : Prop := match me with
  | .find => asS v fun _ => True
  | .startswith => asS v fun _ => True
  | .endswith => asS v fun _ => True
  | .join => asS v fun _ => True
  | .append => asO v fun a => ∃ l, m a = some (.list l)
  | .pop => asO v fun a => ∃ l, m a = some (.list l)
  | .insert => asO v fun a => ∃ l, m a = some (.list l)
noncomputable def wpMe (m : Mem) (o : V) (me : Me) (args : List V) (Q : V → Mem → Prop) : Prop := match me with
  | .find => asS o fun s => arg12 args (fun v => asS v fun t => sma s.length ∧ sma t.length ∧ ∀ r, FindIs s t 0 r → Q (.int r) m)
      fun v u => asS v fun t => asI u fun i => sma s.length ∧ sma t.length ∧ 0 ≤ i ∧ ∀ r, FindIs s t i.toNat r → Q (.int r) m
  | .startswith => asS o fun s => arg1 args fun v => asS v fun t => Q (.bool (decide (s.take t.length = t))) m
  | .endswith => asS o fun s => arg1 args fun v => asS v fun t => Q (.bool (decide (t.length ≤ s.length ∧ s.drop (s.length - t.length) = t))) m
  | .append => asO o fun a => arg1 args fun v => ∃ vs, m a = some (.list vs) ∧ sma vs.length ∧ Q .none (upd m a (.list (vs ++ [v])))
  | .join => asS o fun s => s = [] ∧ arg1 args fun v => asO v fun a => ∃ xs : List Tx, m a = some (.list (xs.map V.str)) ∧ xs.length ≤ 500000 ∧ xs.flatten.length ≤ 500000 ∧ Q (.str xs.flatten) m
  | .pop => asO o fun a => args = [] ∧ ∃ vs v, m a = some (.list (vs ++ [v])) ∧ sma vs.length ∧ Q v (upd m a (.list vs))
  | .insert => asO o fun a => arg2 args fun i v => asI i fun k => 0 ≤ k ∧ tiny k ∧ ∃ vs, m a = some (.list vs) ∧ sma vs.length ∧ Q .none (upd m a (.list (vs.take k.toNat ++ v :: vs.drop k.toNat)))
noncomputable def St.set (σ : St) (i : Nat) (v : V) : St := { σ with loc := σ.loc.set i (some v) }
noncomputable def St.setAll (σ : St) : List Nat → List V → St
  | i :: is, v :: vs => (σ.set i v).setAll is vs
  | _, _ => σ
noncomputable def bindIs (one : Bool) (is : List Nat) (v : V) (Q : St → Prop) (σ : St) : Prop :=
  if one then (match is with | [i] => Q (σ.set i v) | _ => False) else match v with | .tup vs => vs.length = is.length ∧ Q (σ.setAll is vs) | _ => False
noncomputable def wpItems (m : Mem) : V → (List V → (Mem → Prop) → Prop) → Prop
  | .tup vs, K => sma vs.length ∧ K vs fun _ => True
  | .str s, K => sma s.length ∧ K (s.map fun c => .str [c]) fun _ => True
  | .rng a b c, K => tiny a ∧ tiny b ∧ tiny c ∧ 0 < c ∧ K (rngL a b c) fun _ => True
  | .obj a, K => ∃ vs, m a = some (.list vs) ∧ sma vs.length ∧ K vs fun m' => m' a = some (.list vs)
  | _, _ => False
noncomputable def wpComp (bind : V → (St → Prop) → St → Prop) (test : (Bool → St → Prop) → St → Prop) (elt : (V → St → Prop) → St → Prop) (g : Mem → Prop) (R : List V → St → Prop) : List V → List V → St → Prop
  | [], us, σ => g σ.mem ∧ R us σ
  | v :: vs, us, σ => g σ.mem ∧ bind v (test fun b σ₁ => if b then elt (fun u σ₂ => wpComp bind test elt g R vs (us ++ [u]) σ₂) σ₁ else wpComp bind test elt g R vs us σ₁) σ
noncomputable def wpComp2 (bind : V → (St → Prop) → St → Prop) (iti : (V → St → Prop) → St → Prop) (bind2 : V → (St → Prop) → St → Prop) (test : (Bool → St → Prop) → St → Prop) (elt : (V → St → Prop) → St → Prop) (g : Mem → Prop) (R : List V → St → Prop) : List V → List V → St → Prop
  | [], us, σ => g σ.mem ∧ R us σ
  | v :: vs, us, σ => g σ.mem ∧ bind v (iti fun w σ₁ => wpItems σ₁.mem w fun ws g2 => sma (us.length + ws.length) ∧ wpComp bind2 test elt g2 (fun us' σ₂ => wpComp2 bind iti bind2 test elt g R vs us' σ₂) ws us σ₁) σ
noncomputable def compSt (σ : St) (n : Nat) (caps : List Nat) : St := ⟨List.replicate n none ++ caps.map fun i => (σ.loc[i]?).join, σ.mem⟩
mutual
noncomputable def wpE (P : PC) : Ex → (V → St → Prop) → St → Prop
  | .lit v, Q, σ => Q v σ
  | .var i, Q, σ => match σ.loc[i]? with | some (some v) => Q v σ | _ => False
  | .bin op a b, Q, σ => wpE P a (fun v σ₁ => wpE P b (fun u σ₂ => wpBin σ₂.mem op v u fun r m => Q r { σ₂ with mem := m }) σ₁) σ
  | .neg a, Q, σ => wpE P a (fun v σ₁ => match v with | .int i => Q (.int (-i)) σ₁ | _ => False) σ
  | .not a, Q, σ => wpE P a (fun v σ₁ => wpTruth σ₁.mem v fun b => Q (.bool (!b)) σ₁) σ
  | .ite c a b, Q, σ => wpT P c (wpE P c) (fun t σ₁ => if t then wpE P a Q σ₁ else wpE P b Q σ₁) σ
  | .list es, Q, σ => wpEs P es (fun vs σ₁ => ∀ a, σ₁.mem a = none → Q (.obj a) { σ₁ with mem := upd σ₁.mem a (.list vs) }) σ
  | .tup es, Q, σ => wpEs P es (fun vs σ₁ => Q (.tup vs) σ₁) σ
  | .cmp a ops es, Q, σ => wpE P a (fun v σ₁ => wpCh P ops es v (fun b σ₂ => Q (.bool b) σ₂) σ₁) σ
  | .band es, Q, σ => wpBo P true es Q σ
  | .bor es, Q, σ => wpBo P false es Q σ
  | .idx a i, Q, σ => wpE P a (fun v σ₁ => wpE P i (fun u σ₂ => wpIdx σ₂.mem v u fun r => Q r σ₂) σ₁) σ
  | .slc a lo hi st, Q, σ => wpE P a (fun v σ₁ => wpE P lo (fun l σ₂ => wpE P hi (fun h σ₃ => wpE P st (fun s σ₄ => wpSlc σ₄.mem v l h s fun r m => Q r { σ₄ with mem := m }) σ₃) σ₂) σ₁) σ
  | .attr o n, Q, σ => wpE P o (fun v σ₁ => wpAttr P σ₁.mem v n fun r => Q r σ₁) σ
  | .bi b args, Q, σ => wpEs P args (fun vs σ₁ => wpBi σ₁.mem b vs fun r m => Q r { σ₁ with mem := m }) σ
  | .call f args, Q, σ => wpEs P args (fun vs σ₁ => P.call f vs (fun r m => Q r { σ₁ with mem := m }) σ₁.mem) σ
  | .me o m args, Q, σ => wpE P o (fun v σ₁ => meOk σ₁.mem v m ∧ wpEs P args (fun vs σ₂ => wpMe σ₂.mem v m vs fun r m' => Q r { σ₂ with mem := m' }) σ₁) σ
  | .imeth o n args, Q, σ => wpE P o (fun v σ₁ => (∃ a d fs, v = .obj a ∧ σ₁.mem a = some (.inst P.cls d) ∧ σ₁.mem d = some (.dict fs) ∧ lookF n fs = none) ∧
      wpEs P args (fun vs σ₂ => P.meth n (v :: vs) (fun r m => Q r { σ₂ with mem := m }) σ₂.mem) σ₁) σ
  | .lcall i args, Q, σ => match σ.loc[i]? with | some (some v) => wpEs P args (fun vs σ₁ => P.loc v vs (fun r m => Q r { σ₁ with mem := m }) σ₁.mem) σ | _ => False
  | .comp elt one is it cs n caps, Q, σ => wpE P it (fun v σ₁ => wpItems σ₁.mem v fun vs g => sma vs.length ∧
      wpComp (bindIs one is) (wpTs P true cs) (wpE P elt) g (fun us σ' => ∀ a, σ'.mem a = none → Q (.obj a) { σ₁ with mem := upd σ'.mem a (.list us) }) vs [] (compSt σ₁ n caps)) σ
  | .comp2 elt one is it iti j n caps, Q, σ => wpE P it (fun v σ₁ => wpItems σ₁.mem v fun vs g => sma vs.length ∧
      wpComp2 (bindIs one is) (wpE P iti) (bindIs true [j]) (fun k σ => k true σ) (wpE P elt) g (fun us σ' => ∀ a, σ'.mem a = none → Q (.obj a) { σ₁ with mem := upd σ'.mem a (.list us) }) vs [] (compSt σ₁ n caps)) σ
noncomputable def wpEs (P : PC) : List Ex → (List V → St → Prop) → St → Prop
  | [], Q, σ => Q [] σ
  | e :: es, Q, σ => wpE P e (fun v σ₁ => wpEs P es (fun vs σ₂ => Q (v :: vs) σ₂) σ₁) σ
noncomputable def wpCh (P : PC) : List CmpOp → List Ex → V → (Bool → St → Prop) → St → Prop
  | op :: ops, e :: es, v, Q, σ => match ops with
    | [] => (match es with | [] => wpE P e (fun u σ₁ => wpCmp σ₁.mem op v u fun b => Q b σ₁) σ | _ :: _ => False)
    | _ :: _ => wpE P e (fun u σ₁ => wpCmp σ₁.mem op v u fun b => if b then wpCh P ops es u Q σ₁ else Q false σ₁) σ
  | _, _, _, _, _ => False
noncomputable def wpBo (P : PC) (k : Bool) : List Ex → (V → St → Prop) → St → Prop
  | [], _, _ => False
  | [e], Q, σ => wpE P e Q σ
  | e :: es, Q, σ => wpE P e (fun v σ₁ => wpTruth σ₁.mem v fun b => if b = k then wpBo P k es Q σ₁ else Q v σ₁) σ
noncomputable def wpT (P : PC) : Ex → ((V → St → Prop) → St → Prop) → (Bool → St → Prop) → St → Prop
  | .not a, _, Q, σ => wpT P a (wpE P a) (fun b σ₁ => Q (!b) σ₁) σ
  | .band es, _, Q, σ => wpTs P true es Q σ
  | .bor es, _, Q, σ => wpTs P false es Q σ
  | .ite c a b, _, Q, σ => wpT P c (wpE P c) (fun t σ₁ => if t then wpT P a (wpE P a) Q σ₁ else wpT P b (wpE P b) Q σ₁) σ
  | .cmp a ops es, _, Q, σ => wpE P a (fun v σ₁ => wpCh P ops es v Q σ₁) σ
  | _, w, Q, σ => w (fun v σ₁ => wpTruth σ₁.mem v fun b => Q b σ₁) σ
noncomputable def wpTs (P : PC) (k : Bool) : List Ex → (Bool → St → Prop) → St → Prop
  | [], Q, σ => Q k σ
  | e :: es, Q, σ => wpT P e (wpE P e) (fun b σ₁ => if b = k then wpTs P k es Q σ₁ else Q (!k) σ₁) σ
end
theorem loc_inv {o : Option (Option V)} {K : V → Prop} (h : match o with | some (some v) => K v | _ => False) : ∃ v, o = some (some v) ∧ K v := by
  cases o with
  | none => exact h.elim
  | some o => cases o with
    | none => exact h.elim
    | some v => exact ⟨v, rfl, h⟩
theorem tup_inv {v : V} {K : List V → Prop} (h : match v with | .tup vs => K vs | _ => False) : ∃ vs, v = .tup vs ∧ K vs := by
  cases v <;> first | exact h.elim | exact ⟨_, rfl, h⟩
noncomputable def pyIx (n : Nat) (i : Int) : Option Nat := seqIndex? i n
noncomputable def wpAug (_m : Mem) (op : Operator) (v u : V) (Q : V → Prop) : Prop := match op with
  | .Add => (match v with
    | .int a => asI u fun b => Q (.int (a + b))
    | .str a => asS u fun b => sma a.length ∧ sma b.length ∧ Q (.str (a ++ b))
    | _ => False)
  | .Sub => ordI v u fun a b => Q (.int (a - b))
  | _ => False
noncomputable def wpTg (P : PC) : Tg → V → (St → Prop) → St → Prop
  | .var i, v, Q, σ => Q (σ.set i v)
  | .tup is, v, Q, σ => match v with | .tup vs => vs.length = is.length ∧ Q (σ.setAll is vs) | _ => False
  | .idx o i, v, Q, σ => wpE P o (fun ov σ₁ => wpE P i (fun iv σ₂ => ∃ a k vs j, ov = .obj a ∧ iv = .int k ∧ tiny k ∧ σ₂.mem a = some (.list vs) ∧ pyIx vs.length k = some j ∧
      Q { σ₂ with mem := upd σ₂.mem a (.list (vs.set j v)) }) σ₁) σ
  | .slc o lo hi, v, Q, σ => wpE P o (fun ov σ₁ => wpE P lo (fun l σ₂ => wpE P hi (fun h σ₃ => ∃ a b ia ib xs ys, ov = .obj a ∧ v = .obj b ∧ slPart l = some ia ∧ slPart h = some ib ∧ a ≠ b ∧
      σ₃.mem a = some (.list xs) ∧ σ₃.mem b = some (.list ys) ∧ sma xs.length ∧ sma ys.length ∧
      Q { σ₃ with mem := upd σ₃.mem a (.list (xs.take (slLo xs.length ia) ++ ys ++ xs.drop (max (slLo xs.length ia) (slHi xs.length ib)))) }) σ₂) σ₁) σ
  | .attr o n, v, Q, σ => wpE P o (fun ov σ₁ => ∃ a d fs, ov = .obj a ∧ σ₁.mem a = some (.inst P.cls d) ∧ σ₁.mem d = some (.dict fs) ∧ fs.length ≤ 100 ∧ P.fld n = true ∧
      Q { σ₁ with mem := upd σ₁.mem d (.dict (setF n v fs)) }) σ
noncomputable def wpTgs (P : PC) : List Tg → V → (St → Prop) → St → Prop
  | [], _, Q, σ => Q σ
  | t :: ts, v, Q, σ => wpTg P t v (fun σ₁ => wpTgs P ts v Q σ₁) σ
noncomputable def wpLoop (bind : V → (St → Prop) → St → Prop) (body : (Fl → St → Prop) → St → Prop) (g : Mem → Prop) (Q : Fl → St → Prop) : List V → St → Prop
  | [], σ => g σ.mem ∧ Q .next σ
  | v :: vs, σ => g σ.mem ∧ bind v (body fun fl σ₁ => match fl with
      | .next => wpLoop bind body g Q vs σ₁
      | .cont => wpLoop bind body g Q vs σ₁
      | .brk => Q .next σ₁
      | .ret r => Q (.ret r) σ₁) σ
noncomputable def wpWhile (test : (Bool → St → Prop) → St → Prop) (body : (Fl → St → Prop) → St → Prop) (Q : Fl → St → Prop) (σ : St) : Prop :=
  ∃ I : Nat → St → Prop, (∃ n, I n σ) ∧ ∀ n σ', I n σ' → test (fun b σ₁ => if b then body (fun fl σ₂ => match fl with
      | .next => ∃ k, k < n ∧ I k σ₂
      | .cont => ∃ k, k < n ∧ I k σ₂
      | .brk => Q .next σ₂
      | .ret r => Q (.ret r) σ₂) σ₁ else Q .next σ₁) σ'
mutual
noncomputable def wpS (P : PC) : Sm → (Fl → St → Prop) → St → Prop
  | .expr e, Q, σ => wpE P e (fun _ σ₁ => Q .next σ₁) σ
  | .assign ts e, Q, σ => wpE P e (fun v σ₁ => wpTgs P ts v (fun σ₂ => Q .next σ₂) σ₁) σ
  | .aug i op e, Q, σ => match σ.loc[i]? with | some (some v) => wpE P e (fun u σ₁ => wpAug σ₁.mem op v u fun r => Q .next (σ₁.set i r)) σ | _ => False
  | .del o i, Q, σ => wpE P o (fun ov σ₁ => wpE P i (fun iv σ₂ => ∃ a k vs j, ov = .obj a ∧ iv = .int k ∧ tiny k ∧ σ₂.mem a = some (.list vs) ∧ pyIx vs.length k = some j ∧ sma vs.length ∧
      Q .next { σ₂ with mem := upd σ₂.mem a (.list (vs.eraseIdx j)) }) σ₁) σ
  | .ife c a b, Q, σ => wpT P c (wpE P c) (fun t σ₁ => if t then wpSs P a Q σ₁ else wpSs P b Q σ₁) σ
  | .whl c b, Q, σ => wpWhile (wpT P c (wpE P c)) (wpSs P b) Q σ
  | .fr t it b, Q, σ => wpE P it (fun v σ₁ => wpItems σ₁.mem v fun vs g => wpLoop (wpTg P t) (wpSs P b) g Q vs σ₁) σ
  | .ret e, Q, σ => wpE P e (fun v σ₁ => Q (.ret v) σ₁) σ
  | .brk, Q, σ => Q .brk σ
  | .junk, _, _ => False
noncomputable def wpSs (P : PC) : List Sm → (Fl → St → Prop) → St → Prop
  | [], Q, σ => Q .next σ
  | s :: ss, Q, σ => wpS P s (fun fl σ₁ => match fl with | .next => wpSs P ss Q σ₁ | .brk => Q .brk σ₁ | .cont => Q .cont σ₁ | .ret r => Q (.ret r) σ₁) σ
end
structure SC where
  vars : List (Str × Bool)
  names : List (Str × NameKind)
  fns : List String
  meths : List String
  cells : List Str
noncomputable def litOk (v : V) (c : Const) : Bool := match v with
  | .none => c == .none
  | .bool b => c == .bool b
  | .int i => c == .int i
  | .flt x => c == .float x
  | .str s => c == .str (mkS s)
  | _ => false
noncomputable def SC.is (C : SC) (i : Nat) (x : Str) : Bool := match C.vars[i]? with | some (y, _) => y == x | none => false
noncomputable def SC.isW (C : SC) (i : Nat) (x : Str) : Bool := match C.vars[i]? with | some (y, r) => y == x && !r | none => false
noncomputable def SC.glob (C : SC) (n : String) (x : Str) : Bool := Str.ofString n == x && C.names.lookup x == some .globalImplicit && !(x == Str.ofString "__debug__")
noncomputable def notCall (e : Expr) : Bool := e.ctorIdx != 16
noncomputable def plainE (e : Expr) : Bool := e.ctorIdx != 22 && e.ctorIdx != 7
theorem dif_e {c : Prop} [Decidable c] {f : c → Bool} (h : (if h : c then f h else false) = true) : ∃ i, f i = true := by
  by_cases i : c
  · rw [dif_pos i] at h; exact ⟨i, h⟩
  · rw [dif_neg i] at h; cases h
noncomputable def isConst (e : Expr) (K : Const → Bool) : Bool := if h : e.ctorIdx = 19 then Expr.Constant.elim (motive_1 := fun _ => Bool) e h fun c _ _ => K c else false
theorem isConst_e {e : Expr} {K : Const → Bool} {M : Expr → Prop} (h : isConst e K = true) (kk : ∀ (c : Const) (k : Nat) (p : Pos), K c = true → M (.Constant c k p)) : M e :=
  let ⟨i, q⟩ := dif_e h
  Expr.Constant.elim (motive_1 := fun e => ∀ i, Expr.Constant.elim (motive_1 := fun _ => Bool) e i (fun c _ _ => K c) = true → M e) e i (fun c k p _ q => kk c k p q) i q
noncomputable def isName (e : Expr) (K : Str → Bool) : Bool := if h : e.ctorIdx = 23 then Expr.Name.elim (motive_1 := fun _ => Bool) e h fun n _ => K n else false
theorem isName_e {e : Expr} {K : Str → Bool} {M : Expr → Prop} (h : isName e K = true) (kk : ∀ (n : Str) (p : Pos), K n = true → M (.Name n p)) : M e :=
  let ⟨i, q⟩ := dif_e h
  Expr.Name.elim (motive_1 := fun e => ∀ i, Expr.Name.elim (motive_1 := fun _ => Bool) e i (fun n _ => K n) = true → M e) e i (fun n p _ q => kk n p q) i q
noncomputable def isBin (e : Expr) (K : Expr → Operator → Expr → Bool) : Bool := if h : e.ctorIdx = 2 then Expr.BinOp.elim (motive_1 := fun _ => Bool) e h fun l o r _ => K l o r else false
theorem isBin_e {e : Expr} {K : Expr → Operator → Expr → Bool} {M : Expr → Prop} (h : isBin e K = true) (kk : ∀ (l : Expr) (o : Operator) (r : Expr) (p : Pos), K l o r = true → M (.BinOp l o r p)) : M e :=
  let ⟨i, q⟩ := dif_e h
  Expr.BinOp.elim (motive_1 := fun e => ∀ i, Expr.BinOp.elim (motive_1 := fun _ => Bool) e i (fun l o r _ => K l o r) = true → M e) e i (fun l o r p _ q => kk l o r p q) i q
noncomputable def isUn (e : Expr) (K : UnaryOp → Expr → Bool) : Bool := if h : e.ctorIdx = 3 then Expr.UnaryOp.elim (motive_1 := fun _ => Bool) e h fun o y _ => K o y else false
theorem isUn_e {e : Expr} {K : UnaryOp → Expr → Bool} {M : Expr → Prop} (h : isUn e K = true) (kk : ∀ (o : UnaryOp) (y : Expr) (p : Pos), K o y = true → M (.UnaryOp o y p)) : M e :=
  let ⟨i, q⟩ := dif_e h
  Expr.UnaryOp.elim (motive_1 := fun e => ∀ i, Expr.UnaryOp.elim (motive_1 := fun _ => Bool) e i (fun o y _ => K o y) = true → M e) e i (fun o y p _ q => kk o y p q) i q
noncomputable def isIf (e : Expr) (K : Expr → Expr → Expr → Bool) : Bool := if h : e.ctorIdx = 5 then Expr.IfExp.elim (motive_1 := fun _ => Bool) e h fun t y z _ => K t y z else false
theorem isIf_e {e : Expr} {K : Expr → Expr → Expr → Bool} {M : Expr → Prop} (h : isIf e K = true) (kk : ∀ (t : Expr) (y : Expr) (z : Expr) (p : Pos), K t y z = true → M (.IfExp t y z p)) : M e :=
  let ⟨i, q⟩ := dif_e h
  Expr.IfExp.elim (motive_1 := fun e => ∀ i, Expr.IfExp.elim (motive_1 := fun _ => Bool) e i (fun t y z _ => K t y z) = true → M e) e i (fun t y z p _ q => kk t y z p q) i q
noncomputable def isList (e : Expr) (K : List Expr → Bool) : Bool := if h : e.ctorIdx = 24 then Expr.List.elim (motive_1 := fun _ => Bool) e h fun xs _ => K xs else false
theorem isList_e {e : Expr} {K : List Expr → Bool} {M : Expr → Prop} (h : isList e K = true) (kk : ∀ (xs : List Expr) (p : Pos), K xs = true → M (.List xs p)) : M e :=
  let ⟨i, q⟩ := dif_e h
  Expr.List.elim (motive_1 := fun e => ∀ i, Expr.List.elim (motive_1 := fun _ => Bool) e i (fun xs _ => K xs) = true → M e) e i (fun xs p _ q => kk xs p q) i q
noncomputable def isTup (e : Expr) (K : List Expr → Bool) : Bool := if h : e.ctorIdx = 25 then Expr.Tuple.elim (motive_1 := fun _ => Bool) e h fun xs _ _ => K xs else false
theorem isTup_e {e : Expr} {K : List Expr → Bool} {M : Expr → Prop} (h : isTup e K = true) (kk : ∀ (xs : List Expr) (k : Nat) (p : Pos), K xs = true → M (.Tuple xs k p)) : M e :=
  let ⟨i, q⟩ := dif_e h
  Expr.Tuple.elim (motive_1 := fun e => ∀ i, Expr.Tuple.elim (motive_1 := fun _ => Bool) e i (fun xs _ _ => K xs) = true → M e) e i (fun xs k p _ q => kk xs k p q) i q
noncomputable def isCmp (e : Expr) (K : Expr → List CmpOp → List Expr → Bool) : Bool := if h : e.ctorIdx = 15 then Expr.Compare.elim (motive_1 := fun _ => Bool) e h fun l os cs _ => K l os cs else false
theorem isCmp_e {e : Expr} {K : Expr → List CmpOp → List Expr → Bool} {M : Expr → Prop} (h : isCmp e K = true) (kk : ∀ (l : Expr) (os : List CmpOp) (cs : List Expr) (p : Pos), K l os cs = true → M (.Compare l os cs p)) : M e :=
  let ⟨i, q⟩ := dif_e h
  Expr.Compare.elim (motive_1 := fun e => ∀ i, Expr.Compare.elim (motive_1 := fun _ => Bool) e i (fun l os cs _ => K l os cs) = true → M e) e i (fun l os cs p _ q => kk l os cs p q) i q
noncomputable def isBool (e : Expr) (K : BoolOp → List Expr → Bool) : Bool := if h : e.ctorIdx = 0 then Expr.BoolOp.elim (motive_1 := fun _ => Bool) e h fun o xs _ => K o xs else false
theorem isBool_e {e : Expr} {K : BoolOp → List Expr → Bool} {M : Expr → Prop} (h : isBool e K = true) (kk : ∀ (o : BoolOp) (xs : List Expr) (p : Pos), K o xs = true → M (.BoolOp o xs p)) : M e :=
  let ⟨i, q⟩ := dif_e h
  Expr.BoolOp.elim (motive_1 := fun e => ∀ i, Expr.BoolOp.elim (motive_1 := fun _ => Bool) e i (fun o xs _ => K o xs) = true → M e) e i (fun o xs p _ q => kk o xs p q) i q
noncomputable def isSub (e : Expr) (K : Expr → Expr → Bool) : Bool := if h : e.ctorIdx = 21 then Expr.Subscript.elim (motive_1 := fun _ => Bool) e h fun v s _ => K v s else false
theorem isSub_e {e : Expr} {K : Expr → Expr → Bool} {M : Expr → Prop} (h : isSub e K = true) (kk : ∀ (v : Expr) (s : Expr) (p : Pos), K v s = true → M (.Subscript v s p)) : M e :=
  let ⟨i, q⟩ := dif_e h
  Expr.Subscript.elim (motive_1 := fun e => ∀ i, Expr.Subscript.elim (motive_1 := fun _ => Bool) e i (fun v s _ => K v s) = true → M e) e i (fun v s p _ q => kk v s p q) i q
noncomputable def isSlice (e : Expr) (K : Option Expr → Option Expr → Option Expr → Bool) : Bool := if h : e.ctorIdx = 26 then Expr.Slice.elim (motive_1 := fun _ => Bool) e h fun l u s _ => K l u s else false
theorem isSlice_e {e : Expr} {K : Option Expr → Option Expr → Option Expr → Bool} {M : Expr → Prop} (h : isSlice e K = true) (kk : ∀ (l : Option Expr) (u : Option Expr) (s : Option Expr) (p : Pos), K l u s = true → M (.Slice l u s p)) : M e :=
  let ⟨i, q⟩ := dif_e h
  Expr.Slice.elim (motive_1 := fun e => ∀ i, Expr.Slice.elim (motive_1 := fun _ => Bool) e i (fun l u s _ => K l u s) = true → M e) e i (fun l u s p _ q => kk l u s p q) i q
noncomputable def isAttr (e : Expr) (K : Expr → Str → Pos → Bool) : Bool := if h : e.ctorIdx = 20 then Expr.Attribute.elim (motive_1 := fun _ => Bool) e h fun v y p => K v y p else false
theorem isAttr_e {e : Expr} {K : Expr → Str → Pos → Bool} {M : Expr → Prop} (h : isAttr e K = true) (kk : ∀ (v : Expr) (y : Str) (p : Pos), K v y p = true → M (.Attribute v y p)) : M e :=
  let ⟨i, q⟩ := dif_e h
  Expr.Attribute.elim (motive_1 := fun e => ∀ i, Expr.Attribute.elim (motive_1 := fun _ => Bool) e i (fun v y p => K v y p) = true → M e) e i (fun v y p _ q => kk v y p q) i q
noncomputable def isCall (e : Expr) (K : Expr → List Expr → List Keyword → Pos → Bool) : Bool := if h : e.ctorIdx = 16 then Expr.Call.elim (motive_1 := fun _ => Bool) e h fun f xs k p => K f xs k p else false
theorem isCall_e {e : Expr} {K : Expr → List Expr → List Keyword → Pos → Bool} {M : Expr → Prop} (h : isCall e K = true) (kk : ∀ (f : Expr) (xs : List Expr) (k : List Keyword) (p : Pos), K f xs k p = true → M (.Call f xs k p)) : M e :=
  let ⟨i, q⟩ := dif_e h
  Expr.Call.elim (motive_1 := fun e => ∀ i, Expr.Call.elim (motive_1 := fun _ => Bool) e i (fun f xs k p => K f xs k p) = true → M e) e i (fun f xs k p _ q => kk f xs k p q) i q
noncomputable def isLC (e : Expr) (K : Expr → List Comprehension → Scope → Bool) : Bool := if h : e.ctorIdx = 8 then Expr.ListComp.elim (motive_1 := fun _ => Bool) e h fun elt gs sc _ => K elt gs sc else false
theorem isLC_e {e : Expr} {K : Expr → List Comprehension → Scope → Bool} {M : Expr → Prop} (h : isLC e K = true) (kk : ∀ (elt : Expr) (gs : List Comprehension) (sc : Scope) (p : Pos), K elt gs sc = true → M (.ListComp elt gs sc p)) : M e :=
  let ⟨i, q⟩ := dif_e h
  Expr.ListComp.elim (motive_1 := fun e => ∀ i, Expr.ListComp.elim (motive_1 := fun _ => Bool) e i (fun elt gs sc _ => K elt gs sc) = true → M e) e i (fun elt gs sc p _ q => kk elt gs sc p q) i q
noncomputable def gen1 (gs : List Comprehension) (K : Expr → Expr → List Expr → Bool) : Bool := match gs with
  | [] => false
  | g :: r => r.isEmpty && g.is_async == 0 && K g.target g.iter g.ifs
theorem gen1_inv {gs : List Comprehension} {K : Expr → Expr → List Expr → Bool} {M : List Comprehension → Prop} (h : gen1 gs K = true) (k : ∀ t i cs, K t i cs = true → M [⟨t, i, cs, 0⟩]) : M gs :=
  match gs, h with
  | ⟨t, i, cs, a⟩ :: r, h => by
    obtain ⟨h1, h⟩ := (Bool.and_eq_true _ _).mp h
    obtain ⟨h1, h2⟩ := (Bool.and_eq_true _ _).mp h1
    obtain rfl := List.isEmpty_iff.mp h1
    obtain rfl : a = 0 := beq_iff_eq.mp h2
    exact k t i cs h
noncomputable def gen2 (gs : List Comprehension) (K : Expr → Expr → Expr → Expr → Bool) : Bool := match gs with
  | [] => false
  | g :: r => g.ifs.isEmpty && (g.is_async == 0 && gen1 r fun t i cs => cs.isEmpty && K g.target g.iter t i)
theorem and_e {a b : Bool} (h : (a && b) = true) : a = true ∧ b = true := (Bool.and_eq_true a b).mp h
theorem gen2_inv {gs : List Comprehension} {K : Expr → Expr → Expr → Expr → Bool} {M : List Comprehension → Prop} (h : gen2 gs K = true) (k : ∀ t i t' i', K t i t' i' = true → M [⟨t, i, [], 0⟩, ⟨t', i', [], 0⟩]) : M gs :=
  match gs, h with
  | ⟨t, i, cs, a⟩ :: r, h => by
    obtain ⟨h1, h⟩ := and_e h
    obtain ⟨h2, h⟩ := and_e h
    obtain rfl : cs = [] := List.isEmpty_iff.mp h1
    obtain rfl : a = 0 := beq_iff_eq.mp h2
    exact gen1_inv (M := fun l => M (_ :: l)) h fun t' i' cs' q => by
      obtain ⟨h3, q⟩ := and_e q
      obtain rfl := List.isEmpty_iff.mp h3
      exact k _ _ _ _ q
noncomputable def chkIs (C : SC) : List Nat → List Expr → Bool
  | [], xs => xs.isEmpty
  | i :: is, xs => xs.head?.any fun e => isName e fun x => C.isW i x && chkIs C is xs.tail
noncomputable def nodupN : List Nat → Bool
  | [] => true
  | i :: is => !is.contains i && nodupN is
noncomputable def chkBind (C : SC) (one : Bool) (is : List Nat) (x : Expr) : Bool :=
  if one then (match is with | [i] => isName x fun n => C.isW i n | _ => false) else isTup x fun xs => nodupN is && chkIs C is xs
noncomputable def nodupS : List Str → Bool
  | [] => true
  | x :: xs => !xs.contains x && nodupS xs
noncomputable def locL (names : List (Str × NameKind)) : List Str := names.filterMap fun p => if p.2 == .local && !(p.1 == Str.ofString ".0") then some p.1 else none
noncomputable def freeL (names : List (Str × NameKind)) : List Str := names.filterMap fun p => if p.2 == .free then some p.1 else none
noncomputable def compSC (C : SC) (sc : Scope) : SC := ⟨(locL sc.names).map (·, false) ++ (freeL sc.names).map (·, true), sc.names.filter fun p => p.2 == .globalImplicit, C.fns, C.meths, freeL sc.names⟩
noncomputable def capsOk (C : SC) : List Nat → List Str → Bool
  | [], xs => xs.isEmpty
  | i :: is, xs => xs.head?.any fun x => C.is i x && C.cells.contains x && capsOk C is xs.tail
noncomputable def compOk (C : SC) (sc : Scope) (n : Nat) (caps : List Nat) : Bool :=
  sc.kind == .function && (locL sc.names).length == n && capsOk C caps (freeL sc.names) && nodupS (sc.names.map (·.1)) &&
  sc.names.all (fun p => (p.2 == .local || p.2 == .free || p.2 == .globalImplicit) && !(p.1 == Str.ofString "__debug__") && !(p.1 == Str.ofString "__classdict__"))
noncomputable def isNoneEx : Ex → Bool
  | .lit v => match v with
    | .none => true
    | _ => false
  | _ => false
noncomputable def optOk (n : Bool) (f : Expr → Bool) (x : Option Expr) : Bool := match x with
  | none => n
  | some e => f e
mutual
noncomputable def chkE (C : SC) : Ex → Expr → Bool
  | .lit v, x => isConst x fun c => litOk v c
  | .var i, x => isName x fun n => C.is i n
  | .bin op a b, x => isBin x fun l o r => op == o && (chkE C a l && chkE C b r)
  | .neg a, x => isUn x fun o y => o == .USub && chkE C a y
  | .not a, x => isUn x fun o y => o == .Not && chkE C a y
  | .ite c a b, x => isIf x fun t y z => chkE C c t && (chkE C a y && chkE C b z)
  | .list es, x => isList x fun xs => decide (xs.length < 1000) && chkEs C es xs
  | .tup es, x => isTup x fun xs => decide (xs.length < 1000) && chkEs C es xs
  | .cmp a ops es, x => isCmp x fun l os cs => ops == os && (chkE C a l && chkEs C es cs)
  | .band es, x => isBool x fun o xs => o == .And && chkEs C es xs
  | .bor es, x => isBool x fun o xs => o == .Or && chkEs C es xs
  | .idx a i, x => isSub x fun v s => chkE C a v && chkE C i s
  | .slc a lo hi st, x => isSub x fun v s => isSlice s fun l u k => chkE C a v && (optOk (isNoneEx lo) (fun e => chkE C lo e) l && (optOk (isNoneEx hi) (fun e => chkE C hi e) u && optOk (isNoneEx st) (fun e => chkE C st e) k))
  | .attr o n, x => isAttr x fun v y _ => Str.ofString n == y && (notCall v && chkE C o v)
  | .bi b args, x => isCall x fun f xs k _ => isName f fun f => k.isEmpty && (C.glob b.name f && chkEs C args xs)
  | .call n args, x => isCall x fun f xs k _ => isName f fun f => k.isEmpty && (C.fns.contains n && (C.glob n f && chkEs C args xs))
  | .me o m args, x => isCall x fun f xs k p => isAttr f fun v y q => k.isEmpty && (Str.ofString m.name == y && (q.endLine == p.line && (decide (xs.length < 20) && (notCall v && (chkE C o v && chkEs C args xs)))))
  | .imeth o n args, x => C.meths.contains n && isCall x fun f xs k p => isAttr f fun v y q => k.isEmpty && (Str.ofString n == y && (q.endLine == p.line && (decide (xs.length < 20) && (notCall v && (chkE C o v && chkEs C args xs)))))
  | .lcall i args, x => isCall x fun f xs k _ => isName f fun y => k.isEmpty && (C.is i y && chkEs C args xs)
  | .comp elt one is it cs n caps, x => isLC x fun e gs sc => gen1 gs fun t i ifs => plainE i && (chkE C it i && (compOk C sc n caps && (chkBind (compSC C sc) one is t && (chkEs (compSC C sc) cs ifs && chkE (compSC C sc) elt e))))
  | .comp2 elt one is it iti j n caps, x => isLC x fun e gs sc => gen2 gs fun t i t' i' => plainE i && (plainE i' && (chkE C it i && (compOk C sc n caps && (chkBind (compSC C sc) one is t && (chkBind (compSC C sc) true [j] t' && (chkE (compSC C sc) iti i' && chkE (compSC C sc) elt e))))))
noncomputable def chkEs (C : SC) : List Ex → List Expr → Bool
  | [], xs => xs.isEmpty
  | a :: as, xs => xs.head?.any fun e => plainE e && chkE C a e && chkEs C as xs.tail
end
noncomputable def chkO (C : SC) (a : Ex) (x : Option Expr) : Bool := optOk (isNoneEx a) (fun e => chkE C a e) x
theorem chkEs_cons {C : SC} {a : Ex} {as : List Ex} {xs : List Expr} (h : chkEs C (a :: as) xs = true) : ∃ e es, xs = e :: es ∧ plainE e = true ∧ chkE C a e = true ∧ chkEs C as es = true := by
  cases xs with
  | nil => cases h
  | cons e es =>
    have h : (plainE e && chkE C a e && chkEs C as es) = true := h
    rw [Bool.and_eq_true, Bool.and_eq_true] at h
    exact ⟨e, es, rfl, h.1.1, h.1.2, h.2⟩
theorem chkEs_nil {C : SC} {xs : List Expr} (h : chkEs C [] xs = true) : xs = [] := by
  cases xs with
  | nil => rfl
  | cons => cases h
section
variable {C : SC} {x : Expr} {M : Expr → Prop}
@[elab_as_elim] theorem chk_bin {op : Operator} {a b : Ex} (h : chkE C (.bin op a b) x = true) (k : ∀ l r p, chkE C a l = true → chkE C b r = true → M (.BinOp l op r p)) : M x :=
  isBin_e (e := x) (K := fun l o r => op == o && (chkE C a l && chkE C b r)) h fun l o r p q => by
    obtain ⟨q1, q2⟩ := and_e q; cases beq_iff_eq.mp q1; exact k l r p (and_e q2).1 (and_e q2).2
@[elab_as_elim] theorem chk_neg {a : Ex} (h : chkE C (.neg a) x = true) (k : ∀ y p, chkE C a y = true → M (.UnaryOp .USub y p)) : M x :=
  isUn_e (e := x) (K := fun o y => o == .USub && chkE C a y) h fun o y p q => by
    obtain ⟨q1, q2⟩ := and_e q; cases beq_iff_eq.mp q1; exact k y p q2
@[elab_as_elim] theorem chk_not {a : Ex} (h : chkE C (.not a) x = true) (k : ∀ y p, chkE C a y = true → M (.UnaryOp .Not y p)) : M x :=
  isUn_e (e := x) (K := fun o y => o == .Not && chkE C a y) h fun o y p q => by
    obtain ⟨q1, q2⟩ := and_e q; cases beq_iff_eq.mp q1; exact k y p q2
@[elab_as_elim] theorem chk_ite {c a b : Ex} (h : chkE C (.ite c a b) x = true) (k : ∀ t y z p, chkE C c t = true → chkE C a y = true → chkE C b z = true → M (.IfExp t y z p)) : M x :=
  isIf_e (e := x) (K := fun t y z => chkE C c t && (chkE C a y && chkE C b z)) h fun t y z p q => k t y z p (and_e q).1 (and_e (and_e q).2).1 (and_e (and_e q).2).2
@[elab_as_elim] theorem chk_list {es : List Ex} (h : chkE C (.list es) x = true) (k : ∀ xs p, xs.length < 1000 → chkEs C es xs = true → M (.List xs p)) : M x :=
  isList_e (e := x) (K := fun xs => decide (xs.length < 1000) && chkEs C es xs) h fun xs p q => k xs p (of_decide_eq_true (and_e q).1) (and_e q).2
@[elab_as_elim] theorem chk_tup {es : List Ex} (h : chkE C (.tup es) x = true) (k : ∀ xs n p, xs.length < 1000 → chkEs C es xs = true → M (.Tuple xs n p)) : M x :=
  isTup_e (e := x) (K := fun xs => decide (xs.length < 1000) && chkEs C es xs) h fun xs n p q => k xs n p (of_decide_eq_true (and_e q).1) (and_e q).2
@[elab_as_elim] theorem chk_cmp {a : Ex} {ops : List CmpOp} {es : List Ex} (h : chkE C (.cmp a ops es) x = true) (k : ∀ l cs p, chkE C a l = true → chkEs C es cs = true → M (.Compare l ops cs p)) : M x :=
  isCmp_e (e := x) (K := fun l os cs => ops == os && (chkE C a l && chkEs C es cs)) h fun l os cs p q => by
    obtain ⟨q1, q2⟩ := and_e q; cases beq_iff_eq.mp q1; exact k l cs p (and_e q2).1 (and_e q2).2
@[elab_as_elim] theorem chk_band {es : List Ex} (h : chkE C (.band es) x = true) (k : ∀ xs p, chkEs C es xs = true → M (.BoolOp .And xs p)) : M x :=
  isBool_e (e := x) (K := fun o xs => o == .And && chkEs C es xs) h fun o y p q => by
    obtain ⟨q1, q2⟩ := and_e q; cases beq_iff_eq.mp q1; exact k y p q2
@[elab_as_elim] theorem chk_bor {es : List Ex} (h : chkE C (.bor es) x = true) (k : ∀ xs p, chkEs C es xs = true → M (.BoolOp .Or xs p)) : M x :=
  isBool_e (e := x) (K := fun o xs => o == .Or && chkEs C es xs) h fun o y p q => by
    obtain ⟨q1, q2⟩ := and_e q; cases beq_iff_eq.mp q1; exact k y p q2
@[elab_as_elim] theorem chk_idx {a i : Ex} (h : chkE C (.idx a i) x = true) (k : ∀ v s p, chkE C a v = true → chkE C i s = true → M (.Subscript v s p)) : M x :=
  isSub_e (e := x) (K := fun v s => chkE C a v && chkE C i s) h fun v s p q => k v s p (and_e q).1 (and_e q).2
@[elab_as_elim] theorem chk_attr {o : Ex} {n : String} (h : chkE C (.attr o n) x = true) (k : ∀ v p, notCall v = true → chkE C o v = true → M (.Attribute v (Str.ofString n) p)) : M x :=
  isAttr_e (e := x) (K := fun v y _ => Str.ofString n == y && (notCall v && chkE C o v)) h fun v y p q => by
    obtain ⟨q1, q2⟩ := and_e q; cases beq_iff_eq.mp q1; exact k v p (and_e q2).1 (and_e q2).2
theorem call_name {K : Str → List Expr → Bool} (h : (isCall x fun f xs k _ => isName f fun f => k.isEmpty && K f xs) = true) (k : ∀ n q xs p, K n xs = true → M (.Call (.Name n q) xs [] p)) : M x :=
  isCall_e (e := x) (K := fun f xs k _ => isName f fun f => k.isEmpty && K f xs) h fun f xs kw p q =>
    isName_e (e := f) (K := fun f => kw.isEmpty && K f xs) (M := fun f => M (.Call f xs kw p)) q fun n q' q2 => by have q3 := (and_e q2).2; cases List.isEmpty_iff.mp (and_e q2).1; exact k n q' xs p q3
theorem call_attr {n : String} {o : Ex} {args : List Ex} (h : (isCall x fun f xs k p => isAttr f fun v y q => k.isEmpty && (Str.ofString n == y && (q.endLine == p.line && (decide (xs.length < 20) && (notCall v && (chkE C o v && chkEs C args xs)))))) = true)
    (k : ∀ v q xs p, q.endLine = p.line → xs.length < 20 → notCall v = true → chkE C o v = true → chkEs C args xs = true → M (.Call (.Attribute v (Str.ofString n) q) xs [] p)) : M x :=
  isCall_e (e := x) (K := fun f xs k p => isAttr f fun v y q => k.isEmpty && (Str.ofString n == y && (q.endLine == p.line && (decide (xs.length < 20) && (notCall v && (chkE C o v && chkEs C args xs)))))) h fun f xs kw p q =>
    isAttr_e (e := f) (K := fun v y q => kw.isEmpty && (Str.ofString n == y && (q.endLine == p.line && (decide (xs.length < 20) && (notCall v && (chkE C o v && chkEs C args xs)))))) (M := fun f => M (.Call f xs kw p)) q fun v y q' q => by
      obtain ⟨q1, q⟩ := and_e q
      obtain ⟨q2, q⟩ := and_e q
      obtain ⟨q3, q⟩ := and_e q
      obtain ⟨q4, q⟩ := and_e q
      obtain ⟨q5, q⟩ := and_e q
      obtain ⟨q6, q7⟩ := and_e q
      cases List.isEmpty_iff.mp q1; cases beq_iff_eq.mp q2
      exact k v q' xs p (beq_iff_eq.mp q3) (of_decide_eq_true q4) q5 q6 q7
end
theorem mkS_append (a b : Tx) : (mkS a ++ mkS b : Str) = mkS (a ++ b) := by
  show Str.append (mkS a) (mkS b) = _
  simp [Str.append, mkS]
theorem mkl (a : Tx) : (mkS a).length = a.length := by simp [Str.length]
theorem toNat_inj {a b : Char} (h : a.toNat = b.toNat) : a = b := by
  apply Char.ext; apply UInt32.toNat_inj.mp; exact h
theorem mkS_inj {a b : Tx} (h : mkS a = mkS b) : a = b := by
  have h2 : (a.map Char.toNat) = (b.map Char.toNat) := by
    have := congrArg (fun x : Str => x.cps.toList) h
    simpa using this
  exact (List.map_inj_right fun x y e => toNat_inj e).mp h2
theorem mkS_beq (a b : Tx) : (mkS a == mkS b) = decide (a = b) := by
  by_cases h : a = b
  · subst h; simp
  · simp only [h, decide_false]
    exact beq_eq_false_iff_ne.mpr fun e => h (mkS_inj e)
theorem mkS_ok (a : Tx) : PyData.strOk (mkS a) = true := by
  rw [PyData.strOk, Array.all_eq_true_iff_forall_mem]
  intro n hn
  have hn' : n ∈ a.map Char.toNat := by simpa [mkS] using hn
  obtain ⟨c, _, rfl⟩ := List.mem_map.mp hn'
  have := c.valid
  simp only [decide_eq_true_eq]
  have h : c.toNat = c.val.toNat := rfl
  rw [h]
  rcases this with h1 | h1
  · exact Nat.le_trans ‹_› (by decide)
  · lia
section
variable {G : GS} {A : Around} {Γ : FE} {frz : Frz} {σ : St} {s : Shared} {Q : V → Mem → Prop}
noncomputable def PO (G : GS) (Γ : FE) (frz : Frz) (σ : St) (s : Shared) (Q : V → Mem → Prop) : Value → Shared → Prop :=
  fun cv s' => ∃ v m, RV s'.heap cv v ∧ Rep G Γ frz { σ with mem := m } s' ∧ TK s.heap s'.heap ∧ Q v m
theorem PO.pure (r : Rep G Γ frz σ s) {cv : Value} {v : V} {tk : Nat} (h : RV s.heap cv v) (q : Q v σ.mem) : PO G Γ frz σ s Q cv { s with toks := tk } :=
  ⟨v, σ.mem, h, r.toks tk, .refl _, q⟩
theorem PO.here (r : Rep G Γ frz σ s) {cv : Value} {v : V} (h : RV s.heap cv v) (q : Q v σ.mem) : PO G Γ frz σ s Q cv s :=
  ⟨v, σ.mem, h, r, .refl _, q⟩
theorem push_keeps (h : Heap) (o : Obj) : ∀ b o', h.get? b = some o' → (h.push o).get? b = some o' := fun _ _ e => Heap.get?_push_of_some o e
theorem PO.newList (r : Rep G Γ frz σ s) {arr : Array Value} {vs : List V} {tk : Nat} (h : RVs s.heap arr.toList vs) (q : ∀ c, σ.mem c = none → Q (.obj c) (upd σ.mem c (.list vs))) :
    PO G Γ frz σ s Q (.ref s.heap.objs.size) { s with heap := s.heap.push { cls := .type "list", data := .seq arr }, toks := tk } := by
  have k := push_keeps s.heap { cls := .type "list", data := .seq arr }
  refine ⟨.obj s.heap.objs.size, _, .obj _, r.fresh (Nat.le_refl _) k (.list (Heap.get?_push_size _ rfl) (h.tk (.of k))), .of k, q _ (r.none_of_ge (Nat.le_refl _)).1⟩
theorem PO.newTup (r : Rep G Γ frz σ s) {arr : Array Value} {vs : List V} {tk : Nat} (h : RVs s.heap arr.toList vs) (q : Q (.tup vs) σ.mem) :
    PO G Γ frz σ s Q (.ref s.heap.objs.size) { s with heap := s.heap.push { cls := .type "tuple", data := .seq arr }, toks := tk } := by
  have k := push_keeps s.heap { cls := .type "tuple", data := .seq arr }
  exact ⟨.tup vs, _, .tup (Heap.get?_push_size _ rfl) (h.tk (.of k)), r.grow k, .of k, q⟩
theorem small_line {n : Nat} (h : sma n) : n ≤ sizeLine := by unfold sma at h; rw [sizeLine_eq]; exact Nat.le_trans ‹_› (by decide)
theorem tiny_mul {a b : Int} (h : tiny a) : IntMulOk a b := by
  refine IntMulOk.of_left ?_
  unfold tiny at h
  unfold Builtin.Int.intBits
  have h2 : a.natAbs < 2 ^ 63 := by omega
  by_cases h0 : a.natAbs = 0
  · have h1 : a = 0 := by (clear h2; lia)
    subst h1; decide
  · have := Nat.log2_lt (n := a.natAbs) (k := 63) h0
    have h3 := this.mpr h2
    split <;> lia
theorem foldl_rep {α : Type} (x : α) : ∀ (n : Nat) (acc : Array α), (List.foldl (fun x1 x2 => x1 ++ x2) acc (List.replicate n #[x])).toList = acc.toList ++ List.replicate n x
  | 0, acc => by simp
  | n + 1, acc => by rw [List.replicate_succ, List.foldl_cons, foldl_rep x n]; simp [List.replicate_succ]
theorem RVs.rep {h : Heap} {v : Value} {x : V} (a : RV h v x) : ∀ n : Nat, RVs h (List.replicate n v) (List.replicate n x)
  | 0 => .nil
  | n + 1 => .cons a (RVs.rep a n)
theorem fdiv_pos {a b : Int} (h : 0 < b) : a.fdiv b = a / b := by rw [Int.fdiv_eq_ediv_of_nonneg]; lia
theorem fmod_pos {a b : Int} (h : 0 < b) : a.fmod b = a % b := by rw [Int.fmod_eq_emod_of_nonneg]; lia
theorem ord_e {v u : V} {cv cu : Value} {K : Int → Int → Prop} {M : Value → Value → Prop} (h : ordI v u K) (hv : RV s.heap cv v) (hu : RV s.heap cu u) (q : ∀ a b t t', K a b → M (.int a t) (.int b t')) : M cv cu := by
  obtain ⟨a, rfl, h1⟩ := asI_inv h
  obtain ⟨b, rfl, h2⟩ := asI_inv h1
  exact hv.eI fun _ => hu.eI fun _ => q _ _ _ _ h2
theorem b_cat {a b : Tx} {t u : Tok} (h : sma a.length ∧ sma b.length ∧ Q (.str (a ++ b)) σ.mem) (r : Rep G Γ frz σ s) :
    wpAny (model G.prog G.w) A (binaryOp .Add (.str (mkS a) t) (.str (mkS b) u)) (PO G Γ frz σ s Q) NoE s :=
  add_str (fun t' tk => by rw [mkS_append]; exact PO.pure r (.str _ _) h.2.2) (by rw [mkl, mkl, sizeLine_eq]; exact Nat.le_trans (Nat.add_le_add h.1 h.2.1) (by decide))
theorem b_cc {a b : Addr} (h : ∃ xs ys, σ.mem a = some (.list xs) ∧ σ.mem b = some (.list ys) ∧ sma xs.length ∧ sma ys.length ∧ ∀ c, σ.mem c = none → Q (.obj c) (upd σ.mem c (.list (xs ++ ys)))) (r : Rep G Γ frz σ s) :
    wpAny (model G.prog G.w) A (binaryOp .Add (.ref a) (.ref b)) (PO G Γ frz σ s Q) NoE s := by
  refine bc fun z9 => ?_
  obtain ⟨xs, ys, e1, e2, h1, h2, h3⟩ := h
  refine z9 ?_
  refine bc fun z9 => ?_
  obtain ⟨p, _, g1, r1, l1⟩ := (r.hmem _ _ e1).l
  refine z9 ?_
  refine bc fun z9 => ?_
  obtain ⟨q, _, g2, r2, l2⟩ := (r.hmem _ _ e2).l
  refine z9 ?_
  exact concat_meets ⟨_, g1, rfl⟩ ⟨_, g2, rfl⟩ noFill_list_add seq_list_add F.slot_list_add F.entry_list_add (F.args_list_add_2 _ _)
      (list_addW _ _ _ _ _ _ _ _ _ _ (by rw [ l1, l2, sizeLine_eq ]; exact Nat.le_trans (Nat.add_le_add h1 h2) (by decide))) ⟨g1, g2, PO.newList r (by rw [ Array.toList_append ]; exact r1.append r2) h3⟩
theorem arr_one {h : Heap} {arr : Array Value} {x : V} (r : RVs h arr.toList [x]) : ∃ y, arr = #[y] ∧ RV h y x := by
  obtain ⟨y, e, q⟩ : ∃ y, arr.toList = [y] ∧ RV h y x := RVs.e1 (N := fun l => ∃ y, l = [y] ∧ RV h y x) r fun c q => ⟨c, rfl, q⟩
  exact ⟨y, by rw [ ← Array.toArray_toList (xs := arr), e ], q⟩
theorem b_rep {a : Addr} {k : Int} {u : Tok} (h : ∃ x, σ.mem a = some (.list [x]) ∧ tiny k ∧ sma k.toNat ∧ ∀ c, σ.mem c = none → Q (.obj c) (upd σ.mem c (.list (List.replicate k.toNat x)))) (r : Rep G Γ frz σ s) :
    wpAny (model G.prog G.w) A (binaryOp .Mult (.ref a) (.int k u)) (PO G Γ frz σ s Q) NoE s := by
  obtain ⟨x, e1, h1, h2, h3⟩ := h
  obtain ⟨arr, _, g1, r1, _⟩ := (r.hmem _ _ e1).l
  obtain ⟨y, rfl, ry⟩ := arr_one r1
  unfold tiny at h1
  unfold sma at h2
  refine wpAny_binaryOp_repeat_ref (T := "list") (U := "int") (by decide) ⟨_, g1, rfl⟩ (fun s' => typeIs_int s' _ _) noFill_list_mul F.fills_int_mul F.slot_int_rmul repeat_list F.slot_int_index.lookup
    (call_meets F.slot_int_rmul (typeIs_int s _ _) F.entry_int_rmul (F.args_int_rmul_2 _ _) (int___rmul___int_list _ _ _ _ _)
      ⟨g1, rfl, ⟨_, g1, rfl⟩, call_meets F.slot_list_mul ⟨_, g1, rfl⟩ F.entry_list_mul (F.args_list_mul_2 _ _)
        (AutoListH.list___mul___list_int_3 _ _ _ _ _ (by simp [Builtin.List.listFitsIndex]; lia) (by have : (#[y] : Array Value).size = 1 := rfl; rw [ this ]; lia) (by simp [Builtin.List.listTooLong, sizeLine]; lia)) ⟨g1, ?_⟩⟩)
  refine PO.newList r ?_ h3
  rw [if_neg (by simp), foldl_rep]
  exact RVs.rep ry _
theorem b_add {v u : V} {cv cu : Value} (h : addV σ.mem v u Q) (r : Rep G Γ frz σ s) (hv : RV s.heap cv v) (hu : RV s.heap cu u) : wpAny (model G.prog G.w) A (binaryOp .Add cv cu) (PO G Γ frz σ s Q) NoE s := by
  cases v <;> first | exact False.elim h | skip
  · obtain ⟨b, rfl, h⟩ := asI_inv h
    exact hv.eI fun _ => hu.eI fun _ => add_int (PO.pure r (.int _ _) h)
  · obtain ⟨b, rfl, h⟩ := asS_inv h
    exact hv.eS fun _ => hu.eS fun _ => b_cat h r
  · obtain ⟨b, rfl, h⟩ := asO_inv h
    exact hv.eO (hu.eO (b_cc h r))
theorem b_mul {v u : V} {cv cu : Value} (h : mulV σ.mem v u Q) (r : Rep G Γ frz σ s) (hv : RV s.heap cv v) (hu : RV s.heap cu u) : wpAny (model G.prog G.w) A (binaryOp .Mult cv cu) (PO G Γ frz σ s Q) NoE s := by
  cases v <;> first | exact False.elim h | skip
  · obtain ⟨b, rfl, h⟩ := asI_inv h
    exact hv.eI fun _ => hu.eI fun _ => PyProof.Rows.mul_int (PO.pure r (.int _ _) h.2) (tiny_mul h.1)
  · obtain ⟨b, rfl, h⟩ := asI_inv h
    exact hv.eO (hu.eI fun _ => b_rep h r)
theorem b_mod {a b : Int} {t u : Tok} (h : 0 < b ∧ Q (.int (a % b)) σ.mem) (r : Rep G Γ frz σ s) : wpAny (model G.prog G.w) A (binaryOp .Mod (.int a t) (.int b u)) (PO G Γ frz σ s Q) NoE s :=
  mod_int' (Int.ne_of_gt h.1) (by rw [fmod_pos h.1]; exact PO.pure r (.int _ _) h.2)
theorem b_div {a b : Int} {t u : Tok} (h : 0 < b ∧ tiny b ∧ Q (.int (a / b)) σ.mem) (r : Rep G Γ frz σ s) : wpAny (model G.prog G.w) A (binaryOp .FloorDiv (.int a t) (.int b u)) (PO G Γ frz σ s Q) NoE s :=
  floordiv_int (Int.ne_of_gt h.1) (by rw [ fdiv_pos h.1 ]; exact PO.pure r (.int _ _) h.2.2) (.inl (PyProof.noPylong_small (by have := h.2.1; have := h.1; unfold tiny at *; omega)))
theorem s_bin {op : Operator} {v u : V} {cv cu : Value} (h : wpBin σ.mem op v u Q) (r : Rep G Γ frz σ s) (hv : RV s.heap cv v) (hu : RV s.heap cu u) :
    wpAny (model G.prog G.w) A (binaryOp op cv cu) (PO G Γ frz σ s Q) NoE s := by
  cases op <;> first | exact False.elim h | skip
  · exact b_add h r hv hu
  · exact ord_e (M := fun cv cu => wpAny (model G.prog G.w) A (binaryOp .Sub cv cu) (PO G Γ frz σ s Q) NoE s) h hv hu fun _ _ _ _ h => sub_int' (PO.pure r (.int _ _) h)
  · exact b_mul h r hv hu
  · exact ord_e (M := fun cv cu => wpAny (model G.prog G.w) A (binaryOp .Mod cv cu) (PO G Γ frz σ s Q) NoE s) h hv hu fun _ _ _ _ h => b_mod h r
  · exact ord_e (M := fun cv cu => wpAny (model G.prog G.w) A (binaryOp .FloorDiv cv cu) (PO G Γ frz σ s Q) NoE s) h hv hu fun _ _ _ _ h => b_div h r
theorem rds_reads {m : Mem} {h : Heap} {n : Nat} (ih : ∀ {cv : Value} {v : V} {d : PyData}, rd n m v = some d → RV h cv v → ∃ as, Reads h cv d as) {cs : List Value} {vs : List V} (r : RVs h cs vs) : ∀ {ds : List PyData}, vs.mapM (rd n m) = some ds → ∃ as, ReadsAll h cs ds as := by
  refine RVs.ind (N := fun cs vs => ∀ {ds : List PyData}, vs.mapM (rd n m) = some ds → ∃ as, ReadsAll h cs ds as) ?_ ?_ r
  · intro ds e; cases e; exact ⟨_, .nil⟩
  · intro v x vs xs a b hi ds e
    rw [List.mapM_cons] at e
    cases q : rd n m x with
    | none => rw [q] at e; cases e
    | some d =>
      rw [q] at e
      cases q2 : xs.mapM (rd n m) with
      | none => rw [q2] at e; cases e
      | some ds' =>
        rw [q2] at e
        cases e
        obtain ⟨as, p⟩ := ih q a
        obtain ⟨bs, p2⟩ := hi q2
        exact ⟨_, .cons p p2⟩
theorem rd0_reads {h : Heap} {cv : Value} {v : V} {d : PyData} (e : rd0 v = some d) (r : RV h cv v) : ∃ as, Reads h cv d as := by
  cases v <;> first | cases e
  · exact r.eN ⟨_, .none⟩
  · exact r.eB ⟨_, .bool _⟩
  · exact r.eI fun _ => ⟨_, .int _ _⟩
  · exact r.eS fun _ => ⟨_, .str _ _⟩
theorem listAt_inv {m : Mem} {a : Addr} {vs : List V} (e : listAt m a = some vs) : m a = some (.list vs) := by
  obtain ⟨o, e1, e2⟩ := Option.bind_eq_some_iff.mp e
  cases o <;> cases e2
  exact e1
theorem rd_obj {n : Nat} {m : Mem} {a : Addr} {vs : List V} (h : m a = some (.list vs)) : rd (n + 1) m (.obj a) = (vs.mapM (rd n m)).map .list := by
  show ((m a).bind _).bind _ = _
  rw [h]; rfl
theorem rd_reads {m : Mem} {h : Heap} (hm : ∀ a o, m a = some o → RO h a o) : ∀ (n : Nat) {cv : Value} {v : V} {d : PyData}, rd n m v = some d → RV h cv v → ∃ as, Reads h cv d as
  | 0, _, _, _, e, r => rd0_reads e r
  | n + 1, _, .tup _, _, e, r => by
    obtain ⟨ds, q, rfl⟩ := Option.map_eq_some_iff.mp e
    exact r.eT fun _ _ _ g rs => let ⟨as, p⟩ := rds_reads (rd_reads hm n) rs q; ⟨as, .tuple g rfl rfl p⟩
  | n + 1, _, .obj _, _, e, r => by
    obtain ⟨vs, e1, e⟩ := Option.bind_eq_some_iff.mp e
    obtain ⟨ds, q, rfl⟩ := Option.map_eq_some_iff.mp e
    obtain ⟨_, _, g, rs, _⟩ := (hm _ _ (listAt_inv e1)).l
    exact r.eO (let ⟨as, p⟩ := rds_reads (rd_reads hm n) rs q; ⟨_, .list g rfl rfl p⟩)
  | n + 1, _, .none, _, e, r => rd0_reads (v := .none) e r
  | n + 1, _, .bool _, _, e, r => rd0_reads (v := .bool _) e r
  | n + 1, _, .int _, _, e, r => rd0_reads (v := .int _) e r
  | n + 1, _, .str _, _, e, r => rd0_reads (v := .str _) e r
  | n + 1, _, .flt _, _, e, r => rd0_reads (v := .flt _) e r
  | n + 1, _, .rng .., _, e, r => rd0_reads (v := .rng _ _ _) e r
theorem rd0_shape {v : V} {d : PyData} (e : rd0 v = some d) : d.canLay0 = true ∧ d.depth = 0 := by
  cases v <;> first | cases e
  · exact ⟨rfl, rfl⟩
  · exact ⟨rfl, rfl⟩
  · exact ⟨rfl, rfl⟩
  · exact ⟨mkS_ok _, rfl⟩
theorem rd0_sh {n : Nat} {v : V} {d : PyData} (e : rd0 v = some d) : d.canLay0 = true ∧ d.depth ≤ n := ⟨(rd0_shape e).1, Nat.le_trans (Nat.le_of_eq (rd0_shape e).2) (Nat.zero_le _)⟩
theorem rds_shape {m : Mem} {n : Nat} (ih : ∀ {v : V} {d : PyData}, rd n m v = some d → d.canLay0 = true ∧ d.depth ≤ n) : ∀ (vs : List V) {ds : List PyData}, vs.mapM (rd n m) = some ds → PyData.canLayAll0 ds = true ∧ PyData.depthAll ds ≤ n
  | [], ds, e => by cases e; exact ⟨rfl, Nat.zero_le _⟩
  | v :: vs, ds, e => by
    rw [List.mapM_cons] at e
    obtain ⟨d, e1, e⟩ := Option.bind_eq_some_iff.mp e
    obtain ⟨ds', e2, e⟩ := Option.bind_eq_some_iff.mp e
    cases e
    have p := ih e1
    have q := rds_shape ih vs e2
    exact ⟨(Bool.and_eq_true _ _).mpr ⟨p.1, q.1⟩, Nat.max_le.mpr ⟨p.2, q.2⟩⟩
theorem rd_shape {m : Mem} : ∀ (n : Nat) {v : V} {d : PyData}, rd n m v = some d → d.canLay0 = true ∧ d.depth ≤ n
  | 0, _, _, e => ⟨(rd0_shape e).1, Nat.le_of_eq (rd0_shape e).2⟩
  | n + 1, .tup vs, _, e => by
    obtain ⟨ds, q, rfl⟩ := Option.map_eq_some_iff.mp e
    have p := rds_shape (rd_shape n) vs q
    exact ⟨p.1, Nat.succ_le_succ p.2⟩
  | n + 1, .obj a, _, e => by
    obtain ⟨vs, e1, e⟩ := Option.bind_eq_some_iff.mp e
    obtain ⟨ds, q, rfl⟩ := Option.map_eq_some_iff.mp e
    have p := rds_shape (rd_shape n) vs q
    exact ⟨p.1, Nat.succ_le_succ p.2⟩
  | n + 1, .none, _, e => rd0_sh (v := .none) e
  | n + 1, .bool _, _, e => rd0_sh (v := .bool _) e
  | n + 1, .int _, _, e => rd0_sh (v := .int _) e
  | n + 1, .str _, _, e => rd0_sh (v := .str _) e
  | n + 1, .flt x, _, e => rd0_sh (v := .flt x) e
  | n + 1, .rng x y z, _, e => rd0_sh (v := .rng x y z) e
theorem rd_shaped {m : Mem} {v : V} {d : PyData} (e : rd 8 m v = some d) : SeqAt.shaped d = true := by
  have := rd_shape 8 e
  unfold SeqAt.shaped
  rw [this.1, Bool.true_and]
  exact decide_eq_true (Nat.le_trans this.2 (by decide))
noncomputable def PQ (G : GS) (Γ : FE) (frz : Frz) (σ : St) (s : Shared) (Q : Bool → Prop) : Value → Shared → Prop :=
  fun cv s' => ∃ b, cv = .bool b ∧ Rep G Γ frz σ s' ∧ TK s.heap s'.heap ∧ Q b
noncomputable def PT (G : GS) (Γ : FE) (frz : Frz) (σ : St) (s : Shared) (Q : Bool → Prop) : Bool → Shared → Prop :=
  fun b s' => Rep G Γ frz σ s' ∧ TK s.heap s'.heap ∧ Q b
noncomputable def roomU (A : Around) : Prop := A.units + 64 < cLine
theorem s_eqv {v u : V} {cv cu : Value} {K : Bool → Prop} {ne : Bool} {Q : Bool → Prop} (hu' : roomU A) (h : eqAny σ.mem v u fun t => Q (if ne then !t else t)) (r : Rep G Γ frz σ s) (hv : RV s.heap cv v) (hu : RV s.heap cu u) :
    wpAny (model G.prog G.w) A (compareOp (if ne then .NotEq else .Eq) cv cu) (PQ G Γ frz σ s Q) NoE s := by
  obtain ⟨d, e, h1, h2, h3⟩ := h
  obtain ⟨as, ra⟩ := rd_reads r.hmem 8 h1 hv
  obtain ⟨bs, rb⟩ := rd_reads r.hmem 8 h2 hu
  cases ne with
  | false => exact eq_dataH ra rb (rd_shaped h1) (rd_shaped h2) hu' ⟨_, rfl, r, .refl _, h3⟩
  | true => exact ne_dataH ra rb (rd_shaped h1) (rd_shaped h2) hu' ⟨_, rfl, r, .refl _, h3⟩
theorem cmpEq_inv {m : Mem} {a b : V} {K : Bool → Prop} (h : cmpEq m a b K) : (∃ x y, a = .int x ∧ b = .int y ∧ K (decide (x = y))) ∨ (∃ x y, a = .str x ∧ b = .str y ∧ K (decide (x = y))) ∨ eqAny m a b K := by
  cases a <;> first
    | exact .inr (.inr h)
    | (cases b <;> first | exact .inr (.inr h) | exact .inl ⟨_, _, rfl, rfl, h⟩ | exact .inr (.inl ⟨_, _, rfl, rfl, h⟩))
theorem s_in {v u : V} {cv cu : Value} {nt : Bool} {Q : Bool → Prop} (hu' : roomU A) (h : inAny σ.mem v u fun t => Q (if nt then !t else t)) (r : Rep G Γ frz σ s) (hv : RV s.heap cv v) (hu : RV s.heap cu u) :
    wpAny (model G.prog G.w) A (compareOp (if nt then .NotIn else .In) cv cu) (PQ G Γ frz σ s Q) NoE s := by
  refine bc fun z9 => ?_
  obtain ⟨l, rfl, vs, d, ds, hl, _, h1, h2, h3⟩ := asO_inv h
  refine z9 ?_
  have h4 : rd 8 σ.mem (.obj l) = some (.list ds) := by rw [rd_obj hl, h2]; rfl
  obtain ⟨as, ra⟩ := rd_reads r.hmem 7 h1 hv
  obtain ⟨bs, rb⟩ := rd_reads r.hmem 8 h4 hu
  have s1 := rd_shape 7 h1
  have s2 := rd_shape 8 h4
  simp only [PyData.canLay0, PyData.depth] at s2
  have hm : A.units + 1 + min (PyData.depthAll ds) d.depth < cLine := by
    have := Nat.min_le_right (PyData.depthAll ds) d.depth
    unfold roomU at hu'; grind
  cases nt with
  | false => exact SeqAt.in_list_reads rb ra s2.1 s1.1 hm ⟨_, rfl, r, .refl _, h3⟩
  | true => exact SeqAt.notIn_list_reads rb ra s2.1 s1.1 hm ⟨_, rfl, r, .refl _, h3⟩
theorem cmpIs_inv {a b : V} {K : Bool → Prop} (h : cmpIs a b K) : b = .none ∧ ((a = .none ∧ K true) ∨ ∃ vs, a = .tup vs ∧ K false) := by
  cases b <;> first
    | exact False.elim h
    | (cases a <;> first | exact False.elim h | exact ⟨rfl, .inl ⟨rfl, h⟩⟩ | exact ⟨rfl, .inr ⟨_, rfl, h⟩⟩)
theorem PQ.of {Q : Bool → Prop} (r : Rep G Γ frz σ s) {b : Bool} (h : Q b) : PQ G Γ frz σ s Q (.bool b) s := ⟨b, rfl, r, .refl _, h⟩
theorem s_eqA {v u : V} {cv cu : Value} {Q : Bool → Prop} (hu' : roomU A) (h : cmpEq σ.mem v u Q) (r : Rep G Γ frz σ s) (hv : RV s.heap cv v) (hu : RV s.heap cu u) :
    wpAny (model G.prog G.w) A (compareOp .Eq cv cu) (PQ G Γ frz σ s Q) NoE s := by
  rcases cmpEq_inv h with ⟨x, y, rfl, rfl, h⟩ | ⟨x, y, rfl, rfl, h⟩ | h
  · exact hv.eI fun _ => hu.eI fun _ => eq_int (.of r h)
  · exact hv.eS fun _ => hu.eS fun _ => eq_str (.of r ((mkS_beq _ _).symm ▸ h))
  · exact s_eqv (ne := false) (K := Q) hu' h r hv hu
theorem s_neA {v u : V} {cv cu : Value} {Q : Bool → Prop} (hu' : roomU A) (h : cmpEq σ.mem v u fun t => Q (!t)) (r : Rep G Γ frz σ s) (hv : RV s.heap cv v) (hu : RV s.heap cu u) :
    wpAny (model G.prog G.w) A (compareOp .NotEq cv cu) (PQ G Γ frz σ s Q) NoE s := by
  rcases cmpEq_inv (K := fun t => Q (!t)) h with ⟨x, y, rfl, rfl, h⟩ | ⟨x, y, rfl, rfl, h⟩ | h
  · exact hv.eI fun _ => hu.eI fun _ => ne_int (.of r h)
  · exact hv.eS fun _ => hu.eS fun _ => ne_str (.of r (by rw [bne, mkS_beq]; exact h))
  · exact s_eqv (ne := true) (K := Q) hu' h r hv hu
theorem s_isA {v u : V} {cv cu : Value} {Q : Bool → Prop} (h : cmpIs v u Q) (r : Rep G Γ frz σ s) (hv : RV s.heap cv v) (hu : RV s.heap cu u) :
    wpAny (model G.prog G.w) A (compareOp .Is cv cu) (PQ G Γ frz σ s Q) NoE s := by
  obtain ⟨rfl, ⟨rfl, h⟩ | ⟨vs, rfl, h⟩⟩ := cmpIs_inv h
  · exact hv.eN (hu.eN (is_none_none (.of r h)))
  · exact hv.eT fun _ _ _ _ _ => hu.eN (is_none_ne (fun e => nomatch e) (.of r h))
theorem s_isntA {v u : V} {cv cu : Value} {Q : Bool → Prop} (h : cmpIs v u fun t => Q (!t)) (r : Rep G Γ frz σ s) (hv : RV s.heap cv v) (hu : RV s.heap cu u) :
    wpAny (model G.prog G.w) A (compareOp .IsNot cv cu) (PQ G Γ frz σ s Q) NoE s := by
  obtain ⟨rfl, ⟨rfl, h⟩ | ⟨vs, rfl, h⟩⟩ := cmpIs_inv (K := fun t => Q (!t)) h
  · exact hv.eN (hu.eN (isnot_none_none (.of r h)))
  · exact hv.eT fun _ _ _ _ _ => hu.eN (isnot_none_ne (fun e => nomatch e) (.of r h))
theorem s_cmp {op : CmpOp} {v u : V} {cv cu : Value} {Q : Bool → Prop} (hu' : roomU A) (h : wpCmp σ.mem op v u Q) (r : Rep G Γ frz σ s) (hv : RV s.heap cv v) (hu : RV s.heap cu u) :
    wpAny (model G.prog G.w) A (compareOp op cv cu) (PQ G Γ frz σ s Q) NoE s :=
  match op, h with
  | .Eq, h => s_eqA hu' h r hv hu
  | .NotEq, h => s_neA hu' h r hv hu
  | .Lt, h => ord_e (M := fun cv cu => wpAny (model G.prog G.w) A (compareOp .Lt cv cu) (PQ G Γ frz σ s Q) NoE s) h hv hu fun _ _ _ _ h => lt_int (.of r h)
  | .LtE, h => ord_e (M := fun cv cu => wpAny (model G.prog G.w) A (compareOp .LtE cv cu) (PQ G Γ frz σ s Q) NoE s) h hv hu fun _ _ _ _ h => le_int (.of r h)
  | .Gt, h => ord_e (M := fun cv cu => wpAny (model G.prog G.w) A (compareOp .Gt cv cu) (PQ G Γ frz σ s Q) NoE s) h hv hu fun _ _ _ _ h => gt_int (.of r h)
  | .GtE, h => ord_e (M := fun cv cu => wpAny (model G.prog G.w) A (compareOp .GtE cv cu) (PQ G Γ frz σ s Q) NoE s) h hv hu fun _ _ _ _ h => ge_int (.of r h)
  | .Is, h => s_isA h r hv hu
  | .IsNot, h => s_isntA h r hv hu
  | .In, h => s_in (nt := false) hu' h r hv hu
  | .NotIn, h => s_in (nt := true) hu' h r hv hu
theorem small63 {n : Nat} (h : sma n) : (n : Int) < 2 ^ 63 := by unfold sma at h; lia
theorem isEmpty_of {arr : Array Value} {vs : List V} (e : arr.size = vs.length) : arr.isEmpty = vs.isEmpty := by
  unfold Array.isEmpty
  cases vs with
  | nil => simp at e; simp [e]
  | cons v vs => simp at e; simp [e]
theorem len_ne {α : Type} (x : List α) : ((x.length : Int) != 0) = !x.isEmpty := by
  cases x with
  | nil => rfl
  | cons a r => simp only [List.length_cons, List.isEmpty_cons, Bool.not_false, bne_iff_ne, ne_eq]; grind
theorem s_truth {v : V} {cv : Value} {Q : Bool → Prop} (h : wpTruth σ.mem v Q) (r : Rep G Γ frz σ s) (hv : RV s.heap cv v) :
    wpAny (model G.prog G.w) A (truthy cv) (PT G Γ frz σ s Q) NoE s := by
  cases v <;> first | exact False.elim h | skip
  · exact hv.eN (truthy_none ⟨r, .refl _, h⟩)
  · exact hv.eB (wpAny_truthy_bool ⟨r, .refl _, h⟩)
  · exact hv.eI fun _ => PyProof.Rows.truthy_int ⟨r, .refl _, h⟩
  · exact hv.eS fun _ => P.truthy_str (by rw [mkl]; exact Int.not_le.mpr (small63 h.1)) ⟨r.toks _, .refl _, by rw [mkl, len_ne]; exact h.2⟩
  · exact hv.eT fun _ _ _ g rs => have e := rs.length.symm.trans (Array.length_toList ..); truthy_tuple ⟨_, g, rfl, _, rfl⟩ (by rw [← e]; exact small63 h.1) ⟨r.toks _, .refl _, by rw [isEmpty_of e.symm]; exact h.2⟩
  · refine bc fun z9 => ?_
    obtain ⟨vs, h0, h1, h2⟩ := h
    refine z9 ?_
    refine bc fun z9 => ?_
    obtain ⟨_, _, g, rs, e⟩ := (r.hmem _ _ h0).l
    refine z9 ?_
    exact hv.eO (wpAny_truthy_list ⟨_, g, rfl, _, rfl⟩ (by rw [e]; exact small63 h1) ⟨r.toks _, .refl _, by rw [isEmpty_of e]; exact h2⟩)
theorem w_tail {prog : Program} {w : World} {A : Around} {E : Value → Shared → Prop} {s : Shared} {value slice : Expr} {o i : Value} {T id : String} {Q : Value → Shared → Prop} (hT : s.TypeIs o T)
    (hl : typeLookup (.type T) "__getitem__" = pure (some (.builtin id))) (h : wpAny (model prog w) A (getItem o i) Q E s) :
    wpAny (model prog w) A (subscriptTail value slice o i) Q E s := by
  unfold subscriptTail
  refine wpAny_bind ?_
  rw [ getitemInPython_of_ne hT.not_modules ]
  refine wpAny_bind (wpAny_specialOf hT hl ?_)
  have fin : ∃ ops, subscripted slice false o i = operate ops (getItem o i) := by
    cases slice <;> first | exact ⟨_, rfl⟩ | skip
    rename_i st _
    cases st <;> exact ⟨_, rfl⟩
  obtain ⟨ops, e⟩ := fin
  refine wpAny_pure ?_
  rw [ e ]
  exact wpAny_bind (wpAny_operating (wpAny_mono h (fun r s₃ h₃ => wpAny_bind (wpAny_letTemporaryGo (wpAny_pure h₃))) fun _ _ x => x))
theorem tiny_fit {k : Int} (h : tiny k) : Builtin.List.listFitsIndex k = true := by
  unfold tiny at h
  unfold Builtin.List.listFitsIndex
  simp only [Bool.and_eq_true, decide_eq_true_eq]
  lia
theorem seqIndex_lt {k : Int} {n j : Nat} (h : seqIndex? k n = some j) : j < n ∧ (0 ≤ k → j = k.toNat) := by
  unfold seqIndex? at h
  dsimp only at h
  by_cases h0 : k < 0
  · rw [if_pos h0] at h
    split at h
    · rename_i c
      have := Option.some.inj h
      simp only [Bool.and_eq_true, decide_eq_true_eq] at c
      lia
    · exact (Option.some_ne_none _ h.symm).elim
  · rw [if_neg h0] at h
    split at h
    · rename_i c
      have := Option.some.inj h
      simp only [Bool.and_eq_true, decide_eq_true_eq] at c
      (clear h0; omega)
    · exact (Option.some_ne_none _ h.symm).elim
theorem getItem_list_any {prog : Program} {w : World} {A : Around} {E : Value → Shared → Prop} {s : Shared} {l : Addr} {items : Array Value} {k : Int} {t : Tok} {j : Nat} {x : Value} {Q : Value → Shared → Prop} (hl : s.heap.IsList l items)
    (hk : tiny k) (hj : seqIndex? k items.size = some j) (hx : items[j]? = some x) (h : Q x s) : wpAny (model prog w) A (getItem (.ref l) (.int k t)) Q E s := by
  by_cases h0 : 0 ≤ k
  · have := (seqIndex_lt hj).2 h0
    subst this
    exact wpAny_getItem_list hl h0 (by unfold tiny at hk; lia) hx h
  · obtain ⟨o, ho, hc, ne, hd⟩ := id hl
    unfold getItem
    try with_reducible refine wpAny_holding ?_
    first | refine wpAny_bind (wpAny_pure ?_) | skip
    refine wpAny_bind (wpAny_sequenceKey hl.typeIs (by decide) ?_)
    refine wpAny_bind (wpAny_callSpecial?_slot (name := Str.ofString "__getitem__") hl.typeIs slot_list_getitem
      (wpAny_call_entry slot_list_getitem hl.typeIs entry_list_getitem ?_ (args_list_getitem _ _)))
    show wpAny _ _ (Builtin.List.listSubscript? (.int k t) >>= _) _ _ s
    refine wpAny_bind (wpAny_listSubscript_int (tiny_fit hk) ?_)
    obtain ⟨m, rfl⟩ : ∃ m : Nat, k = Int.negSucc m := ⟨(-k - 1).toNat, by grind⟩
    show wpAny _ _ ((Builtin.List.listItems (.ref l) >>= fun xs => pure ((seqIndex? (Int.negSucc m) xs.size).bind fun j => xs[j]?.map (j, ·))) >>= _) _ _ s
    refine wpAny_bind (wpAny_bind (wpAny_listItems ho hd (wpAny_pure ?_)))
    rw [ hj ]
    simp only [Option.bind_some, hx, Option.map_some]
    first
      | exact wpAny_bind (wpAny_pure (wpAny_pure ⟨x, rfl, wpAny_pure h⟩))
      | exact wpAny_pure ⟨x, rfl, wpAny_pure h⟩
theorem map_get {α β : Type} (f : α → β) {xs : List α} {arr : Array β} (h : arr.toList = xs.map f) {j : Nat} {x : α} (e : xs[j]? = some x) : arr[j]? = some (f x) := by
  rw [← Array.getElem?_toList, h, List.getElem?_map, e]; rfl
theorem pyGet_inv {α : Type} {xs : List α} {k : Int} {c : α} (e : pyGet xs k = some c) : ∃ j, seqIndex? k xs.length = some j ∧ xs[j]? = some c := Option.bind_eq_some_iff.mp e
theorem rv_at {h : Heap} {arr : Array Value} {vs : List V} (rs : RVs h arr.toList vs) {k : Int} {x : V} (e : pyGet vs k = some x) : ∃ j cx, seqIndex? k arr.size = some j ∧ arr[j]? = some cx ∧ RV h cx x := by
  obtain ⟨j, e1, e2⟩ := pyGet_inv e
  obtain ⟨cx, e3, e4⟩ := rs.get e2
  have l := rs.length
  rw [Array.length_toList] at l
  exact ⟨j, cx, by rw [ l ]; exact e1, by rw [ ← Array.getElem?_toList ]; exact e3, e4⟩
theorem s_idx {v u : V} {cv cu : Value} {value slice : Expr} {Q : V → Prop} (h : wpIdx σ.mem v u Q) (r : Rep G Γ frz σ s) (hv : RV s.heap cv v) (hu : RV s.heap cu u) :
    wpAny (model G.prog G.w) A (subscriptTail value slice cv cu) (PO G Γ frz σ s fun r m => m = σ.mem ∧ Q r) NoE s := by
  obtain ⟨k, rfl, h⟩ := asI_inv h
  cases v <;> first | exact False.elim h | skip
  · obtain ⟨ht, c, e, q⟩ := h
    obtain ⟨j, e1, e2⟩ := pyGet_inv e
    refine hv.eS fun _ => hu.eI fun _ => w_tail (typeIs_str s _ _) F.slot_str_getitem.lookup (P.getItem_str (c := c.toNat) ?_ ?_ ⟨.str [c], σ.mem, .str [c] _, r.toks _, .refl _, rfl, q⟩)
    · have := ht.1; have := ht.2
      rw [Bool.or_eq_false_iff, decide_eq_false_iff_not, decide_eq_false_iff_not]; lia
    · rw [mkl, e1]; exact map_get Char.toNat (List.toList_toArray) e2
  · obtain ⟨ht, x, e, q⟩ := h
    refine hv.eT fun _ _ _ g rs => hu.eI fun _ => ?_
    obtain ⟨j, cx, e1, e3, e4⟩ := rv_at rs e
    exact w_tail ⟨_, g, rfl⟩ F.slot_tuple_getitem.lookup (PyProof.Rows.getItem_tuple (j := j) (x := cx) ⟨_, g, rfl, _, rfl⟩ (by have := ht.1; lia) (by have := ht.2; lia) e1 e3 ⟨x, σ.mem, e4, r, .refl _, rfl, q⟩)
  · obtain ⟨ht, vs, x, e0, e, q⟩ := h
    obtain ⟨_, _, g, rs, _⟩ := (r.hmem _ _ e0).l
    obtain ⟨j, cx, e1, e3, e4⟩ := rv_at rs e
    exact hv.eO (hu.eI fun _ => w_tail ⟨_, g, rfl⟩ list_getitem_lookup (getItem_list_any (j := j) (x := cx) ⟨_, g, rfl, _, rfl⟩ ht e1 e3 ⟨x, σ.mem, e4, r, .refl _, rfl, q⟩))
theorem slInd_plain {α : Type} (xs : Array α) (lo hi : Option Int) : (Builtin.Str.strSliceIndices lo hi 1 xs.size).filterMap (xs[·]?) = pySl xs.toList lo hi := by
  have e : Builtin.Str.strSliceIndices lo hi 1 xs.size = sliceRange (sliceBounds lo hi none xs.size).1 (sliceBounds lo hi none xs.size).2.1 (sliceBounds lo hi none xs.size).2.2 := by
    cases lo <;> cases hi <;> rfl
  rw [e, sliceBounds_plain]
  simp only [sliceRange_one, pick_run]
  unfold pySl slLo slHi
  simp only [Array.length_toList]
  rfl
theorem pySl_map {α β : Type} (f : α → β) (xs : List α) (lo hi : Option Int) : pySl (xs.map f) lo hi = (pySl xs lo hi).map f := by
  unfold pySl; simp
theorem pySl_len {α : Type} (xs : List α) (lo hi : Option Int) : (pySl xs lo hi).length ≤ xs.length := by
  unfold pySl; simp; grind
theorem pySl_full {α : Type} (xs : List α) (lo hi : Option Int) (h : (pySl xs lo hi).length = xs.length) : pySl xs lo hi = xs := by
  unfold pySl at h ⊢
  rw [List.length_take, List.length_drop] at h
  generalize slLo xs.length lo = x at *
  generalize slHi xs.length hi = y at *
  have a := Nat.min_le_left (y - x) (xs.length - x)
  have b := Nat.min_le_right (y - x) (xs.length - x)
  rw [h] at a b
  by_cases h0 : xs = []
  · subst h0; rw [List.drop_nil, List.take_nil]
  · have p := List.length_pos_iff.mpr h0
    have hx : x = 0 := by clear a h; lia
    subst hx
    rw [List.drop_zero, List.take_of_length_le a]
theorem clip_le (n : Nat) (i : Int) : clip n i ≤ n := by
  have := clipAt_cast n i
  unfold clip; omega
theorem slHi_le (n : Nat) (hi : Option Int) : slHi n hi ≤ n := by
  cases hi with
  | none => exact Nat.le_refl _
  | some i => exact clip_le n i
theorem slInd_len {α : Type} (lo hi : Option Int) (xs : List α) : (Builtin.Str.strSliceIndices lo hi 1 xs.length).length = (pySl xs lo hi).length := by
  have e : Builtin.Str.strSliceIndices lo hi 1 xs.length = sliceRange (sliceBounds lo hi none xs.length).1 (sliceBounds lo hi none xs.length).2.1 (sliceBounds lo hi none xs.length).2.2 := by
    cases lo <;> cases hi <;> rfl
  rw [e, sliceBounds_plain]
  simp only [sliceRange_one, List.length_map, List.length_range]
  unfold pySl
  rw [List.length_take, List.length_drop]
  have h1 := slHi_le xs.length hi
  show slHi xs.length hi - slLo xs.length lo = _
  grind
theorem slPart_is {h : Heap} {v : V} {cv : Value} {a : Option Int} (e : slPart v = some a) (r : RV h cv v) : ∃ p : Option (Int × Tok), cv = partValue p ∧ p.map (·.1) = a ∧ IsPart cv a := by
  cases v <;> cases e
  · exact r.eN ⟨none, rfl, rfl, .none⟩
  · exact r.eI fun _ => ⟨some (_, _), rfl, rfl, .int _ _⟩
theorem slK_inv {v : V} {K : Option Int → Prop} (h : slK v K) : ∃ a, slPart v = some a ∧ K a := by
  cases v <;> first | exact False.elim h | exact ⟨_, rfl, h⟩
theorem stK_inv {v : V} {K : Option Int → Prop} (h : stK v K) : ∃ a, slPart v = some a ∧ K a ∧ a ≠ some 0 := by
  cases v <;> first | exact False.elim h | skip
  · exact ⟨_, rfl, h, fun e => nomatch e⟩
  · exact ⟨_, rfl, h.2, fun e => absurd h.1 (by cases e; decide)⟩
noncomputable abbrev sliceO (l u st : Value) : Obj := { cls := .type "slice", data := .fields #[l, u, st] }
theorem RVs.pick {h : Heap} {vs : List Value} {xs : List V} (r : RVs h vs xs) : ∀ is : List Nat, RVs h (is.filterMap (vs[·]?)) (is.filterMap (xs[·]?))
  | [] => .nil
  | i :: is => by
    have ih := r.pick is
    simp only [ List.filterMap_cons, List.filterMap_cons ]
    cases e : xs[i]? with
    | none =>
      have : vs[i]? = none := List.getElem?_eq_none (by rw [ r.length ]; exact List.getElem?_eq_none_iff.mp e)
      rw [ this ]; exact ih
    | some x =>
      obtain ⟨v, e1, e2⟩ := r.get e
      rw [ e1 ]; exact .cons e2 ih
theorem pick_st {h : Heap} {arr : Array Value} {vs : List V} (rs : RVs h arr.toList vs) (e : arr.size = vs.length) (a b k : Option Int) : RVs h (slicePick arr a b k).toList (pySt vs a b k) := by
  cases k with
  | none =>
    rw [ slicePick_plain, e ]
    exact (rs.drop _).take _
  | some k =>
    unfold slicePick pySt
    rw [ e, show (fun i => arr[i]?) = (fun i => arr.toList[i]?) from funext fun i => Array.getElem?_toList.symm ]
    exact rs.pick _
theorem sl_str {x : Tx} {t : Tok} {p q : Option (Int × Tok)} {value slice : Expr} (h1 : sma x.length) (h2 : Q (.str (pySl x (p.map (·.1)) (q.map (·.1)))) σ.mem) (r : Rep G Γ frz σ s) :
    wpAny (model G.prog G.w) A (subscriptTail value slice (.str (mkS x) t) (.ref s.heap.objs.size)) (PO G Γ frz σ s Q) NoE { s with heap := s.heap.push (sliceO (partValue p) (partValue q) .none) } := by
  have k := push_keeps s.heap (sliceO (partValue p) (partValue q) .none)
  have r1 := r.grow (tk := s.toks) k
  refine w_tail (typeIs_str _ _ _) F.slot_str_getitem.lookup (getItem_meets (typeIs_str _ _ _) (by decide) F.slot_str_getitem F.entry_str_getitem (F.args_str_getitem_2 _ _)
    (meets_str_getitem_slice _ _ s.heap.objs.size p q none rfl) ⟨⟨_, Heap.get?_push_size _ rfl, rfl, rfl⟩, ?_⟩)
  unfold sliceMade slicePicked
  rw [mkl]
  simp only [Option.map_none, Option.getD_none, beq_self_eq_true, Bool.true_and]
  generalize p.map (·.1) = a at *
  generalize q.map (·.1) = b at *
  have hlen := slInd_len a b x
  split
  · rename_i hc
    rw [pySl_full x a b (by rw [← hlen]; exact beq_iff_eq.mp hc)] at h2
    exact ⟨.str x, σ.mem, .str _ _, r1, .of k, h2⟩
  · have e : (Builtin.Str.strSliceIndices a b 1 x.length).filterMap ((mkS x).cps[·]?) = (pySl x a b).map Char.toNat := by
      have q := slInd_plain (mkS x).cps a b
      rw [show (mkS x).cps.size = x.length by simp] at q
      rw [q, ← pySl_map]
    rw [ e ]
    refine ⟨?_, .str (pySl x a b), σ.mem, .str _ _, r1.toks _, .of k, h2⟩
    show (mkS (pySl x a b)).length ≤ _
    rw [mkl]
    exact Nat.le_trans (pySl_len x a b) (small_line h1)
theorem sl_list {l : Addr} {cl cu cs : Value} {a b k : Option Int} {value slice : Expr} (pl : IsPart cl a) (pu : IsPart cu b) (ps : IsPart cs k) (k0 : k ≠ some 0)
    (h : ∃ vs, (σ.mem l = some (.list vs) ∨ ∃ o, σ.mem l = some (.ro o vs)) ∧ sma vs.length ∧ ∀ c, σ.mem c = none → Q (.obj c) (upd σ.mem c (.list (pySt vs a b k)))) (r : Rep G Γ frz σ s) :
    wpAny (model G.prog G.w) A (subscriptTail value slice (.ref l) (.ref s.heap.objs.size)) (PO G Γ frz σ s Q) NoE { s with heap := s.heap.push (sliceO cl cu cs) } := by
  have kk := push_keeps s.heap (sliceO cl cu cs)
  refine bc fun z9 => ?_
  obtain ⟨vs, e0, h1, h2⟩ := h
  refine z9 ?_
  obtain ⟨arr, g, rs⟩ : ∃ arr, s.heap.IsList l arr ∧ RVs s.heap arr.toList vs := by
    rcases e0 with e0 | ⟨_, e0⟩
    · refine bc fun z9 => ?_
      obtain ⟨_, _, g, rs, _⟩ := (r.hmem _ _ e0).l
      refine z9 ?_
      exact ⟨_, ⟨_, g, rfl, _, rfl⟩, rs⟩
    · cases r.hmem _ _ e0 with
      | ro g c d rs => exact ⟨_, ⟨_, g, c, _, d⟩, rs⟩
  have hz := rs.length
  simp only [ Array.length_toList ] at hz
  refine bc fun z9 => ?_
  obtain ⟨v, m, p1, p2, p3, p4⟩ := PO.newList (Q := Q) (r.grow (tk := s.toks) kk) (tk := s.toks) (RVs.tk (.of kk) (pick_st rs hz a b k)) h2
  refine z9 ?_
  exact w_tail (Heap.IsList.typeIs (g.push _)) list_getitem_lookup (wpAny_getItem_list_slice (g.push _) (Heap.IsSliceOf.new ..) pl pu ps k0 ⟨v, m, p1, p2, (TK.of kk).trans p3, p4⟩ (by rw [hz]; exact small_line h1))
theorem s_slc {v l u st : V} {cv cl cu cs : Value} {value slice : Expr} (h : wpSlc σ.mem v l u st Q) (r : Rep G Γ frz σ s) (hv : RV s.heap cv v) (hl : RV s.heap cl l) (hu : RV s.heap cu u) (hs : RV s.heap cs st) :
    wpAny (model G.prog G.w) A (subscriptTail value slice cv (.ref s.heap.objs.size)) (PO G Γ frz σ s Q) NoE { s with heap := s.heap.push (sliceO cl cu cs) } := by
  cases v <;> first | (exact False.elim h) | skip
  · cases st <;> first | (exact False.elim h) | skip
    rename_i x
    obtain ⟨a, ea, h⟩ := slK_inv (show slK l fun a => slK u fun b => sma x.length ∧ Q (.str (pySl x a b)) σ.mem from h)
    obtain ⟨b, eb, h1, h2⟩ := slK_inv h
    obtain ⟨pa, rfl, rfl, _⟩ := slPart_is ea hl
    obtain ⟨pb, rfl, rfl, _⟩ := slPart_is eb hu
    exact hs.eN (hv.eS fun _ => sl_str h1 h2 r)
  · rename_i x
    obtain ⟨a, ea, h⟩ := slK_inv (show slK l fun a => slK u fun b => stK st fun k => ∃ vs, (σ.mem x = some (.list vs) ∨ ∃ o, σ.mem x = some (.ro o vs)) ∧ sma vs.length ∧ ∀ c, σ.mem c = none → Q (.obj c) (upd σ.mem c (.list (pySt vs a b k))) from h)
    obtain ⟨b, eb, h⟩ := slK_inv h
    obtain ⟨k, ek, h, k0⟩ := stK_inv h
    obtain ⟨_, _, _, qa⟩ := slPart_is ea hl
    obtain ⟨_, _, _, qb⟩ := slPart_is eb hu
    obtain ⟨_, _, _, qk⟩ := slPart_is ek hs
    exact hv.eO (sl_list qa qb qk k0 h r)
end
section
variable {G : GS} {A : Around} {Γ : FE} {frz : Frz} {σ : St} {s : Shared} {Q : V → Mem → Prop}
structure Rm (A : Around) : Prop where
  hd : A.handled = none
  un : A.units + 64 < cLine
theorem ints_of {h : Heap} : ∀ (ns : List Int) {cs : List Value}, RVs h cs (ns.map V.int) → IntsAre cs ns
  | [], _, r => r.e0 .nil
  | _ :: ns, _, r => r.eC (N := fun cs => IntsAre cs _) fun _ _ a b => a.eI (M := fun c => IntsAre (c :: _) _) fun _ => .cons _ _ (ints_of ns b)
theorem PO.newRng (r : Rep G Γ frz σ s) {x y z : Int} {t u w : Tok} {tk : Nat} (q : Q (.rng x y z) σ.mem) :
    PO G Γ frz σ s Q (.ref s.heap.objs.size) { s with heap := s.heap.push { cls := .type "range", data := .fields #[.int x t, .int y u, .int z w] }, toks := tk } := by
  have k := push_keeps s.heap { cls := .type "range", data := .fields #[.int x t, .int y u, .int z w] }
  exact ⟨_, _, .rng (Heap.get?_push_size _ rfl), r.grow k, .of k, q⟩
theorem Rep.anyList (r : Rep G Γ frz σ s) {l : Addr} {vs : List V} (h0 : σ.mem l = some (.list vs) ∨ ∃ o, σ.mem l = some (.ro o vs)) : ∃ arr, s.heap.IsList l arr ∧ RVs s.heap arr.toList vs := by
  rcases h0 with e0 | ⟨_, e0⟩
  · cases r.hmem _ _ e0 with
    | list g rs => exact ⟨_, ⟨_, g, rfl, _, rfl⟩, rs⟩
  · cases r.hmem _ _ e0 with
    | ro g c d rs => exact ⟨_, ⟨_, g, c, _, d⟩, rs⟩
noncomputable def Bi.val : Bi → Value
  | .range => .type "range"
  | .list => .type "list"
  | b => .builtin b.name
theorem bi_lenW {v : V} {cv : Value} (h : lenV σ.mem v Q) (r : Rep G Γ frz σ s) (hv : RV s.heap cv v) : wpAny (model G.prog G.w) A (call (.builtin "len") [cv]) (PO G Γ frz σ s Q) NoE s := by
  cases v <;> first | exact False.elim h | skip
  · exact hv.eS fun _ => P.len_str (by rw [mkl]; exact Int.not_le.mpr (small63 h.1)) (by rw [mkl]; exact PO.pure r (.int _ _) h.2)
  · exact hv.eT fun _ _ _ g rs => have e := rs.length.symm.trans (Array.length_toList ..); PyProof.Rows.len_tuple ⟨_, g, rfl, _, rfl⟩ (by rw [ ← e ]; exact small63 h.1) (by rw [ ← e ]; exact PO.pure r (.int _ _) h.2)
  · obtain ⟨vs, h0, h1, h2⟩ := h
    obtain ⟨arr, g, rs⟩ := r.anyList h0
    have e := rs.length.symm.trans (Array.length_toList ..)
    exact hv.eO (Calls.call_len_list g (by rw [ ← e ]; exact small63 h1) (by rw [ ← e ]; exact PO.pure r (.int _ _) h2))
theorem bi_minW {a b : Int} {t u : Tok} (hA : Rm A) (h : Q (.int (if b < a then b else a)) σ.mem) (r : Rep G Γ frz σ s) : wpAny (model G.prog G.w) A (call (.builtin "min") [.int a t, .int b u]) (PO G Γ frz σ s Q) NoE s := by
  refine min_two_ints hA.hd fun h' tk k => ?_
  split
  · rename_i c; rw [if_pos c] at h; exact ⟨_, _, .int _ _, r.grow k, .of k, h⟩
  · rename_i c; rw [if_neg c] at h; exact ⟨_, _, .int _ _, r.grow k, .of k, h⟩
theorem bi_maxW {a b : Int} {t u : Tok} (hA : Rm A) (h : Q (.int (if a < b then b else a)) σ.mem) (r : Rep G Γ frz σ s) : wpAny (model G.prog G.w) A (call (.builtin "max") [.int a t, .int b u]) (PO G Γ frz σ s Q) NoE s := by
  refine max_two_ints hA.hd fun h' tk k => ?_
  split
  · rename_i c; rw [if_pos c] at h; exact ⟨_, _, .int _ _, r.grow k, .of k, h⟩
  · rename_i c; rw [if_neg c] at h; exact ⟨_, _, .int _ _, r.grow k, .of k, h⟩
theorem Rep.intList (r : Rep G Γ frz σ s) {l : Addr} {ns : List Int} (h0 : σ.mem l = some (.list (ns.map V.int)) ∨ ∃ o, σ.mem l = some (.ro o (ns.map V.int))) : ∃ xs, s.heap.IsList l (intItems xs) ∧ ns = xs.toList.map (·.1) := by
  obtain ⟨arr, g, rs⟩ := r.anyList h0
  have hi := ints_of _ rs
  obtain ⟨xs, e⟩ := hi.allInts.items
  rw [Array.toArray_toList] at e
  exact ⟨xs, by rw [ ← e ]; exact g, by rw [ ← hi.numsOf, ← nums_intItems, ← e ]⟩
theorem bi_maxL {v : V} {cv : Value} (hA : Rm A) (h : maxV σ.mem v Q) (r : Rep G Γ frz σ s) (hv : RV s.heap cv v) : wpAny (model G.prog G.w) A (call (.builtin "max") [cv]) (PO G Γ frz σ s Q) NoE s := by
  obtain ⟨l, rfl, ns, h0, h1, h2⟩ := asO_inv h
  obtain ⟨xs, hl, hns⟩ := r.intList (.inl h0)
  have hsz : ns.length = xs.size := by rw [hns, List.length_map, Array.length_toList]
  refine hv.eO (max_intList hA.hd hl (hsz ▸ h1) fun v h' tk hv hk => ?_)
  obtain ⟨t, rfl⟩ := intItems_at hv
  obtain ⟨g1, g2⟩ := argBest_gt (numAt xs) (xs.size - 1)
  refine ⟨_, _, .int _ _, r.grow hk, .of hk, h2 _ ?_ fun a ha => ?_⟩
  · rw [hns, numAt_eq]; exact getD_mem (by rw [List.length_map, Array.length_toList]; omega)
  · rw [hns] at ha
    obtain ⟨j, hj, rfl⟩ := mem_getD ha
    rw [List.length_map, Array.length_toList] at hj
    rw [← numAt_eq]; exact g2 j (by grind)
theorem bi_sumW {v : V} {cv : Value} (hA : Rm A) (h : sumV σ.mem v Q) (r : Rep G Γ frz σ s) (hv : RV s.heap cv v) : wpAny (model G.prog G.w) A (call (.builtin "sum") [cv]) (PO G Γ frz σ s Q) NoE s := by
  obtain ⟨l, rfl, ns, h0, h2⟩ := asO_inv h
  obtain ⟨xs, hl, hns⟩ := r.intList h0
  refine hv.eO (sum_intListG hA.hd hl fun h' tk t' hk => ⟨_, _, .int _ _, r.grow hk, .of hk, ?_⟩)
  rw [preSum_eq, List.take_of_length_le (by rw [List.length_map, Array.length_toList]; exact Nat.le_refl _), ← hns]
  exact h2
theorem bi_rng3 {v u w : V} {cv cu cw : Value} (h : ordI v u fun a b => asI w fun c => tiny a ∧ tiny b ∧ tiny c ∧ 0 < c ∧ Q (.rng a b c) σ.mem) (r : Rep G Γ frz σ s) (hv : RV s.heap cv v) (hu : RV s.heap cu u) (hw : RV s.heap cw w) :
    wpAny (model G.prog G.w) A (call (.type "range") [cv, cu, cw]) (PO G Γ frz σ s Q) NoE s :=
  ord_e (M := fun cv cu => wpAny (model G.prog G.w) A (call (.type "range") [cv, cu, cw]) (PO G Γ frz σ s Q) NoE s) h hv hu fun _ _ _ _ h => by
    refine bc fun z9 => ?_
    obtain ⟨z, rfl, _, _, h3, h4, h5⟩ := asI_inv h
    refine z9 ?_
    exact hw.eI fun _ => call_range_3 (Int.ne_of_gt h4) (PO.newRng r h5) (.inl (PyProof.noPylong_small (by unfold tiny at h3; omega)))
theorem rv_range {h : Heap} : ∀ (l : List Value) (k : Nat), (∀ (i : Nat) v, l[i]? = some v → ∃ t, v = .int ((k + i : Nat) : Int) t) → RVs h l ((List.range' k l.length).map fun j : Nat => V.int j)
  | [], _, _ => .nil
  | v :: l, k, H => by
    obtain ⟨t, rfl⟩ := H 0 v rfl
    refine .cons (.int _ _) (rv_range l (k + 1) fun i v e => ?_)
    have := H (i + 1) v e
    rwa [← Nat.add_assoc, Nat.add_right_comm] at this
theorem bi_minW3 {v u w : V} {cv cu cw : Value} (hA : Rm A) (h : ordI v u fun a b => asI w fun c => Q (.int (min (min a b) c)) σ.mem) (r : Rep G Γ frz σ s) (hv : RV s.heap cv v) (hu : RV s.heap cu u) (hw : RV s.heap cw w) :
    wpAny (model G.prog G.w) A (call (.builtin "min") [cv, cu, cw]) (PO G Γ frz σ s Q) NoE s :=
  ord_e (M := fun cv cu => wpAny (model G.prog G.w) A (call (.builtin "min") [cv, cu, cw]) (PO G Γ frz σ s Q) NoE s) h hv hu fun a b _ _ h => by
    obtain ⟨c, rfl, h9⟩ := asI_inv h
    refine hw.eI fun _ => min_three_ints hA.hd fun h' tk k => ?_
    have q : ∀ (n : Int) (t : Tok), n = min (min a b) c → PO G Γ frz σ s Q (.int n t) { s with heap := h', toks := tk } := fun n t e => by rw [← e] at h9; exact ⟨_, _, .int _ _, r.grow k, .of k, h9⟩
    split <;> split <;> exact q _ _ (by lia)
theorem bi_chrW {v : V} {cv : Value} (h : asI v fun i => ∃ c : Char, i = c.toNat ∧ Q (.str [c]) σ.mem) (r : Rep G Γ frz σ s) (hv : RV s.heap cv v) : wpAny (model G.prog G.w) A (call (.builtin "chr") [cv]) (PO G Γ frz σ s Q) NoE s := by
  obtain ⟨_, rfl, c, rfl, h9⟩ := asI_inv h
  refine hv.eI (M := fun cv => wpAny (model G.prog G.w) A (call (.builtin "chr") [cv]) (PO G Γ frz σ s Q) NoE s) fun _ => ?_
  refine P.chr_of_int ?_ (PO.pure r (.str [c] _) h9)
  have l : c.toNat < 1114112 := by
    rcases c.valid with q | q
    · exact Nat.lt_trans q (by decide)
    · exact q.2
  rw [decide_eq_false (by lia), decide_eq_false (by lia)]; rfl
theorem bi_ordW {v : V} {cv : Value} (h : asS v fun s => ∃ c, s = [c] ∧ Q (.int c.toNat) σ.mem) (r : Rep G Γ frz σ s) (hv : RV s.heap cv v) : wpAny (model G.prog G.w) A (call (.builtin "ord") [cv]) (PO G Γ frz σ s Q) NoE s := by
  obtain ⟨_, rfl, c, rfl, h9⟩ := asS_inv h
  exact hv.eS (M := fun cv => wpAny (model G.prog G.w) A (call (.builtin "ord") [cv]) (PO G Γ frz σ s Q) NoE s) fun _ => P.ord_of_char (PO.pure r (.int _ _) h9)
theorem bi_lstW (hA : Rm A) {v : V} {cv : Value} (h : listV σ.mem v Q) (r : Rep G Γ frz σ s) (hv : RV s.heap cv v) : wpAny (model G.prog G.w) A (call (.type "list") [cv]) (PO G Γ frz σ s Q) NoE s := by
  cases v <;> first | exact False.elim h | skip
  · exact hv.eT fun _ _ _ g rs => call_list_seq _ (.inr rfl) g rfl rfl (fun h' c k g' => ⟨.obj _, _, .obj _, r.fresh (Nat.le_refl _) k (.list g' (rs.tk (.of k))), .of k, h.2 _ (r.none_of_ge (Nat.le_refl _)).1⟩)
      (by rw [← Array.length_toList, rs.length]; exact small_line h.1)
  · obtain ⟨n, rfl, rfl, rfl, h1, h2⟩ := h
    cases hv with
    | rng g =>
      have hn : (n : Int) ≤ 1000000 := Int.ofNat_le.mpr h1
      have hz : Builtin.Range.rangeSize 0 (n : Int) 1 = n := by unfold Builtin.Range.rangeSize; rw [if_pos (by decide), Int.ediv_one]; split <;> lia
      refine call_list_range hA.hd g ?_ hz (Nat.le_trans h1 (by decide)) fun h' tk acc c k g' ho => ?_
      · unfold Builtin.Range.small Builtin.Range.rangeFitsLong
        rw [hz]
        simp only [Bool.and_eq_true, Bool.or_eq_true, decide_eq_true_eq, beq_iff_eq]
        refine ⟨⟨⟨⟨⟨?_, ?_⟩, ⟨?_, ?_⟩⟩, ⟨?_, ?_⟩⟩, ⟨?_, ?_⟩⟩, .inr ?_⟩ <;> first | decide | lia | skip
        rw [if_pos (by decide)]
        simp only [Bool.and_eq_true, decide_eq_true_eq]; lia
      · have e := rv_range (h := h') acc.toList 0 fun i v e => by
          obtain ⟨t, rfl⟩ := ho.2 i v (by rw [← Array.getElem?_toList]; exact e)
          exact ⟨t, by rw [Int.mul_one, Int.zero_add, Nat.zero_add]⟩
        rw [Array.length_toList, ho.1] at e
        exact ⟨.obj _, _, .obj _, r.fresh (Nat.le_refl _) k (.list g' e), .of k, h2 _ (r.none_of_ge (Nat.le_refl _)).1⟩
  · obtain ⟨vs, h0, h1, h2⟩ := h
    obtain ⟨_, _, g, rs, e⟩ := (r.hmem _ _ h0).l
    exact hv.eO (call_list_seq _ (.inl rfl) g rfl rfl (fun h' c k g' => ⟨.obj _, _, .obj _, r.fresh (Nat.le_refl _) k (.list g' (rs.tk (.of k))), .of k, h2 _ (r.none_of_ge (Nat.le_refl _)).1⟩)
      (by rw [e]; exact small_line h1))
theorem s_bi {b : Bi} {vs : List V} {cvs : List Value} (hA : Rm A) (_ok : Γ.ok) (h : wpBi σ.mem b vs Q) (r : Rep G Γ frz σ s) (hv : RVs s.heap cvs vs) :
    wpAny (model G.prog G.w) A (call b.val cvs) (PO G Γ frz σ s Q) NoE s := by
  cases b <;> first | exact False.elim h | skip
  · obtain ⟨v, rfl, h⟩ := arg1_inv h
    exact hv.e1 fun _ a => bi_lenW h r a
  · obtain ⟨v, u, rfl, h⟩ | ⟨v, u, w, rfl, h⟩ := arg23_inv h
    · exact hv.e2 fun _ _ a c => ord_e (M := fun cv cu => wpAny (model G.prog G.w) A (call (.builtin "min") [cv, cu]) (PO G Γ frz σ s Q) NoE s) h a c fun _ _ _ _ h => bi_minW hA h r
    · exact hv.e3 fun _ _ _ a c e => bi_minW3 hA h r a c e
  · obtain ⟨v, rfl, h⟩ | ⟨v, u, rfl, h⟩ := arg12_inv h
    · exact hv.e1 fun _ a => bi_maxL hA h r a
    · exact hv.e2 fun _ _ a c => ord_e (M := fun cv cu => wpAny (model G.prog G.w) A (call (.builtin "max") [cv, cu]) (PO G Γ frz σ s Q) NoE s) h a c fun _ _ _ _ h => bi_maxW hA h r
  · obtain ⟨v, rfl, h⟩ := arg1_inv h
    exact hv.e1 fun _ a => bi_sumW hA h r a
  · obtain ⟨v, rfl, h⟩ | ⟨v, u, rfl, h⟩ | ⟨v, u, w, rfl, h⟩ := arg13_inv h
    · obtain ⟨x, rfl, h⟩ := asI_inv h
      exact hv.e1 fun _ a => a.eI (M := fun c => wpAny (model G.prog G.w) A (call (.type "range") [c]) (PO G Γ frz σ s Q) NoE s) fun _ => call_range_1 (PO.newRng r h.2)
    · exact hv.e2 fun _ _ a c => ord_e (M := fun cv cu => wpAny (model G.prog G.w) A (call (.type "range") [cv, cu]) (PO G Γ frz σ s Q) NoE s) h a c fun _ _ _ _ h => call_range_2 (PO.newRng r h.2.2)
    · exact hv.e3 fun _ _ _ a c e => bi_rng3 h r a c e
  · obtain ⟨v, rfl, h⟩ := arg1_inv h
    exact hv.e1 fun _ a => bi_lstW hA h r a
  · obtain ⟨v, rfl, h⟩ := arg1_inv h
    exact hv.e1 fun _ a => bi_chrW h r a
  · obtain ⟨v, rfl, h⟩ := arg1_inv h
    exact hv.e1 fun _ a => bi_ordW h r a
theorem at_iff (x y : Tx) (i : Nat) : StrLaws.At (mkS x) (mkS y) (mkS x).length i ↔ Occ x y i := by
  unfold StrLaws.At Occ
  rw [StrLaws.subAt_eq, mkl, mkl]
  simp only [beq_iff_eq, ← List.map_drop, ← List.map_take]
  constructor
  · rintro ⟨a, b⟩; exact ⟨a, (List.map_inj_right fun x y e => toNat_inj e).mp b⟩
  · rintro ⟨a, b⟩; exact ⟨a, by rw [b]⟩
theorem find_is (x y : Tx) (k : Nat) : FindIs x y k (match Builtin.Str.occurrences (mkS x) (mkS y) k (mkS x).length 1 with | i :: _ => (i : Int) | [] => -1) := by
  rcases StrLaws.occ_head_from (mkS x) (mkS y) k 1 (Nat.le_refl _) with ⟨e, h⟩ | ⟨i, r, e, h1, h2, h3⟩
  · rw [ e ]; exact .inl ⟨rfl, fun i hi q => h i hi ((at_iff x y i).mpr q)⟩
  · rw [ e ]; exact .inr ⟨i, rfl, h1, (at_iff x y i).mp h2, fun j a b q => h3 j a b ((at_iff x y j).mpr q)⟩
theorem starts_eq (x y : Tx) : (decide (0 + (mkS y).length ≤ (mkS x).length) && Builtin.Str.subAt (mkS x) (mkS y) 0) = decide (x.take y.length = y) := by
  rw [Bool.eq_iff_iff, Bool.and_eq_true, decide_eq_true_eq, decide_eq_true_eq, StrLaws.subAt_eq, mkl, mkl]
  simp only [beq_iff_eq, ← List.map_take, List.drop_zero]
  constructor
  · rintro ⟨_, b⟩; exact (List.map_inj_right fun x y e => toNat_inj e).mp b
  · intro b; exact ⟨by have := congrArg List.length b; rw [List.length_take] at this; lia, by rw [b]⟩
theorem ends_eq (x y : Tx) : (decide (0 + (mkS y).length ≤ (mkS x).length) && Builtin.Str.subAt (mkS x) (mkS y) ((mkS x).length - (mkS y).length)) = decide (y.length ≤ x.length ∧ x.drop (x.length - y.length) = y) := by
  rw [Bool.eq_iff_iff, Bool.and_eq_true, decide_eq_true_eq, decide_eq_true_eq, StrLaws.subAt_eq, mkl, mkl]
  simp only [beq_iff_eq, ← List.map_take, ← List.map_drop]
  constructor
  · rintro ⟨a, b⟩
    have := (List.map_inj_right fun x y e => toNat_inj e).mp b
    exact ⟨by lia, by rw [List.take_of_length_le (by rw [List.length_drop]; (clear a; omega))] at this; exact this⟩
  · rintro ⟨a, b⟩; exact ⟨by lia, by rw [b, List.take_length]⟩
theorem fromIndex_nn {n : Nat} {i : Int} (h : 0 ≤ i) : fromIndex n i = i.toNat := by unfold fromIndex; rw [if_neg (by lia)]; congr 1; lia
noncomputable def Me.id (m : Me) : String := match m with
  | .find => "str.find" | .startswith => "str.startswith" | .endswith => "str.endswith" | .join => "str.join"
  | .append => "list.append" | .pop => "list.pop" | .insert => "list.insert"
theorem noDict {h : Heap} {l : Addr} {o : Obj} (g : h.get? l = some o) (d : o.dict = none) : ∀ a, Value.ref l = .ref a → ∃ o, h.get? a = some o ∧ o.dict = none := fun a e => by cases e; exact ⟨_, g, d⟩
theorem listT {s : Shared} {l : Addr} {arr : Array Value} {n : Nat} (g : s.heap.get? l = some { cls := .type "list", data := .seq arr n }) : s.TypeIs (.ref l) "list" := ⟨_, g, rfl⟩
theorem Rep.listAt (r : Rep G Γ frz σ s) {a : Addr} (h : ∃ l, σ.mem a = some (.list l)) : s.TypeIs (.ref a) "list" ∧ ∀ b, Value.ref a = .ref b → ∃ o, s.heap.get? b = some o ∧ o.dict = none :=
  let ⟨_, e⟩ := h; let ⟨_, _, g, _, _⟩ := (r.hmem _ _ e).l; ⟨listT g, noDict g rfl⟩
theorem s_getMe {v : V} {cv : Value} {m : Me} {pl : Sem Bool} {E : Value → Shared → Prop} {R : Value × List Value → Shared → Prop} (h : meOk σ.mem v m) (r : Rep G Γ frz σ s) (hv : RV s.heap cv v) (q : R (.builtin (m.id), [cv]) s) :
    wpAny (model G.prog G.w) A (getMethod cv (Str.ofString m.name) pl) R E s := by
  cases m
  · obtain ⟨x, rfl, _⟩ := asS_inv h; replace q : R (.builtin "str.find", [cv]) s := q; show wpAny _ A (getMethod cv (Str.ofString "find") pl) R E s
    revert q; exact hv.eS fun _ q => by with_reducible exact GM.find q
  · obtain ⟨x, rfl, _⟩ := asS_inv h; replace q : R (.builtin "str.startswith", [cv]) s := q; show wpAny _ A (getMethod cv (Str.ofString "startswith") pl) R E s
    revert q; exact hv.eS fun _ q => by with_reducible exact GM.startswith q
  · obtain ⟨x, rfl, _⟩ := asS_inv h; replace q : R (.builtin "str.endswith", [cv]) s := q; show wpAny _ A (getMethod cv (Str.ofString "endswith") pl) R E s
    revert q; exact hv.eS fun _ q => by with_reducible exact GM.endswith q
  · obtain ⟨x, rfl, _⟩ := asS_inv h; replace q : R (.builtin "str.join", [cv]) s := q; show wpAny _ A (getMethod cv (Str.ofString "join") pl) R E s
    revert q; exact hv.eS fun _ q => by with_reducible exact GM.join q
  · obtain ⟨x, rfl, h⟩ := asO_inv h; replace q : R (.builtin "list.append", [cv]) s := q; have h := r.listAt h; show wpAny _ A (getMethod cv (Str.ofString "append") pl) R E s
    revert q; exact hv.eO fun q => by with_reducible exact getMethod_builtin h.1 F.plainAttrs_list F.slot_list_append F.type_list_append h.2 q
  · obtain ⟨x, rfl, h⟩ := asO_inv h; replace q : R (.builtin "list.pop", [cv]) s := q; have h := r.listAt h; show wpAny _ A (getMethod cv (Str.ofString "pop") pl) R E s
    revert q; exact hv.eO fun q => by with_reducible exact getMethod_builtin h.1 F.plainAttrs_list F.slot_list_pop F.type_list_pop h.2 q
  · obtain ⟨x, rfl, h⟩ := asO_inv h; replace q : R (.builtin "list.insert", [cv]) s := q; have h := r.listAt h; show wpAny _ A (getMethod cv (Str.ofString "insert") pl) R E s
    revert q; exact hv.eO fun q => by with_reducible exact getMethod_builtin h.1 F.plainAttrs_list F.slot_list_insert F.type_list_insert h.2 q
theorem strs_of {h : Heap} : ∀ (xs : List Tx) {cs : List Value}, RVs h cs (xs.map V.str) → StrsAre cs (xs.map mkS)
  | [], _, r => r.e0 .nil
  | _ :: xs, _, r => r.eC (N := fun cs => StrsAre cs _) fun _ _ a b => a.eS (M := fun c => StrsAre (c :: _) _) fun _ => .cons _ _ (strs_of xs b)
theorem join_flat : ∀ xs : List Tx, Str.join (mkS []) (xs.map mkS) = mkS xs.flatten
  | [] => rfl
  | [x] => by simp [Str.join]
  | x :: y :: xs => by
    have ih := join_flat (y :: xs)
    rw [ List.map_cons, List.map_cons, Str.join, ← List.map_cons, ih, mkS_append, mkS_append, List.append_nil ]
    · rfl
    · intro h; cases h
theorem sum_map (xs : List Tx) : ((xs.map mkS).map (·.length)).sum = xs.flatten.length := by
  induction xs with
  | nil => rfl
  | cons x xs ih => simp only [List.map_cons, List.sum_cons, List.flatten_cons, List.length_append, ih, mkl]
theorem me_joinW {x : Tx} {v : V} {cv : Value} {t : Tok} (h : x = [] ∧ asO v fun a => ∃ xs : List Tx, σ.mem a = some (.list (xs.map V.str)) ∧ xs.length ≤ 500000 ∧ xs.flatten.length ≤ 500000 ∧ Q (.str xs.flatten) σ.mem) (r : Rep G Γ frz σ s) (hv : RV s.heap cv v) :
    wpAny (model G.prog G.w) A (call (.builtin "str.join") [.str (mkS x) t, cv]) (PO G Γ frz σ s Q) NoE s := by
  obtain ⟨rfl, h⟩ := h
  refine bc fun z9 => ?_
  obtain ⟨l, rfl, xs, e, h1, h2, h3⟩ := asO_inv h
  refine z9 ?_
  refine bc fun z9 => ?_
  obtain ⟨_, n, g, rs, _⟩ := (r.hmem _ _ e).l
  refine z9 ?_
  refine hv.eO (join_listW (ys := xs.map mkS) ⟨_, g, rfl, n, rfl⟩ (strs_of _ rs) (by rw [mkl]; decide) (by rw [sum_map, List.length_map]; lia) fun t' k => ?_)
  rw [ show PySem.Txt.join (mkS []) (xs.map mkS) = mkS xs.flatten from (StrLaws.glued_eq_join _ _).trans (join_flat xs) ]
  exact PO.pure r (.str _ _) h3
theorem PO.upd (ok : Γ.ok) (r : Rep G Γ frz σ s) {a : Addr} {l l' : List V} {arr : Array Value} {n : Nat} {f : Array Value → Array Value} (e : σ.mem a = some (.list l)) (g : s.heap.get? a = some { cls := .type "list", data := .seq arr n })
    {v : V} {cv : Value} (rv : ∀ h', TK s.heap h' → RV h' cv v) (rs : ∀ h', TK s.heap h' → RVs h' (f arr).toList l') (q : Q v (Mine.Internal.upd σ.mem a (.list l'))) : PO G Γ frz σ s Q cv { s with heap := s.heap.update a (Obj.mapSeq f) } :=
  have p := r.change ok (tk := s.toks) (o := .list l') e (h' := s.heap.update a (Obj.mapSeq f)) (fun _ _ hb e => (Heap.get?_update_other _ _ (Ne.symm hb)).trans e) (fun k => .list (Heap.get?_update_self _ g rfl) (rs _ k))
  ⟨v, _, rv _ p.2, p.1, p.2, q⟩
theorem me_appW {a : Addr} {v : V} {cv : Value} (ok : Γ.ok) (h : ∃ vs, σ.mem a = some (.list vs) ∧ sma vs.length ∧ Q .none (Mine.Internal.upd σ.mem a (.list (vs ++ [v])))) (r : Rep G Γ frz σ s) (hv : RV s.heap cv v) :
    wpAny (model G.prog G.w) A (call (.builtin "list.append") [.ref a, cv]) (PO G Γ frz σ s Q) NoE s := by
  obtain ⟨l, e, h1, h2⟩ := h
  obtain ⟨arr, n, g, rs, hz⟩ := (r.hmem _ _ e).l
  refine call_meets F.slot_list_append ⟨_, g, rfl⟩ F.entry_list_append (F.args_list_append_2 _ _) (AutoListH.list_append_list_val_0 _ _ _ _ (by rw [hz]; exact small_line h1)) ⟨g, ?_⟩
  exact PO.upd ok r e g (fun _ _ => .none) (fun h' k => by rw [Array.toList_push]; exact (rs.tk k).append (.one (hv.tk k))) h2
theorem me_popW {a : Addr} (ok : Γ.ok) (h : ∃ vs v, σ.mem a = some (.list (vs ++ [v])) ∧ sma vs.length ∧ Q v (Mine.Internal.upd σ.mem a (.list vs))) (r : Rep G Γ frz σ s) :
    wpAny (model G.prog G.w) A (call (.builtin "list.pop") [.ref a]) (PO G Γ frz σ s Q) NoE s := by
  obtain ⟨vs, v, e, h1, h2⟩ := h
  obtain ⟨arr, n, g, rs, hz⟩ := (r.hmem _ _ e).l
  rw [List.length_append, List.length_singleton] at hz
  obtain ⟨cv, g1, g2⟩ := rs.get (i := vs.length) (x := v) List.getElem?_concat_length
  have hz' : arr.size - 1 = vs.length := by rw [ hz ]; rfl
  refine call_meets F.slot_list_pop ⟨_, g, rfl⟩ F.entry_list_pop (F.args_list_pop_1 _) (MeetsSeq.list_pop_last _ _ _ cv (by rw [ hz', ← Array.getElem?_toList ]; exact g1) (by rw [ hz, sizeLine_eq ]; exact Nat.le_trans (Nat.succ_le_succ h1) (by decide))) ⟨g, ?_⟩
  refine PO.upd ok r e g (fun _ k => g2.tk k) (fun h' k => ?_) h2
  have t := (rs.tk k).take vs.length
  rw [List.take_left' rfl] at t
  simp only [ Array.toList_eraseIdxIfInBounds, List.eraseIdx_eq_take_drop_succ, hz', List.drop_of_length_le (by rw [Array.length_toList, hz]; exact Nat.le_refl _), List.append_nil ]
  exact t
theorem ins_arr {arr : Array Value} {k : Int} {x : Value} (h0 : 0 ≤ k) : ((arr.extract 0 (if k < 0 then (k + (arr.size : Int)).toNat else min k.toNat arr.size)).push x ++ arr.extract (if k < 0 then (k + (arr.size : Int)).toNat else min k.toNat arr.size)).toList = arr.toList.take k.toNat ++ x :: arr.toList.drop k.toNat := by
  simp only [ if_neg (Int.not_lt.mpr h0), Array.toList_append, Array.toList_push, Array.toList_extract, Array.toList_extract, List.extract_eq_take_drop, List.extract_eq_take_drop, List.append_assoc, ← Array.length_toList, List.drop_zero, Nat.sub_zero ]
  by_cases hc : k.toNat ≤ arr.toList.length
  · rw [ Nat.min_eq_left hc, List.take_of_length_le (l := arr.toList.drop _) (by rw [List.length_drop]; exact Nat.le_refl _) ]; rfl
  · have hc := Nat.le_of_not_le hc
    rw [ Nat.min_eq_right hc, List.take_of_length_le hc, List.drop_of_length_le hc, List.drop_of_length_le (Nat.le_refl _), List.take_length, List.take_nil ]; rfl
theorem me_insW {a : Addr} {i v : V} {ci cv : Value} (ok : Γ.ok) (h : asI i fun k => 0 ≤ k ∧ tiny k ∧ ∃ vs, σ.mem a = some (.list vs) ∧ sma vs.length ∧ Q .none (Mine.Internal.upd σ.mem a (.list (vs.take k.toNat ++ v :: vs.drop k.toNat)))) (r : Rep G Γ frz σ s) (hi : RV s.heap ci i) (hv : RV s.heap cv v) :
    wpAny (model G.prog G.w) A (call (.builtin "list.insert") [.ref a, ci, cv]) (PO G Γ frz σ s Q) NoE s := by
  refine bc fun z9 => ?_
  obtain ⟨k, rfl, h0, hk, l, e, h1, h2⟩ := asI_inv h
  refine z9 ?_
  refine bc fun z9 => ?_
  obtain ⟨arr, n, g, rs, hz⟩ := (r.hmem _ _ e).l
  refine z9 ?_
  refine hi.eI fun _ => call_meets F.slot_list_insert ⟨_, g, rfl⟩ F.entry_list_insert (F.args_list_insert_3 _ _ _) (AutoListH.list_insert_list_int_val_1 _ _ _ _ _ _ (by rw [ tiny_fit hk ]; decide) (by rw [ hz ]; exact small_line h1)) ⟨g, ?_⟩
  exact PO.upd ok r e g (fun _ _ => .none) (fun h' kk => by rw [ ins_arr h0 ]; exact ((rs.tk kk).take _).append (.cons (hv.tk kk) ((rs.tk kk).drop _))) h2
theorem me_findW {x : Tx} {t : Tok} {vs : List V} {cvs : List Value} (h : arg12 vs (fun v => asS v fun t => sma x.length ∧ sma t.length ∧ ∀ r, FindIs x t 0 r → Q (.int r) σ.mem) fun v u => asS v fun t => asI u fun i => sma x.length ∧ sma t.length ∧ 0 ≤ i ∧ ∀ r, FindIs x t i.toNat r → Q (.int r) σ.mem)
    (r : Rep G Γ frz σ s) (hv : RVs s.heap cvs vs) : wpAny (model G.prog G.w) A (call (.builtin "str.find") (.str (mkS x) t :: cvs)) (PO G Γ frz σ s Q) NoE s := by
  obtain ⟨v, rfl, h⟩ | ⟨v, u, rfl, h⟩ := arg12_inv h
  · obtain ⟨y, rfl, _, _, h3⟩ := asS_inv h
    refine hv.e1 fun _ a => a.eS (M := fun c => wpAny (model G.prog G.w) A (call (.builtin "str.find") [.str (mkS x) t, c]) (PO G Γ frz σ s Q) NoE s) fun _ => ?_
    exact call_meets F.slot_str_find (typeIs_str _ _ _) F.entry_str_find (F.args_str_find_2 _ _) (gives_str_find _ _ _ _).meets (PO.pure r (.int _ _) (h3 _ (find_is _ _ 0)))
  · obtain ⟨y, rfl, h⟩ := asS_inv h
    obtain ⟨i, rfl, _, _, h0, h3⟩ := asI_inv h
    refine hv.e2 fun _ _ a c => a.eS (M := fun d => wpAny (model G.prog G.w) A (call (.builtin "str.find") [.str (mkS x) t, d, _]) (PO G Γ frz σ s Q) NoE s) fun _ => ?_
    refine c.eI (M := fun d => wpAny (model G.prog G.w) A (call (.builtin "str.find") [.str (mkS x) t, .str (mkS y) _, d]) (PO G Γ frz σ s Q) NoE s) fun _ => ?_
    exact call_meets F.slot_str_find (typeIs_str _ _ _) F.entry_str_find (F.args_str_find_3 _ _ _) (gives_str_find_from _ _ _ _ _ _).meets (PO.pure r (.int _ _) (by rw [ fromIndex_nn h0 ]; exact h3 _ (find_is _ _ _)))
theorem s_me {v : V} {m : Me} {vs : List V} {cv : Value} {cvs : List Value} (ok : Γ.ok) (h : wpMe σ.mem v m vs Q) (r : Rep G Γ frz σ s) (hv : RV s.heap cv v) (hvs : RVs s.heap cvs vs) :
    wpAny (model G.prog G.w) A (call (.builtin (m.id)) (cv :: cvs)) (PO G Γ frz σ s Q) NoE s := by
  cases m
  · obtain ⟨x, rfl, h⟩ := asS_inv h
    exact hv.eS fun _ => me_findW h r hvs
  · obtain ⟨x, rfl, h⟩ := asS_inv h
    obtain ⟨v, rfl, h⟩ := arg1_inv h
    obtain ⟨y, rfl, h⟩ := asS_inv h
    exact hv.eS fun t => hvs.e1 fun _ a => a.eS (M := fun c => wpAny (model G.prog G.w) A (call (.builtin "str.startswith") [.str (mkS x) t, c]) (PO G Γ frz σ s Q) NoE s) fun _ =>
      call_meets F.slot_str_startswith (typeIs_str _ _ _) F.entry_str_startswith (F.args_str_startswith_2 _ _) (gives_str_startswith _ _ _ _).meets (PO.here r (.bool _) (by rw [starts_eq]; exact h))
  · obtain ⟨x, rfl, h⟩ := asS_inv h
    obtain ⟨v, rfl, h⟩ := arg1_inv h
    obtain ⟨y, rfl, h⟩ := asS_inv h
    exact hv.eS fun t => hvs.e1 fun _ a => a.eS (M := fun c => wpAny (model G.prog G.w) A (call (.builtin "str.endswith") [.str (mkS x) t, c]) (PO G Γ frz σ s Q) NoE s) fun _ =>
      call_meets F.slot_str_endswith (typeIs_str _ _ _) F.entry_str_endswith (F.args_str_endswith_2 _ _) (gives_str_endswith _ _ _ _).meets (PO.here r (.bool _) (by rw [ends_eq]; exact h))
  · obtain ⟨x, rfl, h0, h⟩ := asS_inv h
    obtain ⟨v, rfl, h⟩ := arg1_inv h
    exact hv.eS fun t => hvs.e1 fun _ a => me_joinW ⟨h0, h⟩ r a
  · obtain ⟨a, rfl, h⟩ := asO_inv h
    obtain ⟨v, rfl, h⟩ := arg1_inv h
    exact hv.eO (hvs.e1 fun _ a => me_appW ok h r a)
  · obtain ⟨a, rfl, rfl, h'⟩ := asO_inv h
    exact hv.eO (hvs.e0 (me_popW ok (show ∃ vs v, σ.mem a = some (.list (vs ++ [v])) ∧ sma vs.length ∧ Q v (Mine.Internal.upd σ.mem a (.list vs)) from h') r))
  · obtain ⟨a, rfl, h⟩ := asO_inv h
    obtain ⟨i, v, rfl, h⟩ := arg2_inv h
    exact hv.eO (hvs.e2 fun _ _ a c => me_insW ok h r a c)
end
section
variable {G : GS} {A : Around} {Γ : FE} {frz : Frz} {σ : St} {s : Shared} {Q : V → Mem → Prop}
theorem fields_get {h : Heap} {n : String} : ∀ {es : List DictEntry} {fs : List (Str × V)}, Fields h es fs →
    (∀ v, lookF n fs = some v → ∃ cv, getL (Str.ofString n) es = some (some cv) ∧ RV h cv v) ∧ (lookF n fs = none → getL (Str.ofString n) es = some none)
  | [], [], _ => ⟨fun v e => by simp [lookF] at e, fun _ => rfl⟩
  | e :: es, (x, u) :: fs, ⟨⟨t, hk⟩, hr, hf⟩ => by
    obtain ⟨ih1, ih2⟩ := fields_get (n := n) hf
    have hi : e.key.isStr (Str.ofString n) = (x == Str.ofString n) := by rw [ hk ]; rfl
    have href : e.refKey = false := by unfold DictEntry.refKey; rw [ hk ]
    constructor
    · intro v hl
      unfold lookF at hl
      unfold getL
      rw [ List.find?_cons, hi ]
      split at hl
      · rename_i c
        rw [ beq_iff_eq.mpr c ]
        cases hl
        exact ⟨_, rfl, hr⟩
      · rename_i c
        rw [ beq_eq_false_iff_ne.mpr c ]
        obtain ⟨cv, g, q⟩ := ih1 v hl
        refine ⟨cv, ?_, q⟩
        unfold getL at g
        split at g
        · rename_i c2; rw [ c2 ]; exact g
        · split at g <;> cases g
    · intro hl
      unfold lookF at hl
      unfold getL
      rw [ List.find?_cons, hi ]
      split at hl
      · cases hl
      · rename_i c
        rw [ beq_eq_false_iff_ne.mpr c ]
        have g := ih2 hl
        unfold getL at g
        split at g
        · cases g
        · rename_i c2
          rw [ c2 ]
          split at g
          · cases g
          · rename_i c3
            simp only [List.any_cons, href, Bool.false_or]
            rw [ if_neg c3 ]
  | [], _ :: _, x => x.elim
  | _ :: _, [], x => x.elim
structure PC.ok (G : GS) (P : PC) : Prop where
  hd : hasDictIn G.K P.cls = true
  get : ∀ n, P.fld n = true → plainGet G.K P.cls (Str.ofString n) = true ∧ findIn G.K (.ref P.cls) (Str.ofString n) = some none ∧ takerIn G.K P.cls (Str.ofString n) = some none
  cc : ∀ n v, P.cc n = some v → plainGet G.K P.cls (Str.ofString n) = true ∧ copiedNames.contains (Str.ofString n) = false ∧
    ∃ a, findIn G.K (.ref P.cls) (Str.ofString n) = some (some a) ∧ specialIn G.K a "__get__" = some none ∧ handedIn a = true ∧ ∀ h, RV h a v
  set : findIn G.K (.ref P.cls) "__setattr__" = some (some (.builtin "object.__setattr__"))
  over : plainOver G.K P.cls = true
theorem Rep.kin (gok : G.ok) (r : Rep G Γ frz σ s) : G.K.In s.heap := fun a o e => r.hfrz _ _ (r.hbase _ _ (gok.k a o e))
theorem rv_handed {h : Heap} {cv : Value} {v : V} (r : RV h cv v) : handedIn cv = true := by cases r <;> rfl
theorem inst_at (r : Rep G Γ frz σ s) {C a d : Addr} {fs : List (Str × V)} (e1 : σ.mem a = some (.inst C d)) (e2 : σ.mem d = some (.dict fs)) :
    ∃ es n, InstAt s.heap a (instObj C d) C (some (dictOf es n)) ∧ Fields s.heap es fs ∧ s.heap.get? d = some (dictOf es n) := by
  cases r.hmem _ _ e1 with
  | inst g1 =>
  cases r.hmem _ _ e2 with
  | @dict es n _ g2 hf => exact ⟨es, n, ⟨g1, rfl, rfl, g2⟩, hf, g2⟩
theorem s_attr {P : PC} {v : V} {cv : Value} {n : String} {expr : Bool} {Q : V → Prop} (gok : G.ok) (pok : P.ok G) (h : wpAttr P σ.mem v n Q) (r : Rep G Γ frz σ s) (hv : RV s.heap cv v) :
    wpAny (model G.prog G.w) A (getAttr cv (Str.ofString n) expr) (PO G Γ frz σ s fun r m => m = σ.mem ∧ Q r) NoE s := by
  unfold wpAttr at h
  split at h
  · refine bc fun z9 => ?_
    obtain ⟨d, fs, e1, e2, h⟩ := h
    refine z9 ?_
    cases hv
    refine bc fun z9 => ?_
    obtain ⟨es, k, I, hf, _⟩ := inst_at r e1 e2
    refine z9 ?_
    have X := r.kin gok
    obtain ⟨q1, q2⟩ := fields_get (n := _) hf
    split at h
    · rename_i v hl
      refine bc fun z9 => ?_
      obtain ⟨cv, g, rv⟩ := q1 _ hl
      refine z9 ?_
      refine bc fun z9 => ?_
      obtain ⟨a1, a2, a3⟩ := pok.get _ h.1
      refine z9 ?_
      exact get_value X I (plainGet_of a1).1 (findObj_own pok.hd a2 rfl g) (rv_handed rv) ⟨_, _, rv.tk (.refl _), r.toks _, .refl _, rfl, h.2⟩
    · rename_i hl
      refine bc fun z9 => ?_
      obtain ⟨v, hc, q⟩ := h
      refine z9 ?_
      refine bc fun z9 => ?_
      obtain ⟨a1, a2, a, a3, a4, a5, a6⟩ := pok.cc _ _ hc
      refine z9 ?_
      exact get_value X I (plainGet_of a1).1 (findObj_cls pok.hd a3 a4 a5 a2 (q2 hl)) a5 ⟨_, _, a6 _, r.toks _, .refl _, rfl, q⟩
  · exact h.elim
theorem Fields.length {h : Heap} : ∀ {es : List DictEntry} {fs : List (Str × V)}, Fields h es fs → es.length = fs.length
  | [], [], _ => rfl
  | _ :: _, _ :: _, ⟨_, _, f⟩ => by simp [f.length]
  | [], _ :: _, x => x.elim
  | _ :: _, [], x => x.elim
theorem fields_put {h : Heap} {n : String} {hs : Int} {tk : Tok} {cv : Value} {v : V} (rv : RV h cv v) : ∀ {es : List DictEntry} {fs : List (Str × V)}, Fields h es fs →
    Fields h (putL (Str.ofString n) hs (.str (Str.ofString n) tk) cv es) (setF n v fs) ∧ (putL (Str.ofString n) hs (.str (Str.ofString n) tk) cv es).length ≤ fs.length + 1
  | [], [], _ => ⟨⟨⟨tk, rfl⟩, rv, trivial⟩, by simp [putL]⟩
  | e :: es, (x, u) :: fs, ⟨⟨t, hk⟩, hr, hf⟩ => by
    obtain ⟨ih1, ih2⟩ := fields_put (n := n) (hs := hs) (tk := tk) rv hf
    have hi : e.key.isStr (Str.ofString n) = (x == Str.ofString n) := by rw [ hk ]; rfl
    unfold putL setF
    rw [ hi ]
    by_cases c : x = Str.ofString n
    · rw [if_pos (by simpa using c), if_pos c]
      have hlen : es.length = fs.length := by
        exact hf.length
      exact ⟨⟨⟨t, hk⟩, rv, hf⟩, by simp [hlen]⟩
    · rw [if_neg (by simpa using c), if_neg c]
      exact ⟨⟨⟨t, hk⟩, hr, ih1⟩, by simp; omega⟩
  | [], _ :: _, x => x.elim
  | _ :: _, [], x => x.elim
theorem ns_uniq {h : Heap} {a : Addr} {m m' : Str → Option Value} (x : h.Ns a m) (y : h.Ns a m') : m = m' := by
  obtain ⟨o, es, ep, e, d, _, f⟩ := x
  obtain ⟨o', es', ep', e', d', _, f'⟩ := y
  rw [e] at e'; cases e'
  rw [d] at d'; cases d'
  funext n; rw [← f, ← f']
theorem s_setattr {P : PC} {a d : Addr} {fs : List (Str × V)} {v : V} {cv : Value} {n : String} (gok : G.ok) (pok : P.ok G) (ok : Γ.ok) (r : Rep G Γ frz σ s) (e1 : σ.mem a = some (.inst P.cls d)) (e2 : σ.mem d = some (.dict fs))
    (hf : P.fld n = true) (hz : fs.length ≤ 100) (hv : RV s.heap cv v) :
    wpAny (model G.prog G.w) A (setAttr (.ref a) (Str.ofString n) cv) (fun _ s' => Rep G Γ frz { σ with mem := upd σ.mem d (.dict (setF n v fs)) } s' ∧ TK s.heap s'.heap) NoE s := by
  refine bc fun z9 => ?_
  obtain ⟨es, k, I, hF, g⟩ := inst_at r e1 e2
  refine z9 ?_
  refine bc fun z9 => ?_
  obtain ⟨m, nm, _⟩ := r.hns
  refine z9 ?_
  have X := r.kin gok
  obtain ⟨q1, q2⟩ := fields_get (n := n) hF
  refine bc fun z9 => ?_
  obtain ⟨a1, a2, a3⟩ := pok.get _ hf
  refine z9 ?_
  obtain ⟨p1, p2⟩ := fields_put (n := n) (hs := PyData.keyHash G.w.params (Str.ofString n)) (tk := s.toks + 1) hv hF
  have hl : (lookIn (Str.ofString n) (dictOf es k)).isSome = true := by
    rw [lookIn_dict]
    cases hq : lookF n fs with
    | none => rw [q2 hq]; rfl
    | some u => obtain ⟨cu, gu, _⟩ := q1 u hq; rw [gu]; rfl
  have hdL : d ≠ Γ.env.locals := r.mem_ne e2
  have hdb : G.base.get? d = none := by
    cases q : G.base.get? d with
    | none => rfl
    | some o => have := r.hbase _ _ q; rw [r.hmemF _ _ e2] at this; cases this
  have N : News G.base Γ.env.locals s.heap ([] ++ (d, dictOf es k) :: restOf G Γ.env.locals s.heap [d]) := fun p hp => by
    rcases List.mem_cons.mp hp with rfl | hp
    · exact ⟨g, hdL, hdb⟩
    · exact r.rest [d] p hp
  refine set_plain X I pok.set ?_
  refine osa_dict (s := { s with toks := s.toks + 1 }) (r.fr nm) N X I rfl pok.over a3 pok.hd hl (fun _ h => (nomatch h)) (fun p hp => ?_) (putName_dict _ _ _ _ _ _) rfl (Nat.le_trans p2 (by lia)) fun h' F' N' => ?_
  · obtain ⟨b, o⟩ := p
    have := (restOf_mem.mp hp).2.1
    simpa using this
  · have N2 : News G.base Γ.env.locals h' (restOf G Γ.env.locals s.heap [d]) := fun p hp => N' p (List.mem_cons_of_mem _ hp)
    have g' := (N' _ (List.mem_cons_self)).1
    exact r.changeL ok e2 (fun b o hb hl e => r.keep_of_rest F' N2 b o (by simpa using hb) hl e) (fun m' n' => ns_uniq nm n' ▸ F'.ns) (fun k => .dict g' (p1.tk k))
end
noncomputable def frzIn (σ : St) (s : Shared) : Frz := fun b => match σ.mem b with
  | some _ => none
  | none => s.heap.get? b
theorem frzIn_some {σ : St} {s : Shared} {b : Addr} {o : Obj} : frzIn σ s b = some o ↔ σ.mem b = none ∧ s.heap.get? b = some o := by
  unfold frzIn
  cases σ.mem b <;> simp
noncomputable def PR (G : GS) (frz : Frz) (s : Shared) (Q : V → Mem → Prop) : Value → Shared → Prop :=
  fun cv s' => ∃ v m, RV s'.heap cv v ∧ Rp G frz m s' ∧ TK s.heap s'.heap ∧ Q v m
noncomputable def CallS (G : GS) (A : Around) (f : Value) (vs : List V) (Q : V → Mem → Prop) (m : Mem) : Prop :=
  ∀ Γ frz σ s cvs, FE.ok Γ → Rep G Γ frz σ s → σ.mem = m → RVs s.heap cvs vs → wpAny (model G.prog G.w) A (call f cvs) (PO G Γ frz σ s Q) NoE s
section
variable {G : GS} {A : Around} {Γ : FE} {frz : Frz} {σ : St} {s s' : Shared}
theorem Rep.upIn (r : Rep G Γ frz σ s) {b : Addr} {o : Obj} (e : frz b = some o) : frzIn σ s b = some o := by
  refine frzIn_some.mpr ⟨?_, r.hfrz _ _ e⟩
  cases q : σ.mem b with
  | none => rfl
  | some x => rw [r.hmemF b x q] at e; cases e
theorem Rep.inn (r : Rep G Γ frz σ s) : Rp G (frzIn σ s) σ.mem s :=
  ⟨r.same, fun _ _ e => r.upIn (r.hbase _ _ e), fun _ _ e => r.upIn (r.hkeep _ _ e), fun _ _ e => (frzIn_some.mp e).2, r.hmem, fun a o e => by unfold frzIn; rw [ e ], r.rp.hsz⟩
theorem Rep.back (r : Rep G Γ frz σ s) {G' : GS} (hs0 : G'.s0 = G.s0) {frz' : Frz} {m' : Mem} (r' : Rp G' frz' m' s') (hf : ∀ b o, σ.mem b = none → b = Γ.env.locals ∨ (∃ o', frz b = some o') ∨ (∃ (i : Nat), ∃ x, Γ.vars[i]? = some (x, .own b)) → s.heap.get? b = some o → frz' b = some o)
    (tk : TK s.heap s'.heap) : Rep G Γ frz { σ with mem := m' } s' := by
  have none_of : ∀ b o, frz b = some o → σ.mem b = none := fun b o e => by
    cases q : σ.mem b with
    | none => rfl
    | some x => rw [r.hmemF b x q] at e; cases e
  have out : ∀ b o, frz' b = some o → m' b = none := fun b o g => by
    cases q : m' b with
    | none => rfl
    | some x => have := r'.hmemF b x q; rw [g] at this; cases this
  have F1 : ∀ b o, frz b = some o → frz' b = some o := fun b o e => hf b o (none_of b o e) (.inr (.inl ⟨o, e⟩)) (r.hfrz b o e)
  refine bc fun z9 => ?_
  obtain ⟨m, ⟨o0, es, ep, e0, rest⟩, f⟩ := r.hns
  refine z9 ?_
  have FL := hf _ _ r.hlm (.inl rfl) e0
  refine ⟨by rw [ ← hs0 ]; exact r'.same, r.hbase, r.hkeep, fun b o e => r'.hfrz _ _ (F1 b o e), r'.hmem, fun a o e => ?_, r.hab, r.hlf, out _ _ FL, ?_, ?_, ?_⟩
  · cases q : frz a with
    | none => rfl
    | some x => have := out a x (F1 a x q); rw [show m' a = some o from e] at this; cases this
  · exact ⟨m, ⟨o0, es, ep, r'.hfrz _ _ FL, rest⟩, fun i x v p q => let ⟨cv, e1, e2⟩ := f i x v p q; ⟨cv, e1, e2.tk tk⟩⟩
  · intro i x c e
    refine bc fun z9 => ?_
    obtain ⟨p, q, o, ov, g, d, f⟩ := r.hown i x c e
    refine z9 ?_
    have FC := hf c o q (.inr (.inr ⟨i, x, e⟩)) g
    exact ⟨p, out _ _ FC, o, ov, r'.hfrz _ _ FC, d, fun v z => let ⟨cv, e1, e2⟩ := f v z; ⟨cv, e1, e2.tk tk⟩⟩
  · intro i x c e
    refine bc fun z9 => ?_
    obtain ⟨o, ov, g, d, f⟩ := r.href i x c e
    refine z9 ?_
    exact ⟨o, ov, g, d, fun v z => let ⟨cv, e1, e2⟩ := f v z; ⟨cv, e1, e2.tk tk⟩⟩
theorem CallS.of {f : Value} {vs : List V} {Q : V → Mem → Prop} {m : Mem} (h : ∀ frz s cvs, Rp G frz m s → RVs s.heap cvs vs → wpAny (model G.prog G.w) A (call f cvs) (PR G frz s Q) NoE s) : CallS G A f vs Q m := fun Γ frz σ s cvs _ r hm hv => by
  subst hm
  exact wpAny_mono (h _ s cvs r.inn hv) (fun _ _ ⟨v, m, a, b, c, d⟩ => ⟨v, m, a, r.back rfl b (fun _ _ q _ e => frzIn_some.mpr ⟨q, e⟩) c, c, d⟩) fun _ _ x => x
end
structure PC.run (G : GS) (A : Around) (P : PC) : Prop where
  ok : P.ok G
  call : ∀ n, n ∈ G.fns → ∃ f, nsIn G.K mainGlobals (Str.ofString n) = some (some f) ∧ keepIn G.K f = true ∧ ∀ vs Q m, P.call n vs Q m → CallS G A f vs Q m
  meth : ∀ n, n ∈ G.meths → ∃ f, findIn G.K (.ref P.cls) (Str.ofString n) = some (some (.ref f)) ∧ isFn G.K (.ref f) = true ∧ plainGet G.K P.cls (Str.ofString n) = true ∧ keepIn G.K (.ref f) = true ∧
    ∀ vs Q m, P.meth n vs Q m → CallS G A (.ref f) vs Q m
  loc : ∀ v vs Q m, P.loc v vs Q m → ∃ a fo fd, v = .obj a ∧ m a = some (.raw fo) ∧ fo.data = .func fd ∧ CallS G A (.ref a) vs Q m
structure GS.bi (G : GS) : Prop where
  bi : ∀ b : Bi, G.mg (Str.ofString b.name) = none ∧ G.mb (Str.ofString b.name) = some b.val
structure SC.ok (G : GS) (C : SC) (Γ : FE) : Prop where
  cells : ∀ (i : Nat) x, x ∈ C.cells → Γ.vars[i]? ≠ some (x, .loc)
  fns : ∀ n, n ∈ C.fns → n ∈ G.fns
  meths : ∀ n, n ∈ C.meths → n ∈ G.meths
  vars : ∀ (i : Nat) x r, C.vars[i]? = some (x, r) → ∃ k, Γ.vars[i]? = some (x, k) ∧ (r = false → ∀ c, k ≠ .ref c)
  names : ∀ x, C.names.lookup x = some .globalImplicit → Γ.env.kindOf x = some .globalImplicit
section
variable {G : GS} {A : Around} {Γ : FE} {frz : Frz} {σ : St} {s : Shared}
theorem PV.after {s₁ s' : Shared} {Q : V → St → Prop} {cv : Value} (k : TK s.heap s₁.heap) (h : PV G Γ frz s₁ Q cv s') : PV G Γ frz s Q cv s' :=
  let ⟨v, σ', a, b, c, d⟩ := h; ⟨v, σ', a, b, k.trans c, d⟩
theorem PB.after {s₁ s' : Shared} {Q : Bool → St → Prop} {b : Bool} (k : TK s.heap s₁.heap) (h : PB G Γ frz s₁ Q b s') : PB G Γ frz s Q b s' :=
  let ⟨σ', b, c, d⟩ := h; ⟨σ', b, k.trans c, d⟩
theorem PU.after {s₁ s' : Shared} {Q : St → Prop} {b : Unit} (k : TK s.heap s₁.heap) (h : PU G Γ frz s₁ Q b s') : PU G Γ frz s Q b s' :=
  let ⟨σ', b, c, d⟩ := h; ⟨σ', b, k.trans c, d⟩
theorem PF.after {s₁ s' : Shared} {Q : Fl → St → Prop} {f : Flow} (k : TK s.heap s₁.heap) (h : PF G Γ frz s₁ Q f s') : PF G Γ frz s Q f s' :=
  let ⟨v, σ', a, b, c, d⟩ := h; ⟨v, σ', a, b, k.trans c, d⟩
theorem PO.toPV {Q' : V → Mem → Prop} {Q : V → St → Prop} {cv : Value} {s' : Shared} (h : PO G Γ frz σ s Q' cv s') (q : ∀ r m, Q' r m → Q r { σ with mem := m }) : PV G Γ frz s Q cv s' :=
  let ⟨v, m, a, b, c, d⟩ := h; ⟨v, _, a, b, c, q v m d⟩
theorem W.then {t : Sem Value} {Q : V → St → Prop} {post : Value → Shared → Prop} (h : W G A Γ t Q σ) (r : Rep G Γ frz σ s)
    (k : ∀ cv v σ₁ s₁, RV s₁.heap cv v → Rep G Γ frz σ₁ s₁ → TK s.heap s₁.heap → Q v σ₁ → post cv s₁) : wpAny (model G.prog G.w) A t post NoE s :=
  wpAny_mono (h frz s r) (fun cv s₁ ⟨v, σ₁, a, b, c, d⟩ => k cv v σ₁ s₁ a b c d) fun _ _ x => x
theorem Ws.then {t : Sem (List Value)} {Q : List V → St → Prop} {post : List Value → Shared → Prop} (h : Ws G A Γ t Q σ) (r : Rep G Γ frz σ s)
    (k : ∀ cv v σ₁ s₁, RVs s₁.heap cv v → Rep G Γ frz σ₁ s₁ → TK s.heap s₁.heap → Q v σ₁ → post cv s₁) : wpAny (model G.prog G.w) A t post NoE s :=
  wpAny_mono (h frz s r) (fun cv s₁ ⟨v, σ₁, a, b, c, d⟩ => k cv v σ₁ s₁ a b c d) fun _ _ x => x
theorem WB.then {t : Sem Bool} {Q : Bool → St → Prop} {post : Bool → Shared → Prop} (h : WB G A Γ t Q σ) (r : Rep G Γ frz σ s)
    (k : ∀ b σ₁ s₁, Rep G Γ frz σ₁ s₁ → TK s.heap s₁.heap → Q b σ₁ → post b s₁) : wpAny (model G.prog G.w) A t post NoE s :=
  wpAny_mono (h frz s r) (fun b s₁ ⟨σ₁, a, c, d⟩ => k b σ₁ s₁ a c d) fun _ _ x => x
theorem w_lit {v : V} {c : Const} {k : Nat} {pos : Pos} {Q : V → St → Prop} (h : litOk v c = true) (q : Q v σ) : W G A Γ (eval (.Constant c k pos) Γ.env) Q σ := fun frz s r => by
  rw [arm_eval_Constant]
  cases v with
  | none => cases (beq_iff_eq.mp h); exact wpAny_pure ⟨_, _, .none, r, .refl _, q⟩
  | bool => cases (beq_iff_eq.mp h); exact wpAny_pure ⟨_, _, .bool _, r, .refl _, q⟩
  | int => cases (beq_iff_eq.mp h); exact wpAny_mkInt ⟨_, _, .int _ _, r.toks _, .refl _, q⟩
  | flt => cases (beq_iff_eq.mp h); exact wpAny_bind (wpAny_fresh (wpAny_pure ⟨_, _, .flt _ _, r.toks _, .refl _, q⟩))
  | str => cases (beq_iff_eq.mp h); exact wpAny_mkText ⟨_, _, .str _ _, r.toks _, .refl _, q⟩
  | tup => exact absurd h Bool.false_ne_true
  | rng => exact absurd h Bool.false_ne_true
  | obj => exact absurd h Bool.false_ne_true
theorem w_name {i : Nat} {x : Str} {pos : Pos} {k : VK} {v : V} {Q : V → St → Prop} (ok : Γ.ok) (hx : Γ.vars[i]? = some (x, k)) (hv : σ.loc[i]? = some (some v)) (q : Q v σ) :
    W G A Γ (eval (.Name x pos) Γ.env) Q σ := fun frz s r => by
  refine wpAny_Name ?_ (ok.dbg i x k hx).1
  cases k with
  | loc =>
    refine bc fun z9 => ?_
    obtain ⟨m, n, f⟩ := r.hns
    refine z9 ?_
    refine bc fun z9 => ?_
    obtain ⟨cv, e, rv⟩ := f i x v hx hv
    refine z9 ?_
    exact wpAny_loadName_local ok.fn (ok.loc i x hx) n e ⟨v, σ, rv, r, .refl _, q⟩
  | own c =>
    refine bc fun z9 => ?_
    obtain ⟨_, _, o, ov, g, d, f⟩ := r.hown i x c hx
    refine z9 ?_
    refine bc fun z9 => ?_
    obtain ⟨cv, e, rv⟩ := f v hv
    refine z9 ?_
    subst e
    refine bc fun z9 => ?_
    obtain ⟨a1, a2, _⟩ := ok.own i x c hx
    refine z9 ?_
    exact wpAny_loadName_cell ok.fn a1 a2 ⟨_, g, d⟩ ⟨v, σ, rv, r, .refl _, q⟩
  | ref c =>
    refine bc fun z9 => ?_
    obtain ⟨o, ov, g, d, f⟩ := r.href i x c hx
    refine z9 ?_
    refine bc fun z9 => ?_
    obtain ⟨cv, e, rv⟩ := f v hv
    refine z9 ?_
    subst e
    have g' := r.hfrz _ _ g
    obtain ⟨a1, a2⟩ := ok.ref i x c hx
    rcases a1 with a1 | a1
    · exact wpAny_loadName_cell ok.fn a1 a2 ⟨_, g', d⟩ ⟨v, σ, rv, r, .refl _, q⟩
    · exact wpAny_loadName_free ok.fn a1 a2 ⟨_, g', d⟩ ⟨v, σ, rv, r, .refl _, q⟩ (ok.dbg i x _ hx).2
theorem star_plain {e : Expr} {es : List Expr} {env : Env} (h : plainE e = true) : starEach (e :: es) env = (false, eval e env) :: starEach es env := by
  cases e <;> first | rfl | exact absurd h Bool.false_ne_true
theorem star_of {C : SC} {env : Env} : ∀ {es : List Ex} {xs : List Expr}, chkEs C es xs = true → starEach xs env = xs.map fun e => (false, eval e env)
  | [], xs, h => by rw [ chkEs_nil h ]; rfl
  | a :: as, xs, h => by
    obtain ⟨e, es, rfl, hp, _, h⟩ := chkEs_cons h
    rw [ star_plain hp, star_of h ]; rfl
theorem marks_plain {e : Expr} (h : plainE e = true) (op : CmpOp) : behindInMarks op e = false := by
  cases e <;> first | rfl | exact absurd h Bool.false_ne_true
theorem marked_of {C : SC} {env : Env} : ∀ {es : List Ex} {xs : List Expr} (ops : List CmpOp), chkEs C es xs = true → markedEach ops xs (evalEach xs env) = evalEach xs env
  | [], xs, ops, h => by
    rw [ chkEs_nil h ]
    cases ops with
    | nil => rfl
    | cons o os => cases os <;> rfl
  | a :: as, xs, ops, h => by
    obtain ⟨e, es, rfl, hp, _, h⟩ := chkEs_cons h
    have ih := fun os => marked_of (env := env) os h
    cases ops with
    | nil => cases es <;> rfl
    | cons o os =>
      show markedEach (o :: os) (e :: es) (eval e env :: evalEach es env) = eval e env :: evalEach es env
      cases es with
      | nil =>
        cases os with
        | nil => simp only [evalEach, markedEach, markedBehindIn_of_false (marks_plain hp o)]
        | cons o' os => simp only [evalEach, markedEach]
      | cons e' es =>
        have q := ih os
        cases os with
        | nil => simp only [evalEach, markedEach]
        | cons o' os =>
          simp only [evalEach] at q ⊢
          simp only [markedEach] at q ⊢
          rw [ q ]
end
section
variable {G : GS} {A : Around} {Γ : FE} {frz : Frz} {σ : St} {s : Shared}
theorem back_of (pos : Pos) (env : Env) (xs : List Expr) : backTo pos (xs.map fun e => (false, eval e env)) = xs.map fun e => (false, eval e env) := by
  unfold backTo
  rw [List.map_map]
  apply List.map_congr_left
  intro e _; rfl
theorem w_args {f : Value} {xs : List Expr} {Q : List V → St → Prop} (h : Ws G A Γ (spliced (xs.map fun e => (false, eval e Γ.env))) Q σ) (r : Rep G Γ frz σ s) {post : Args → Shared → Prop}
    (k : ∀ cvs vs σ₁ s₁, RVs s₁.heap cvs vs → Rep G Γ frz σ₁ s₁ → TK s.heap s₁.heap → Q vs σ₁ → post ⟨cvs, []⟩ s₁) :
    wpAny (model G.prog G.w) A (evalArgs f true (xs.map fun e => (false, eval e Γ.env)) []) post NoE s := by
  cases xs with
  | nil =>
    unfold evalArgs
    show wpAny _ _ (spliced [] >>= _) _ _ s
    refine wpAny_bind (h.then r fun cvs vs σ₁ s₁ a b c d => wpAny_bind (wpAny_pure ?_))
    refine wpAny_holding ?_
    exact wpAny_bind (wpAny_pure (wpAny_bind (wpAny_pure (wpAny_pure (k cvs vs σ₁ s₁ a b c d)))))
  | cons x xs => exact Calls.evalArgs_plain (h.then r fun cvs vs σ₁ s₁ a b c d => k cvs vs σ₁ s₁ a b c d)
noncomputable def Wn (G : GS) (A : Around) (Γ : FE) (n : Nat) (t : Sem (List Value)) (Q : List V → St → Prop) (σ : St) : Prop :=
  ∀ frz s, Rep G Γ frz σ s → wpAny (model G.prog G.w) A t (fun cvs s' => cvs.length = n ∧ PVs G Γ frz s Q cvs s') NoE s
theorem Wn.ws {n : Nat} {t : Sem (List Value)} {Q : List V → St → Prop} (h : Wn G A Γ n t Q σ) : Ws G A Γ t Q σ := fun frz s r => wpAny_mono (h frz s r) (fun _ _ q => q.2) fun _ _ x => x
theorem Wn.then {n : Nat} {t : Sem (List Value)} {Q : List V → St → Prop} {post : List Value → Shared → Prop} (h : Wn G A Γ n t Q σ) (r : Rep G Γ frz σ s)
    (k : ∀ cv v σ₁ s₁, cv.length = n → RVs s₁.heap cv v → Rep G Γ frz σ₁ s₁ → TK s.heap s₁.heap → Q v σ₁ → post cv s₁) : wpAny (model G.prog G.w) A t post NoE s :=
  wpAny_mono (h frz s r) (fun cv s₁ ⟨l, v, σ₁, a, b, c, d⟩ => k cv v σ₁ s₁ l a b c d) fun _ _ x => x
theorem wn_nil {Q : List V → St → Prop} (q : Q [] σ) : Wn G A Γ 0 (spliced []) Q σ := fun frz s r => Calls.spliced_nil ⟨rfl, [], σ, .nil, r, .refl _, q⟩
theorem wn_cons {n : Nat} {t : Sem Value} {rest : List (Bool × Sem Value)} {Q : List V → St → Prop} (h : W G A Γ t (fun v σ₁ => Wn G A Γ n (spliced rest) (fun vs σ₂ => Q (v :: vs) σ₂) σ₁) σ) :
    Wn G A Γ (n + 1) (spliced ((false, t) :: rest)) Q σ := fun frz s r =>
  Calls.spliced_cons (h.then r fun cv v σ₁ s₁ a b c d => d.then b fun cvs vs σ₂ s₂ l a' b' c' d' => ⟨by simp [l], v :: vs, σ₂, .cons (a.tk c') a', b', c.trans c', d'⟩)
theorem w_global {x : Str} {pos : Pos} {f : Value} {post : Value → Shared → Prop} (gok : G.ok) (ok : Γ.ok) (r : Rep G Γ frz σ s) (hx : Γ.env.kindOf x = some .globalImplicit) (hd : (x == Str.ofString "__debug__") = false)
    (e : nsIn G.K mainGlobals x = some (some f)) (h : post f s) : wpAny (model G.prog G.w) A (eval (.Name x pos) Γ.env) post NoE s := by
  refine Calls.Name_function_global ok.fn hx ?_ hd
  refine Calls.loadGlobal_global (mg := G.mg) ?_ (mg_of gok.k gok.g e) h
  rw [ok.glb]
  exact gok.g.keeps fun b o e => r.hfrz _ _ (r.hbase _ _ e)
theorem w_builtin {b : Bi} {pos : Pos} {post : Value → Shared → Prop} (gok : G.ok) (gbi : G.bi) (ok : Γ.ok) (r : Rep G Γ frz σ s) (hx : Γ.env.kindOf (Str.ofString b.name) = some .globalImplicit) (hd : (Str.ofString b.name == Str.ofString "__debug__") = false)
    (h : post b.val s) : wpAny (model G.prog G.w) A (eval (.Name (Str.ofString b.name) pos) Γ.env) post NoE s := by
  refine Calls.Name_function_global ok.fn hx ?_ hd
  have k : ∀ b o, G.base.get? b = some o → s.heap.get? b = some o := fun b o e => r.hfrz _ _ (r.hbase _ _ e)
  refine Calls.loadGlobal_builtin (mg := G.mg) (mb := G.mb) ?_ (gbi.bi b).1 ?_ (gbi.bi b).2 h
  · rw [ok.glb]; exact gok.g.keeps k
  · rw [ok.bui]; exact gok.b.keeps k
theorem plain_args (env : Env) (xs : List Expr) : (xs.map fun e => (false, eval e env)).any (·.1) = false := by
  induction xs with
  | nil => rfl
  | cons x xs ih => trivial
theorem call_val {b : Bi} {pos : Pos} {args : List (Bool × Sem Value)} {post : Value → Shared → Prop} {s : Shared} (hp : args.any (·.1) = false)
    (h : wpAny (model G.prog G.w) A (evalArgs b.val true args []) (fun a s₁ => wpAny (model G.prog G.w) A (call b.val a.pos a.kw) post NoE s₁) NoE s) :
    wpAny (model G.prog G.w) A (callWith pos b.val [] args []) post NoE s := by
  cases b
  case range => exact PyProof.Rows.callWith_type (T := "range") (first := []) hp h
  case list => exact PyProof.Rows.callWith_type (T := "list") (first := []) hp h
  case len => exact Calls.callWith_builtin (id := "len") (first := []) hp h
  case min => exact Calls.callWith_builtin (id := "min") (first := []) hp h
  case max => exact Calls.callWith_builtin (id := "max") (first := []) hp h
  case sum => exact Calls.callWith_builtin (id := "sum") (first := []) hp h
  case chr => exact Calls.callWith_builtin (id := "chr") (first := []) hp h
  case ord => exact Calls.callWith_builtin (id := "ord") (first := []) hp h
theorem eval_CallName (f : Str) (p pos : Pos) (xs : List Expr) (env : Env) : eval (.Call (.Name f p) xs [] pos) env = (do
    callWith pos (← eval (.Name f p) env) [] (backTo pos (starEach xs env)) (backToKw pos (keywordEach [] env))) := rfl
theorem keep_raw {a : Addr} {fo : Obj} {fd : FuncData} (h : Heap) (e : h.get? a = some fo) (d : fo.data = .func fd) : ∃ k, (k = Keeper.frame ∨ k = Keeper.machine ∨ k = Keeper.boundFrame) ∧ Looks (model G.prog G.w) h (keeperOf (.ref a)) k := by
  obtain ⟨c, dd, dt, sl⟩ := fo
  cases d
  exact keeps_F (q := a) h ⟨_, _, _, _, e⟩
theorem w_default {e : Expr} {Q : Bool → St → Prop} (h : W G A Γ (eval e Γ.env) (fun v σ₁ => wpTruth σ₁.mem v fun b => Q b σ₁) σ)
    (he : isTrue e Γ.env (eval e Γ.env) = (do let v ← eval e Γ.env; standAt e.pos; holding [v] (truthy v))) : WB G A Γ (isTrue e Γ.env (eval e Γ.env)) Q σ := fun frz s r => by
  rw [he]
  refine wpAny_bind (h.then r fun cv v σ₁ s₁ a b c d => wpAny_bind (wpAny_standAt (wpAny_holding ?_)))
  exact wpAny_mono (s_truth d b a) (fun b' s₂ ⟨p, q, t⟩ => ⟨σ₁, p, c.trans q, t⟩) fun _ _ x => x
theorem glob_of {C : SC} {n : String} {x : Str} (hC : C.ok G Γ) (h : C.glob n x = true) : x = Str.ofString n ∧ Γ.env.kindOf x = some .globalImplicit ∧ (x == Str.ofString "__debug__") = false := by
  unfold SC.glob at h
  simp only [Bool.and_eq_true, beq_iff_eq, Bool.not_eq_true'] at h
  exact ⟨h.1.1.symm, hC.names x h.1.2, h.2⟩
theorem is_of {C : SC} {i : Nat} {x : Str} (hC : C.ok G Γ) (h : C.is i x = true) : ∃ k, Γ.vars[i]? = some (x, k) := by
  unfold SC.is at h
  split at h
  · rename_i y r e
    obtain ⟨k, hk, _⟩ := hC.vars i y r e
    rw [beq_iff_eq.mp h] at hk
    exact ⟨k, hk⟩
  · cases h
end
section
variable {G : GS} {A : Around} {Γ : FE} {frz : Frz} {σ : St} {s : Shared}
theorem set_loc {l : List (Option V)} {i j : Nat} {v u : V} (h : (l.set i (some v))[j]? = some (some u)) : (i = j ∧ u = v) ∨ (i ≠ j ∧ l[j]? = some (some u)) := by
  rw [List.getElem?_set] at h
  split at h
  · rename_i e
    split at h
    · cases h; exact .inl ⟨e, rfl⟩
    · cases h
  · rename_i e; exact .inr ⟨e, h⟩
theorem keep_cu {h h' : Heap} {p : Value → Prop} {u : V} (tk : TK h h') (f : ∃ cu, p cu ∧ RV h cu u) : ∃ cu, p cu ∧ RV h' cu u := f.elim fun cu e => ⟨cu, e.1, e.2.tk tk⟩
theorem set_other {i j : Nat} {x y : Str} {k k' : VK} {v u : V} (hx : Γ.vars[i]? = some (x, k)) (hy : Γ.vars[j]? = some (y, k')) (h : k ≠ k') (hu : (σ.set i v).loc[j]? = some (some u)) : σ.loc[j]? = some (some u) := by
  rcases set_loc hu with ⟨rfl, _⟩ | ⟨_, hu⟩
  · exact absurd (congrArg Prod.snd (Option.some.inj (hx.symm.trans hy))) h
  · exact hu
theorem s_store {i : Nat} {x : Str} {k : VK} {v : V} {cv : Value} (ok : Γ.ok) (r : Rep G Γ frz σ s) (hx : Γ.vars[i]? = some (x, k)) (hk : ∀ c, k ≠ .ref c) (hv : RV s.heap cv v) :
    wpAny (model G.prog G.w) A (storeName Γ.env x cv) (fun _ s' => Rep G Γ frz (σ.set i v) s' ∧ TK s.heap s'.heap) NoE s := by
  cases k with
  | ref c => exact absurd rfl (hk c)
  | loc =>
    obtain ⟨m, n, f⟩ := r.hns
    refine wpAny_storeName_local (ok.loc i x hx) n (fun h' hn hs => ?_) (by rw [ ok.fn ]; rfl)
    have tk : TK s.heap h' := fun b o e im => by
      by_cases hb : b = Γ.env.locals
      · subst hb; exact absurd im (ns_not_imm n e)
      · exact (hs.2 b hb).trans e
    refine ⟨⟨let ⟨_, _, e⟩ := r.same; ⟨h', _, by rw [e]⟩, r.hbase, r.hkeep, fun b o e => (hs.2 b (r.frz_ne e)).trans (r.hfrz b o e), fun a o e => (r.hmem a o e).keep tk fun y ey => (hs.2 a (r.mem_ne e)).trans ey, r.hmemF, r.hab, r.hlf, r.hlm, ?_, ?_, ?_⟩, tk⟩
    · refine ⟨_, hn, fun j y u hy hu => ?_⟩
      rcases set_loc hu with ⟨rfl, rfl⟩ | ⟨hne, hu⟩
      · rw [hx] at hy
        cases hy
        exact ⟨cv, by simp, hv.tk tk⟩
      · obtain ⟨cu, e1, e2⟩ := f j y u hy hu
        exact ⟨cu, (if_neg fun q => hne (ok.names _ _ _ _ _ hx (q ▸ hy))).trans e1, e2.tk tk⟩
    · intro j y c hy
      obtain ⟨p, q, o, ov, g, d, f'⟩ := r.hown j y c hy
      exact ⟨p, q, o, ov, (hs.2 c (ok.own j y c hy).2.2).trans g, d, fun u hu => keep_cu tk (f' u (set_other hx hy (fun e => nomatch e) hu))⟩
    · intro j y c hy
      obtain ⟨o, ov, e1, d, f'⟩ := r.href j y c hy
      exact ⟨o, ov, e1, d, fun u hu => keep_cu tk (f' u (set_other hx hy (fun e => nomatch e) hu))⟩
  | own c =>
    obtain ⟨p, q, o, ov, g, d, f⟩ := r.hown i x c hx
    obtain ⟨a1, a2, a3⟩ := ok.own i x c hx
    refine wpAny_storeName_cell ok.fn a1 a2 ⟨o, g, d⟩ fun h' hc hs => ?_
    obtain ⟨o', g', d'⟩ := hc
    have tk : TK s.heap h' := fun b ob e im => by
      by_cases hb : b = c
      · subst hb
        rw [g] at e; cases e
        rcases im with ⟨_, _, _, q⟩ | ⟨_, _, q, _⟩ <;> rw [d] at q <;> cases q
      · exact (hs.2 b hb).trans e
    have fne : ∀ b ob, frz b = some ob → b ≠ c := fun b ob e z => by subst z; rw [p] at e; cases e
    have mne : ∀ b ob, σ.mem b = some ob → b ≠ c := fun b ob e z => by subst z; rw [q] at e; cases e
    refine ⟨⟨let ⟨_, _, e⟩ := r.same; ⟨h', _, by rw [e]⟩, r.hbase, r.hkeep, fun b o e => (hs.2 b (fne b o e)).trans (r.hfrz b o e), fun a o e => (r.hmem a o e).keep tk fun y ey => (hs.2 a (mne a o e)).trans ey, r.hmemF, r.hab, r.hlf, r.hlm, ?_, ?_, ?_⟩, tk⟩
    · obtain ⟨m, n, f'⟩ := r.hns
      exact ⟨m, n.sameBut hs (Ne.symm a3), fun j y u hy hu => keep_cu tk (f' j y u hy (set_other hx hy (fun e => nomatch e) hu))⟩
    · intro j y c' hy
      obtain ⟨p', q', o₂, ov', g₂, d₂, f'⟩ := r.hown j y c' hy
      by_cases hcc : c' = c
      · subst hcc
        have hij : i = j := ok.cells _ _ _ _ _ hx hy
        subst hij
        refine ⟨p', q', o', some cv, g', d', fun u hu => ?_⟩
        rcases set_loc hu with ⟨_, rfl⟩ | ⟨hne, hu⟩
        · exact ⟨cv, rfl, hv.tk tk⟩
        · exact absurd rfl hne
      · refine ⟨p', q', o₂, ov', (hs.2 c' hcc).trans g₂, d₂, fun u hu => ?_⟩
        exact keep_cu tk (f' u (set_other hx hy (fun e => by injection e with e; exact hcc e.symm) hu))
    · intro j y c' hy
      obtain ⟨o, ov, e1, d, f'⟩ := r.href j y c' hy
      exact ⟨o, ov, e1, d, fun u hu => keep_cu tk (f' u (set_other hx hy (fun e => nomatch e) hu))⟩
theorem s_bind {i : Nat} {x : Str} {k : VK} {v : V} {cv : Value} (ok : Γ.ok) (r : Rep G Γ frz σ s) (hx : Γ.vars[i]? = some (x, k)) (hk : ∀ c, k ≠ .ref c) (hv : RV s.heap cv v) :
    wpAny (model G.prog G.w) A (bindName Γ.env x cv) (fun _ s' => Rep G Γ frz (σ.set i v) s' ∧ TK s.heap s'.heap) NoE s :=
  wpAny_bindName (s_store ok r hx hk hv)
theorem s_unpack {n : Nat} {cv : Value} {vs : List V} {post : List Value → Shared → Prop} (hA : Rm A) (r : Rep G Γ frz σ s) (hv : RV s.heap cv (.tup vs)) (hn : vs.length = n)
    (k : ∀ cvs s₁, RVs s₁.heap cvs vs → Rep G Γ frz σ s₁ → TK s.heap s₁.heap → post cvs s₁) : wpAny (model G.prog G.w) A (unpackItems cv n none) post NoE s := by
  cases hv with
  | @tup a arr k' _ g rs =>
  have hz := rs.length
  simp only [Array.length_toList] at hz
  have e : n = arr.size := by lia
  rw [ e ]
  refine unpackItems_tuple hA.hd ⟨_, g, rfl, _, rfl⟩ fun h' hk => ?_
  have kk : ∀ b o, s.heap.get? b = some o → h'.get? b = some o := fun b o e => hk b o (Nat.ne_of_lt (Heap.lt_size e)) e
  exact k _ _ (rs.tk (.of kk)) (r.grow (tk := s.toks) kk) (.of kk)
end
inductive IterAt (h : Heap) : Obj → (Mem → Prop) → List V → Prop
  | list {o : Obj} {l : Addr} {i : Nat} {vs : List V} : o.cls = .type "list_iterator" → o.data = .fields #[.ref l, .int i 0] → IterAt h o (fun m => m l = some (.list vs)) (vs.drop i)
  | tup {o : Obj} {t : Addr} {i : Nat} {arr : Array Value} {n : Nat} {vs : List V} : o.cls = .type "tuple_iterator" → o.data = .fields #[.ref t, .int i 0] →
      h.get? t = some { cls := .type "tuple", data := .seq arr n } → RVs h arr.toList vs → IterAt h o (fun _ => True) (vs.drop i)
  | rng {x c : Int} {n : Nat} : IterAt h { cls := .type "range_iterator", dict := none, data := .fields #[rawInt x, rawInt n, rawInt c], slots := #[] } (fun _ => True) (rngFrom x c n)
  | str {o : Obj} {x : Tx} {t : Tok} {i : Nat} : o.cls = .type (strIterType (mkS x)) → o.data = .fields #[.str (mkS x) t, .int i 0] → IterAt h o (fun _ => True) ((x.drop i).map fun c => V.str [c])
theorem IterAt.tk {h h' : Heap} (k : TK h h') {o : Obj} {g : Mem → Prop} {vs : List V} (i : IterAt h o g vs) : IterAt h' o g vs := by
  cases i with
  | list a b => exact .list a b
  | tup a b c d => exact .tup a b (k _ _ c (.inl ⟨rfl, _, _, rfl⟩)) (d.tk k)
  | rng => exact .rng
  | str a b => exact .str a b
theorem not_imm {o : Obj} {n : String} (h : o.cls = .type n) (h1 : n ≠ "tuple") (h2 : n ≠ "range") : ¬ Imm o := fun q => by
  rcases q with ⟨q, _⟩ | ⟨q, _⟩ <;> rw [h] at q <;> injection q with q
  · exact h1 q
  · exact h2 q
theorem IterAt.notImm {h : Heap} {o : Obj} {g : Mem → Prop} {vs : List V} (i : IterAt h o g vs) : ¬ Imm o := by
  cases i with
  | list a b => exact not_imm a (by decide) (by decide)
  | tup a b c d => exact not_imm a (by decide) (by decide)
  | rng => exact not_imm rfl (by decide) (by decide)
  | str a b => exact not_imm a (by unfold strIterType; split <;> decide) (by unfold strIterType; split <;> decide)
section
variable {G : GS} {A : Around} {Γ : FE} {frz : Frz} {σ : St} {s : Shared}
noncomputable def NextPost (G : GS) (Γ : FE) (frz : Frz) (σ : St) (s : Shared) (it : Addr) (g : Mem → Prop) : List V → Option Value → Shared → Prop
  | [], none, s' => Rep G Γ frz σ s' ∧ TK s.heap s'.heap
  | v :: r, some cv, s' => RV s'.heap cv v ∧ Rep G Γ frz σ s' ∧ TK s.heap s'.heap ∧ ∃ o, s'.heap.get? it = some o ∧ IterAt s'.heap o g r
  | _, _, _ => False
theorem nx_item (r : Rep G Γ frz σ s) {it : Addr} {o : Obj} {g : Mem → Prop} {v : V} {vs : List V} {cv : Value} (d : Aside G Γ frz σ it) (ho : s.heap.get? it = some o) (ni : ¬ Imm o) {h' : Heap} {tk : Nat} (hs : Heap.SameBut it s.heap h')
    (k : TK s.heap h' → RV h' cv v ∧ ∃ o, h'.get? it = some o ∧ IterAt h' o g vs) : NextPost G Γ frz σ s it g (v :: vs) (some cv) { s with heap := h', toks := tk } := by
  obtain ⟨r', t⟩ := r.aside d ho ni (h' := h') (tk := tk) fun b o hb e => (hs.2 b hb).trans e
  exact ⟨(k t).1, r', t, (k t).2⟩
theorem nx_end (r : Rep G Γ frz σ s) {it : Addr} {o : Obj} {g : Mem → Prop} (d : Aside G Γ frz σ it) (ho : s.heap.get? it = some o) (ni : ¬ Imm o) {h' : Heap} (hs : Heap.ExtBut it s.heap h') : NextPost G Γ frz σ s it g [] none { s with heap := h' } :=
  r.aside d ho ni (h' := h') (tk := s.toks) hs
theorem drop_end {α β : Type} {l : List α} {i : Nat} {f : α → β} (h : ¬ i < l.length) : (l.drop i).map f = [] := by rw [List.drop_of_length_le (Nat.le_of_not_lt h)]; rfl
theorem nx_list (hA : Rm A) (r : Rep G Γ frz σ s) {it l : Addr} {o : Obj} {i : Nat} {vs : List V} (d : Aside G Γ frz σ it) (ho : s.heap.get? it = some o) (ni : ¬ Imm o) (a : o.cls = .type "list_iterator") (b : o.data = .fields #[.ref l, .int i 0]) (hg : σ.mem l = some (.list vs)) :
    wpAny (model G.prog G.w) A (pyNext (.ref it)) (NextPost G Γ frz σ s it (fun m => m l = some (.list vs)) (vs.drop i)) NoE s := by
  cases r.hmem l _ hg with
  | @list arr n _ e rv =>
  have hl : s.heap.IsList l arr := ⟨_, e, rfl, n, rfl⟩
  have hz := rv.length
  rw [Array.length_toList] at hz
  by_cases hi : i < vs.length
  · obtain ⟨cv, e1, e2⟩ := rv.get (i := i) (x := vs[i]) (List.getElem?_eq_getElem hi)
    rw [ List.drop_eq_getElem_cons hi ]
    refine wpAny_pyNext_list_item ⟨o, ho, a, b⟩ hl (x := cv) (by rw [ ← Array.getElem?_toList ]; exact e1) fun h' hit' hs => nx_item r d ho ni hs fun t => ⟨e2.tk t, ?_⟩
    exact hit'.elim fun o' q => ⟨o', q.1, .list q.2.1 q.2.2⟩
  · rw [ List.drop_of_length_le (Nat.le_of_not_lt hi) ]
    exact wpAny_pyNext_list_end hA.hd ⟨o, ho, a, b⟩ hl (Array.getElem?_eq_none (hz ▸ Nat.le_of_not_lt hi)) fun h' hs => nx_end r d ho ni hs
theorem nx_tup (hA : Rm A) (r : Rep G Γ frz σ s) {it l : Addr} {o : Obj} {i : Nat} {arr : Array Value} {n : Nat} {vs : List V} (d : Aside G Γ frz σ it) (ho : s.heap.get? it = some o) (ni : ¬ Imm o) (a : o.cls = .type "tuple_iterator") (b : o.data = .fields #[.ref l, .int i 0])
    (e : s.heap.get? l = some { cls := .type "tuple", data := .seq arr n }) (rv : RVs s.heap arr.toList vs) : wpAny (model G.prog G.w) A (pyNext (.ref it)) (NextPost G Γ frz σ s it (fun _ => True) (vs.drop i)) NoE s := by
  have hl : IsTup s.heap l arr := ⟨_, e, rfl, n, rfl⟩
  have hz := rv.length
  rw [Array.length_toList] at hz
  by_cases hi : i < vs.length
  · obtain ⟨cv, e1, e2⟩ := rv.get (i := i) (x := vs[i]) (List.getElem?_eq_getElem hi)
    rw [ List.drop_eq_getElem_cons hi ]
    refine next_tuple_item ⟨o, ho, a, b⟩ hl (x := cv) (by rw [ ← Array.getElem?_toList ]; exact e1) fun h' hit' hs => nx_item r d ho ni hs fun t => ⟨e2.tk t, ?_⟩
    exact hit'.elim fun o' q => ⟨o', q.1, .tup q.2.1 q.2.2 (t _ _ e (.inl ⟨rfl, _, _, rfl⟩)) (rv.tk t)⟩
  · rw [ List.drop_of_length_le (Nat.le_of_not_lt hi) ]
    exact next_tuple_end hA.hd ⟨o, ho, a, b⟩ hl (Array.getElem?_eq_none (hz ▸ Nat.le_of_not_lt hi)) fun h' hs => nx_end r d ho ni hs
theorem str_ty {x : Str} : strIterType x = "str_ascii_iterator" ∨ strIterType x = "str_iterator" := by
  unfold strIterType; split
  · exact .inl rfl
  · exact .inr rfl
theorem nx_str (hA : Rm A) (r : Rep G Γ frz σ s) {it : Addr} {o : Obj} {i : Nat} {x : Tx} {t : Tok} (d : Aside G Γ frz σ it) (ho : s.heap.get? it = some o) (ni : ¬ Imm o) (a : o.cls = .type (strIterType (mkS x))) (b : o.data = .fields #[.str (mkS x) t, .int i 0]) :
    wpAny (model G.prog G.w) A (pyNext (.ref it)) (NextPost G Γ frz σ s it (fun _ => True) ((x.drop i).map fun c => V.str [c])) NoE s := by
  have hx : ∀ j : Nat, (mkS x).cps[j]? = (x[j]?).map Char.toNat := fun j => by simp
  have ty := str_ty (x := mkS x)
  by_cases hi : i < x.length
  · have hc : (mkS x).cps[i]? = some (x[i]).toNat := by rw [hx, List.getElem?_eq_getElem hi]; rfl
    rw [List.drop_eq_getElem_cons hi, List.map_cons]
    have fin : ∀ h', (∃ o, h'.get? it = some o ∧ o.cls = .type (strIterType (mkS x)) ∧ o.data = .fields #[.str (mkS x) t, .int ((i + 1 : Nat) : Int) 0]) → Heap.SameBut it s.heap h' →
        NextPost G Γ frz σ s it (fun _ => True) (V.str [x[i]] :: (x.drop (i + 1)).map fun c => V.str [c]) (some (.str ⟨#[(x[i]).toNat]⟩ s.toks)) { s with heap := h', toks := s.toks + 1 } := fun h' hit' hs =>
      nx_item r d ho ni hs fun _ => ⟨.str [x[i]] _, hit'.elim fun o' q => ⟨o', q.1, .str q.2.1 q.2.2⟩⟩
    rcases ty with st | st <;> rw [st] at a fin
    · exact wpAny_pyNext_ascii_item ⟨o, ho, a, b⟩ hc fun h' hit' hs => fin h' hit' hs
    · exact wpAny_pyNext_wide_item ⟨o, ho, a, b⟩ hc fun h' hit' hs => fin h' hit' hs
  · have hc : (mkS x).cps[i]? = none := by rw [hx, List.getElem?_eq_none (Nat.le_of_not_lt hi)]; rfl
    rw [drop_end hi]
    rcases ty with st | st <;> rw [st] at a
    · exact wpAny_pyNext_ascii_end hA.hd ⟨o, ho, a, b⟩ hc fun h' hs => nx_end r d ho ni hs
    · exact wpAny_pyNext_wide_end hA.hd ⟨o, ho, a, b⟩ hc fun h' hs => nx_end r d ho ni hs
theorem iter_next (hA : Rm A) (r : Rep G Γ frz σ s) {it : Addr} {o : Obj} {g : Mem → Prop} {vs : List V} (d : Aside G Γ frz σ it) (ho : s.heap.get? it = some o) (i : IterAt s.heap o g vs) (hg : g σ.mem) :
    wpAny (model G.prog G.w) A (pyNext (.ref it)) (NextPost G Γ frz σ s it g vs) NoE s := by
  have ni := i.notImm
  cases i with
  | list a b => exact nx_list hA r d ho ni a b hg
  | tup a b e rv => exact nx_tup hA r d ho ni a b e rv
  | @rng x c n =>
    cases n with
    | zero => exact wpAny_pyNext_range_end hA.hd ho (Int.le_refl 0) fun h' hs => nx_end r d ho ni hs
    | succ n =>
      refine wpAny_pyNext_range_item ho (by omega) fun h' hit' hs => nx_item r d ho ni hs fun _ => ⟨.int _ _, _, hit', ?_⟩
      rw [ show (((n + 1 : Nat) : Int) - 1) = (n : Int) by grind ]
      exact .rng
  | str a b => exact nx_str hA r d ho ni a b
noncomputable def MakePost (G : GS) (Γ : FE) (frz : Frz) (σ : St) (s : Shared) (g : Mem → Prop) (vs : List V) : Value → Shared → Prop :=
  fun cv s' => ∃ it o, cv = .ref it ∧ Rep G Γ frz σ s' ∧ TK s.heap s'.heap ∧ Aside G Γ frz σ it ∧ s'.heap.get? it = some o ∧ IterAt s'.heap o g vs
theorem make_push (r : Rep G Γ frz σ s) {o : Obj} {g : Mem → Prop} {vs : List V} (fr : o.isFreed = false) (i : IterAt s.heap o g vs) : MakePost G Γ frz σ s g vs (.ref s.heap.objs.size) { s with heap := s.heap.push o } := by
  have k : ∀ b ob, s.heap.get? b = some ob → (s.heap.push o).get? b = some ob := fun b ob e => Heap.get?_push_of_some _ e
  exact ⟨_, o, rfl, r.grow (tk := s.toks) k, .of k, r.asideNew (Nat.le_refl _), Heap.get?_push_size _ fr, i.tk (.of k)⟩
theorem rng_size_pos (a b : Int) {c : Int} (h0 : 0 < c) : 0 ≤ Builtin.Range.rangeSize a b c := by
  unfold Builtin.Range.rangeSize
  rw [ if_pos h0 ]
  split
  · have := Int.ediv_nonneg (a := b - a - 1) (b := c) (by lia) (by lia)
    omega
  · grind
theorem rng_small {a b c : Int} (ha : tiny a) (hb : tiny b) (hc : tiny c) (h0 : 0 < c) : Builtin.Range.small a b c = true := by
  have h1 := rng_size_pos a b h0
  have h2 : Builtin.Range.rangeSize a b c ≤ 2000000000 := by
    unfold Builtin.Range.rangeSize
    rw [if_pos h0]
    unfold tiny at *
    split
    · have : (b - a - 1) / c ≤ b - a - 1 := by
        have := Int.ediv_le_self (a := b - a - 1) c (by lia)
        omega
      grind
    · grind
  unfold tiny at *
  unfold Builtin.Range.small Builtin.Range.rangeFitsLong
  simp only [Bool.and_eq_true, Bool.or_eq_true, decide_eq_true_eq, beq_iff_eq]
  refine ⟨⟨⟨⟨⟨?_, ?_⟩, ⟨?_, ?_⟩⟩, ⟨?_, ?_⟩⟩, ⟨?_, ?_⟩⟩, .inr ?_⟩ <;> first | grind | skip
  rw [if_pos h0]
  simp only [Bool.and_eq_true, decide_eq_true_eq]
  grind
theorem iter_make (r : Rep G Γ frz σ s) {cv : Value} {v : V} (hv : RV s.heap cv v) {K : List V → (Mem → Prop) → Prop} (w : wpItems σ.mem v K) :
    ∃ vs g, K vs g ∧ wpAny (model G.prog G.w) A (pyIter cv) (MakePost G Γ frz σ s g vs) NoE s := by
  cases hv with
  | none => exact w.elim
  | bool => exact w.elim
  | int => exact w.elim
  | flt => exact w.elim
  | str x t => exact ⟨_, _, w.2, wpAny_pyIter_strU (make_push r rfl (.str (i := 0) rfl rfl))⟩
  | tup e rv => exact ⟨_, _, w.2, iter_tuple ⟨_, e, rfl, _, rfl⟩ (make_push r rfl (.tup (i := 0) rfl rfl e rv))⟩
  | @rng l a b c t u v e =>
    obtain ⟨h1, h2, h3, h4, w⟩ := w
    refine ⟨_, _, w, wpAny_pyIter_range e (rng_small h1 h2 h3 h4) ?_⟩
    have hn : (Builtin.Range.rangeSize a b c) = ((Builtin.Range.rangeSize a b c).toNat : Int) := (Int.toNat_of_nonneg (rng_size_pos a b h4)).symm
    rw [ hn ]
    exact make_push r rfl .rng
  | obj a =>
    obtain ⟨vs, hm, _, w⟩ := w
    cases r.hmem a _ hm with
    | @list arr n _ e rv => exact ⟨_, _, w, wpAny_pyIter_list ⟨_, e, rfl, n, rfl⟩ (make_push r rfl (.list (i := 0) rfl rfl))⟩
theorem letGo_none {E : Value → Shared → Prop} {target : Expr} {it : Addr} {cv : Value} {o : Obj} {g : Mem → Prop} {vs : List V} {post : Unit → Shared → Prop} (ho : s.heap.get? it = some o) (i : IterAt s.heap o g vs) (q : post () s) :
    wpAny (model G.prog G.w) A (letOwnedTupleGo target (.ref it) cv) post E s := by
  have hh : ∃ n fs, o.cls = .type n ∧ o.data = .fields fs ∧ (["enumerate", "zip", "dict_itemiterator", "dict_reverseitemiterator", "odict_iterator", "itertools.zip_longest", "itertools.pairwise"].contains n) = false := by
    cases i with
    | list a b => exact ⟨_, _, a, b, by decide⟩
    | tup a b _ _ => exact ⟨_, _, a, b, by decide⟩
    | rng => exact ⟨_, _, rfl, rfl, by decide⟩
    | str a b => refine ⟨_, _, a, b, ?_⟩; unfold strIterType; split <;> decide
  obtain ⟨n, fs, hc, hd, hn⟩ := hh
  have main : wpAny (model G.prog G.w) A (do
    let (.ref r, .ref a) := (Value.ref it, cv) | return
    let o ← load r
    match o.cls, o.data with
    | .type n, .fields vs =>
      if ["enumerate", "zip", "dict_itemiterator", "dict_reverseitemiterator", "odict_iterator", "itertools.zip_longest", "itertools.pairwise"].contains n && vs[0]? == some (rawInt a) then
        rule "for.unpacks-the-owned-tuple"
        updateField r 0 .none
    | _, _ => pure ()) post E s := by
    cases cv with
    | ref b =>
      refine wpAny_bind (wpAny_load ho ?_)
      rw [ hc, hd ]
      dsimp only
      rw [ hn, Bool.false_and, if_neg (by decide) ]
      exact wpAny_pure q
    | _ => exact wpAny_pure q
  cases target <;> first | exact main | exact wpAny_pure q
end
theorem chkIs_nil {C : SC} {xs : List Expr} (h : chkIs C [] xs = true) : xs = [] := by
  cases xs with
  | nil => rfl
  | cons => cases h
theorem chkIs_cons {C : SC} {i : Nat} {is : List Nat} {xs : List Expr} (h : chkIs C (i :: is) xs = true) : ∃ n p es, xs = .Name n p :: es ∧ C.isW i n = true ∧ chkIs C is es = true := by
  cases xs with
  | nil => cases h
  | cons e es =>
    exact isName_e (e := e) (K := fun x => C.isW i x && chkIs C is es) (M := fun e => ∃ n p es', e :: es = .Name n p :: es' ∧ C.isW i n = true ∧ chkIs C is es' = true) h fun n p q => ⟨n, p, es, rfl, and_e q⟩
section
variable {G : GS} {A : Around} {Γ : FE} {frz : Frz} {σ : St} {s : Shared}
theorem isW_of {C : SC} {i : Nat} {x : Str} (hC : C.ok G Γ) (h : C.isW i x = true) : ∃ k, Γ.vars[i]? = some (x, k) ∧ ∀ c, k ≠ .ref c := by
  unfold SC.isW at h
  split at h
  · rename_i y r e
    simp only [Bool.and_eq_true, beq_iff_eq, Bool.not_eq_true'] at h
    obtain ⟨rfl, rfl⟩ := h
    obtain ⟨k, a, b⟩ := hC.vars _ _ _ e
    exact ⟨k, a, b rfl⟩
  · cases h
noncomputable def BindsAt (G : GS) (A : Around) (Γ : FE) (f : Value → Sem Unit) (i : Nat) : Prop :=
  ∀ frz σ s v cv, Rep G Γ frz σ s → RV s.heap cv v → wpAny (model G.prog G.w) A (f cv) (fun _ s' => Rep G Γ frz (σ.set i v) s' ∧ TK s.heap s'.heap) NoE s
inductive Bs (G : GS) (A : Around) (Γ : FE) : List (Value → Sem Unit) → List Nat → Prop
  | nil : Bs G A Γ [] []
  | cons {f i fs is} : BindsAt G A Γ f i → Bs G A Γ fs is → Bs G A Γ (f :: fs) (i :: is)
theorem Bs.length {fs : List (Value → Sem Unit)} {is : List Nat} (b : Bs G A Γ fs is) : fs.length = is.length := by
  induction b with
  | nil => rfl
  | cons _ _ ih => simp [ih]
theorem Bs.append {fs fs' : List (Value → Sem Unit)} {is is' : List Nat} (b : Bs G A Γ fs is) (c : Bs G A Γ fs' is') : Bs G A Γ (fs ++ fs') (is ++ is') := by
  induction b with
  | nil => exact c
  | cons h _ ih => exact .cons h ih
theorem Bs.reverse {fs : List (Value → Sem Unit)} {is : List Nat} (b : Bs G A Γ fs is) : Bs G A Γ fs.reverse is.reverse := by
  induction b with
  | nil => exact .nil
  | cons h _ ih => rw [List.reverse_cons, List.reverse_cons]; exact ih.append (.cons h .nil)
theorem RVs.reverse {h : Heap} : ∀ {cvs : List Value} {vs : List V}, RVs h cvs vs → RVs h cvs.reverse vs.reverse
  | _, [], r => r.e0 .nil
  | _, _ :: _, r => r.eC (N := fun cs => RVs h cs.reverse _) fun _ _ a b => by rw [List.reverse_cons, List.reverse_cons]; exact b.reverse.append (.one a)
theorem s_bindsF {fs : List (Value → Sem Unit)} {is : List Nat} (b : Bs G A Γ fs is) : ∀ {cvs : List Value} {vs : List V} {σ : St} {s : Shared} {post : Unit → Shared → Prop}, Rep G Γ frz σ s → RVs s.heap cvs vs → is.length = vs.length →
    (∀ s', Rep G Γ frz (σ.setAll is vs) s' → TK s.heap s'.heap → post () s') → wpAny (model G.prog G.w) A (assignInOrder fs cvs) post NoE s := by
  induction b with
  | nil =>
    intro cvs vs σ s post r hv hl k
    cases vs with
    | nil => cases hv; exact wpAny_pure (k s r (.refl _))
    | cons => simp at hl
  | cons h _ ih =>
    intro cvs vs σ s post r hv hl k
    cases hv with
    | nil => simp at hl
    | cons a rs =>
      refine wpAny_bind (wpAny_holding (wpAny_mono (h _ _ _ _ _ r a) (fun _ s₁ ⟨r₁, t₁⟩ => ?_) fun _ _ x => x))
      exact ih r₁ (rs.tk t₁) (by simpa using hl) fun s' r' t' => k s' r' (t₁.trans t')
theorem assign_binds {C : SC} {i : Nat} {x : Str} {pos : Pos} (ok : Γ.ok) (hC : C.ok G Γ) (h : C.isW i x = true) : BindsAt G A Γ (assign (.Name x pos) Γ.env) i := fun frz σ s v cv r hv => by
  obtain ⟨k, hx, hk⟩ := isW_of hC h
  rw [arm_assign_Name]
  exact wpAny_bind (wpAny_standAt (s_bind ok r hx hk hv))
theorem bind_binds {C : SC} {i : Nat} {x : Str} (ok : Γ.ok) (hC : C.ok G Γ) (h : C.isW i x = true) : BindsAt G A Γ (bindName Γ.env x) i := fun frz σ s v cv r hv => by
  obtain ⟨k, hx, hk⟩ := isW_of hC h
  exact s_bind ok r hx hk hv
theorem is_names {C : SC} (ok : Γ.ok) (hC : C.ok G Γ) : ∀ {is : List Nat} {xs : List Expr}, chkIs C is xs = true → Bs G A Γ ((assignEach xs Γ.env).map (·.2)) is ∧ (assignEach xs Γ.env).findIdx? (·.1) = none
  | [], xs, h => by rw [ chkIs_nil h ]; exact ⟨.nil, rfl⟩
  | i :: is, xs, h => by
    obtain ⟨n, pos, es, rfl, h1, h2⟩ := chkIs_cons h
    obtain ⟨a, b⟩ := is_names ok hC h2
    have e : assignEach (.Name n pos :: es) Γ.env = (false, assign (.Name n pos) Γ.env) :: assignEach es Γ.env := rfl
    refine ⟨?_, ?_⟩
    · rw [ e ]; exact .cons (assign_binds ok hC h1) a
    · rw [ e, List.findIdx?_cons, b ]; rfl
noncomputable def nameIf (f : Str → Pos → Bool) : Expr → Option Str
  | .Name id pos => if f id pos then some id else none
  | _ => none
theorem names_bs {C : SC} (ok : Γ.ok) (hC : C.ok G Γ) (f : Str → Pos → Bool) : ∀ {is : List Nat} {xs : List Expr}, chkIs C is xs = true → (xs.filterMap (nameIf f)).length = xs.length → Bs G A Γ ((xs.filterMap (nameIf f)).map (bindName Γ.env)) is
  | [], xs, h, _ => by rw [ chkIs_nil h ]; exact .nil
  | i :: is, xs, h, hf => by
    obtain ⟨n, pos, es, rfl, h1, h2⟩ := chkIs_cons h
    have := List.length_filterMap_le (nameIf f) es
    rw [List.filterMap_cons] at hf ⊢
    unfold nameIf at hf ⊢
    dsimp only at hf ⊢
    by_cases c : f n pos = true
    · rw [if_pos c] at hf ⊢
      have hh : (es.filterMap (nameIf f)).length + 1 = es.length + 1 := hf
      exact .cons (bind_binds ok hC h1) (names_bs ok hC f h2 (by omega))
    · rw [if_neg c] at hf ⊢
      have hh : (es.filterMap (nameIf f)).length = es.length + 1 := hf
      omega
theorem s_nameT {C : SC} {i : Nat} {e : Expr} (ok : Γ.ok) (hC : C.ok G Γ) (h : (isName e fun n => C.isW i n) = true) {v : V} {cv : Value} {Q : St → Prop} {σ : St} (w : Q (σ.set i v))
    (r : Rep G Γ frz σ s) (hv : RV s.heap cv v) : wpAny (model G.prog G.w) A (assign e Γ.env cv) (PU G Γ frz s Q) NoE s :=
  isName_e (e := e) (K := fun n => C.isW i n) (M := fun e => wpAny (model G.prog G.w) A (assign e Γ.env cv) (PU G Γ frz s Q) NoE s) h fun n p q => wpAny_mono (assign_binds ok hC q _ _ _ _ _ r hv) (fun _ s₁ ⟨a, b⟩ => ⟨_, a, b, w⟩) fun _ _ x => x
theorem s_tupT {C : SC} {is : List Nat} {e : Expr} (hA : Rm A) (ok : Γ.ok) (hC : C.ok G Γ) (h : (isTup e fun xs => nodupN is && chkIs C is xs) = true) {v : V} {cv : Value} {Q : St → Prop} {σ : St} (w : match v with | .tup vs => vs.length = is.length ∧ Q (σ.setAll is vs) | _ => False)
    (r : Rep G Γ frz σ s) (hv : RV s.heap cv v) : wpAny (model G.prog G.w) A (assign e Γ.env cv) (PU G Γ frz s Q) NoE s :=
  isTup_e (e := e) (K := fun xs => nodupN is && chkIs C is xs) (M := fun e => wpAny (model G.prog G.w) A (assign e Γ.env cv) (PU G Γ frz s Q) NoE s) h fun xs k p q => by
    obtain ⟨b1, b2⟩ := is_names (A := A) ok hC (and_e q).2
    obtain ⟨vs, rfl, hl, w⟩ := tup_inv w
    rw [arm_assign_Tuple]
    refine wpAny_bind (wpAny_standAt ?_)
    unfold unpack
    rw [ b2 ]
    have hn := b1.length
    rw [List.length_map] at hn
    exact wpAny_bind (wpAny_holding (s_unpack hA r hv (hl.trans hn.symm) fun cvs s₁ rs r₁ t₁ => s_bindsF b1 r₁ rs hl.symm fun s' r' t' => ⟨_, r', t₁.trans t', w⟩))
theorem s_bindIs {C : SC} {one : Bool} {is : List Nat} {e : Expr} (hA : Rm A) (ok : Γ.ok) (hC : C.ok G Γ) (h : chkBind C one is e = true) {v : V} {cv : Value} {Q : St → Prop} {σ : St} (w : bindIs one is v Q σ)
    (r : Rep G Γ frz σ s) (hv : RV s.heap cv v) : wpAny (model G.prog G.w) A (assign e Γ.env cv) (PU G Γ frz s Q) NoE s :=
  match one, is, h, w with
  | true, [], _, w => False.elim w
  | true, [_], h, w => s_nameT ok hC h w r hv
  | true, _ :: _ :: _, _, w => False.elim w
  | false, _, h, w => s_tupT hA ok hC h w r hv
end
theorem nodupS_of : ∀ {xs : List Str}, nodupS xs = true → xs.Nodup
  | [], _ => List.nodup_nil
  | x :: xs, h => by
    simp only [nodupS, Bool.and_eq_true, Bool.not_eq_true', List.contains_eq_mem, decide_eq_false_iff_not] at h
    exact List.nodup_cons.mpr ⟨h.1, nodupS_of h.2⟩
theorem lookup_of_mem {β : Type} {x : Str} {k : β} : ∀ {l : List (Str × β)}, (l.map (·.1)).Nodup → (x, k) ∈ l → l.lookup x = some k
  | [], _, h => by cases h
  | (y, d) :: l, hn, h => by
    rw [List.map_cons, List.nodup_cons] at hn
    rcases List.mem_cons.mp h with e | h
    · cases e; simp [List.lookup]
    · have : x ≠ y := fun q => hn.1 (List.mem_map.mpr ⟨(x, k), h, q⟩)
      rw [List.lookup_cons, beq_eq_false_iff_ne.mpr this]
      exact lookup_of_mem hn.2 h
theorem mem_locL {names : List (Str × NameKind)} {x : Str} (h : x ∈ locL names) : (x, NameKind.local) ∈ names := by
  unfold locL at h
  obtain ⟨⟨y, k⟩, h1, h2⟩ := List.mem_filterMap.mp h
  split at h2
  · rename_i c
    cases h2
    simp only [Bool.and_eq_true, beq_iff_eq] at c
    rw [ ← c.1 ]; exact h1
  · exact (Option.some_ne_none _ h2.symm).elim
theorem mem_freeL {names : List (Str × NameKind)} {x : Str} (h : x ∈ freeL names) : (x, NameKind.free) ∈ names := by
  unfold freeL at h
  obtain ⟨⟨y, k⟩, h1, h2⟩ := List.mem_filterMap.mp h
  split at h2
  · rename_i c
    cases h2
    rw [beq_iff_eq] at c
    rw [ ← c ]; exact h1
  · exact (Option.some_ne_none _ h2.symm).elim
theorem locL_sub : ∀ names : List (Str × NameKind), (locL names).Sublist (names.map (·.1))
  | [] => .slnil
  | (x, k) :: r => by
    unfold locL
    rw [List.filterMap_cons, List.map_cons]
    split
    · exact (locL_sub r).cons _
    · rename_i b e
      split at e
      · cases e; exact (locL_sub r).cons_cons _
      · cases e
theorem freeL_sub : ∀ names : List (Str × NameKind), (freeL names).Sublist (names.map (·.1))
  | [] => .slnil
  | (x, k) :: r => by
    unfold freeL
    rw [List.filterMap_cons, List.map_cons]
    split
    · exact (freeL_sub r).cons _
    · rename_i b e
      split at e
      · cases e; exact (freeL_sub r).cons_cons _
      · cases e
noncomputable def capCells (env : Env) (names : List (Str × NameKind)) : List (Str × Addr) := ((freeL names).map fun x => (x, (env.cells.lookup x).getD 0)).reverse
theorem closure_loopC {env : Env} : ∀ (names : List (Str × NameKind)) (acc : List (Str × Addr)), (∀ x ∈ freeL names, (env.cells.lookup x).isSome = true) →
    (forIn (m := Sem) names acc fun p cs => (if p.2 == NameKind.free then (do let a ← cellOf env p.1; pure (ForInStep.yield ((p.1, a) :: cs))) else pure (ForInStep.yield cs))) = pure (capCells env names ++ acc)
  | [], acc, _ => by rw [List.forIn_nil]; rfl
  | (x, k) :: r, acc, h => by
    rw [List.forIn_cons]
    cases hk : k == NameKind.free with
    | true =>
      have e : freeL ((x, k) :: r) = x :: freeL r := by unfold freeL; rw [List.filterMap_cons]; simp [hk]
      rw [e] at h
      have hx := h x List.mem_cons_self
      obtain ⟨c, hc0⟩ := Option.isSome_iff_exists.mp hx
      have hc : cellOf env x = pure c := by unfold cellOf; rw [hc0]
      simp only [hk, if_true, hc, pure_bind]
      rw [closure_loopC r _ fun y hy => h y (List.mem_cons_of_mem _ hy)]
      unfold capCells
      rw [e, List.map_cons, List.reverse_cons, hc0, List.append_assoc]; rfl
    | false =>
      have e : freeL ((x, k) :: r) = freeL r := by unfold freeL; rw [List.filterMap_cons]; simp [hk]
      rw [e] at h
      simp only [hk, Bool.false_eq_true, if_false, pure_bind]
      rw [closure_loopC r _ h]
      unfold capCells; rw [e]
theorem closure_cap {scope : Scope} {env : Env} (h : ∀ x ∈ freeL scope.names, (env.cells.lookup x).isSome = true) : closureFor scope env = pure (capCells env scope.names) := by
  unfold closureFor
  have := closure_loopC scope.names [] h
  simpa using this
theorem cap_lookup {env : Env} {names : List (Str × NameKind)} (hn : (freeL names).Nodup) {x : Str} (hx : x ∈ freeL names) : (capCells env names).lookup x = some ((env.cells.lookup x).getD 0) := by
  have hf : ((fun p : Str × Addr => p.1) ∘ fun x => (x, (env.cells.lookup x).getD 0)) = id := rfl
  refine lookup_of_mem ?_ ?_
  · unfold capCells
    rw [List.map_reverse, List.map_map, hf, List.map_id]
    exact (List.reverse_perm _).nodup_iff.mpr hn
  · unfold capCells
    rw [List.mem_reverse]
    exact List.mem_map.mpr ⟨x, hx, rfl⟩
section
variable {G : GS} {A : Around} {Γ : FE} {frz : Frz} {σ : St} {s : Shared} {C : SC}
noncomputable def compVars (env : Env) (names : List (Str × NameKind)) : List (Str × VK) := (locL names).map (·, .loc) ++ (freeL names).map fun x => (x, .ref ((env.cells.lookup x).getD 0))
noncomputable def compFE (Γ : FE) (sc : Scope) (L : Addr) : FE := ⟨compEnvC sc (capCells Γ.env sc.names) L Γ.env, compVars Γ.env sc.names⟩
theorem cap_get : ∀ {caps : List Nat} {xs : List Str}, capsOk C caps xs = true → caps.length = xs.length ∧ ∀ (j : Nat) x, xs[j]? = some x → ∃ i, caps[j]? = some i ∧ C.is i x = true ∧ C.cells.contains x = true
  | [], xs, h => by
    cases xs with
    | nil => exact ⟨rfl, fun j x e => by simp at e⟩
    | cons => cases h
  | i :: is, xs, h => by
    cases xs with
    | nil => cases h
    | cons x xs =>
      replace h : (C.is i x && C.cells.contains x && capsOk C is xs) = true := h
      simp only [Bool.and_eq_true] at h
      obtain ⟨a, b⟩ := cap_get h.2
      refine ⟨by simp [a], fun j y e => ?_⟩
      cases j with
      | zero => simp only [List.getElem?_cons_zero, Option.some.injEq] at e; subst e; exact ⟨i, rfl, h.1⟩
      | succ j => exact b j y (by simpa using e)
theorem cap_cell (ok : Γ.ok) (hC : C.ok G Γ) {i : Nat} {x : Str} (h : C.is i x = true) (hc : C.cells.contains x = true) :
    ∃ c, Γ.env.cells.lookup x = some c ∧ (Γ.vars[i]? = some (x, .own c) ∨ Γ.vars[i]? = some (x, .ref c)) := by
  obtain ⟨k, hk⟩ := is_of hC h
  cases k with
  | loc => exact absurd hk (hC.cells _ _ (List.contains_iff_mem.mp hc))
  | own c => exact ⟨c, (ok.own _ _ _ hk).2.1, .inl hk⟩
  | ref c => exact ⟨c, (ok.ref _ _ _ hk).2, .inr hk⟩
structure CompOk (C : SC) (sc : Scope) (n : Nat) (caps : List Nat) : Prop where
  kind : sc.kind = .function
  len : (locL sc.names).length = n
  caps : capsOk C caps (freeL sc.names) = true
  nd : (sc.names.map (·.1)).Nodup
  all : ∀ p ∈ sc.names, (p.2 = .local ∨ p.2 = .free ∨ p.2 = .globalImplicit) ∧ (p.1 == Str.ofString "__debug__") = false ∧ (p.1 == Str.ofString "__classdict__") = false
theorem compOk_of {sc : Scope} {n : Nat} {caps : List Nat} (h : compOk C sc n caps = true) : CompOk C sc n caps := by
  unfold compOk at h
  simp only [Bool.and_eq_true, beq_iff_eq, List.all_eq_true, Bool.or_eq_true, Bool.not_eq_true'] at h
  exact ⟨h.1.1.1.1, h.1.1.1.2, h.1.1.2, nodupS_of h.1.2, fun p hp => ⟨by rcases (h.2 p hp).1.1 with (q | q) | q <;> simp [q], (h.2 p hp).1.2, (h.2 p hp).2⟩⟩
theorem comp_free_cells (ok : Γ.ok) (hC : C.ok G Γ) {sc : Scope} {n : Nat} {caps : List Nat} (h : CompOk C sc n caps) : ∀ x ∈ freeL sc.names, (Γ.env.cells.lookup x).isSome = true := fun x hx => by
  obtain ⟨j, hj, e⟩ := List.getElem_of_mem hx
  obtain ⟨i, _, h1, h2⟩ := (cap_get h.caps).2 j x (by rw [List.getElem?_eq_getElem hj, e])
  obtain ⟨c, hc, _⟩ := cap_cell ok hC h1 h2
  rw [hc]; rfl
theorem relabel_free {env : Env} {x : Str} : ∀ {names : List (Str × NameKind)}, names.lookup x = some .free →
    (names.map fun (n, k) => if (k == NameKind.free && env.scope.kind == .function && env.kindOf n == some .cell) then (n, NameKind.cell) else (n, k)).lookup x = some .cell ∨
    (names.map fun (n, k) => if (k == NameKind.free && env.scope.kind == .function && env.kindOf n == some .cell) then (n, NameKind.cell) else (n, k)).lookup x = some .free
  | [], h => by cases h
  | (n, k) :: r, h => by
    rw [ List.map_cons ]
    simp only [ List.lookup_cons ] at h
    cases hx : x == n with
    | true =>
      rw [hx] at h; cases h
      dsimp only
      split
      · left; rw [List.lookup_cons, hx]
      · right; rw [List.lookup_cons, hx]
    | false =>
      rw [hx] at h
      have ih := relabel_free (env := env) h
      dsimp only
      split <;> (rw [ List.lookup_cons, hx ]; exact ih)
theorem relabel_glob {env : Env} {x : Str} : ∀ {names : List (Str × NameKind)}, names.lookup x = some .globalImplicit →
    (names.map fun (n, k) => if (k == NameKind.free && env.scope.kind == .function && env.kindOf n == some .cell) then (n, NameKind.cell) else (n, k)).lookup x = some .globalImplicit
  | [], h => by cases h
  | (n, k) :: r, h => by
    rw [ List.map_cons ]
    simp only [ List.lookup_cons ] at h
    cases hx : x == n with
    | true =>
      rw [hx] at h; cases h
      dsimp only
      rw [if_neg (by simp), List.lookup_cons, hx]
    | false =>
      rw [hx] at h
      have ih := relabel_glob (env := env) h
      dsimp only
      split <;> (rw [ List.lookup_cons, hx ]; exact ih)
theorem cvg {env : Env} {names : List (Str × NameKind)} {i : Nat} {x : Str} {k : VK} (h : (compVars env names)[i]? = some (x, k)) :
    (k = .loc ∧ (locL names)[i]? = some x) ∨ (∃ j, i = (locL names).length + j ∧ (freeL names)[j]? = some x ∧ k = .ref ((env.cells.lookup x).getD 0)) := by
  unfold compVars at h
  by_cases hi : i < (locL names).length
  · rw [List.getElem?_append_left (by simpa using hi), List.getElem?_map, Option.map_eq_some_iff] at h
    obtain ⟨y, a, b⟩ := h
    cases b; exact .inl ⟨rfl, a⟩
  · rw [List.getElem?_append_right (by simpa using hi), List.length_map, List.getElem?_map, Option.map_eq_some_iff] at h
    obtain ⟨y, a, b⟩ := h
    cases b; exact .inr ⟨_, by omega, a, rfl⟩
theorem comp_ok (ok : Γ.ok) (hC : C.ok G Γ) {sc : Scope} {n : Nat} {caps : List Nat} (h : CompOk C sc n caps) (L : Addr) : (compFE Γ sc L).ok := by
  have hloc : ∀ x, x ∈ locL sc.names → sc.names.lookup x = some .local := fun x hx => lookup_of_mem h.nd (mem_locL hx)
  have hfree : ∀ x, x ∈ freeL sc.names → sc.names.lookup x = some .free := fun x hx => lookup_of_mem h.nd (mem_freeL hx)
  have ndl := h.nd.sublist (locL_sub sc.names)
  have ndf := h.nd.sublist (freeL_sub sc.names)
  refine ⟨h.kind, ok.glb, ok.bui, ?_, ?_, ?_, ?_, ?_, ?_⟩
  · intro i x hx
    rcases cvg hx with ⟨_, a⟩ | ⟨j, _, _, e⟩
    · exact lookup_relabel_local (hloc x (List.mem_of_getElem? a))
    · cases e
  · intro i x c hx
    rcases cvg hx with ⟨e, _⟩ | ⟨j, _, _, e⟩ <;> cases e
  · intro i x c hx
    rcases cvg hx with ⟨e, _⟩ | ⟨j, _, a, e⟩
    · cases e
    · cases e
      have hm := List.mem_of_getElem? a
      refine ⟨relabel_free (hfree x hm), ?_⟩
      exact cap_lookup ndf hm
  · intro i j x k k' hx hy
    rcases cvg hx with ⟨_, a⟩ | ⟨i', rfl, a, _⟩ <;> rcases cvg hy with ⟨_, b⟩ | ⟨j', rfl, b, _⟩
    · obtain ⟨hi, e1⟩ := List.getElem?_eq_some_iff.mp a
      exact (List.getElem?_inj hi ndl).mp (a.trans b.symm)
    · have := (hloc x (List.mem_of_getElem? a)).symm.trans (hfree x (List.mem_of_getElem? b)); exact absurd this (by decide)
    · have := (hloc x (List.mem_of_getElem? b)).symm.trans (hfree x (List.mem_of_getElem? a)); exact absurd this (by decide)
    · obtain ⟨hi, e1⟩ := List.getElem?_eq_some_iff.mp a
      rw [(List.getElem?_inj hi ndf).mp (a.trans b.symm)]
  · intro i j x y c hx
    rcases cvg hx with ⟨e, _⟩ | ⟨_, _, _, e⟩ <;> cases e
  · intro i x k hx
    rcases cvg hx with ⟨_, a⟩ | ⟨j, _, a, _⟩
    · exact (h.all _ (mem_locL (List.mem_of_getElem? a))).2
    · exact (h.all _ (mem_freeL (List.mem_of_getElem? a))).2
theorem comp_sc (ok : Γ.ok) (hC : C.ok G Γ) {sc : Scope} {n : Nat} {caps : List Nat} (h : CompOk C sc n caps) (L : Addr) : (compSC C sc).ok G (compFE Γ sc L) := by
  have hfree : ∀ x, x ∈ freeL sc.names → sc.names.lookup x = some .free := fun x hx => lookup_of_mem h.nd (mem_freeL hx)
  refine ⟨?_, hC.fns, hC.meths, ?_, ?_⟩
  · intro i x hx e
    rcases cvg e with ⟨_, a⟩ | ⟨_, _, _, e⟩
    · have := (lookup_of_mem h.nd (mem_locL (List.mem_of_getElem? a))).symm.trans (hfree x hx); exact absurd this (by decide)
    · cases e
  · intro i x r hx
    replace hx : ((locL sc.names).map (·, false) ++ (freeL sc.names).map (·, true))[i]? = some (x, r) := hx
    by_cases hi : i < (locL sc.names).length
    · rw [List.getElem?_append_left (by simpa using hi), List.getElem?_map, Option.map_eq_some_iff] at hx
      obtain ⟨y, a, b⟩ := hx
      cases b
      refine ⟨.loc, ?_, fun _ c q => by cases q⟩
      show (compVars Γ.env sc.names)[i]? = _
      unfold compVars
      rw [List.getElem?_append_left (by simpa using hi), List.getElem?_map, a]; rfl
    · rw [List.getElem?_append_right (by simpa using hi), List.length_map, List.getElem?_map, Option.map_eq_some_iff] at hx
      obtain ⟨y, a, b⟩ := hx
      cases b
      refine ⟨.ref ((Γ.env.cells.lookup x).getD 0), ?_, fun q => by cases q⟩
      show (compVars Γ.env sc.names)[i]? = _
      unfold compVars
      rw [List.getElem?_append_right (by simpa using hi), List.length_map, List.getElem?_map, a]; rfl
  · intro x hx
    replace hx : (sc.names.filter fun p => p.2 == .globalImplicit).lookup x = some .globalImplicit := hx
    have hm : (x, NameKind.globalImplicit) ∈ sc.names := by
      have : ∀ {l : List (Str × NameKind)}, l.lookup x = some .globalImplicit → (x, NameKind.globalImplicit) ∈ l := by
        intro l
        induction l with
        | nil => intro h; exact (Option.some_ne_none _ h.symm).elim
        | cons p l ih =>
          obtain ⟨y, d⟩ := p
          intro h
          simp only [ List.lookup_cons ] at h
          split at h
          · rename_i e; rw [beq_iff_eq] at e; subst e; cases h; simp
          · exact List.mem_cons_of_mem _ (ih h)
      exact (List.mem_filter.mp (this hx)).1
    exact relabel_glob (lookup_of_mem h.nd hm)
end
section
variable {G : GS} {A : Around} {Γ : FE} {frz : Frz} {σ : St} {s : Shared} {C : SC}
noncomputable def testsOf (ifs : List Expr) (env : Env) : Sem Bool :=
  forIn ifs true fun c r => if r = true then do let ok ← isTrue c env (eval c env); pure (ForInStep.yield ok) else pure (ForInStep.yield r)
noncomputable def turnOf (elt target iter : Expr) (ifs : List Expr) (it acc : Value) (env : Env) (c : Code) : Sem Fin := do
  standAt iter.pos
  match ← pyNext it with
  | none => pure (.done .next)
  | some v =>
    letOwnedTupleGo target it v
    assign target env v
    let mut ok := true
    for c in ifs do
      if ok then ok ← isTrue c env (eval c env)
    if ok then
      (do let _ ← call (.builtin "list.append") [acc, ← eval elt env])
    again c
theorem comp_loop {elt target iter : Expr} {ifs : List Expr} {gens : List Comprehension} {d : Nat} {scope : Scope} {pos : Pos} {it : Addr} {acc : Value} {env : Env} {R : Result → Shared → Prop} (hT : compTurn (.ListComp elt gens scope pos) d (.ref it) acc env = turnOf elt target iter ifs (.ref it) acc env (.compLoop (.ListComp elt gens scope pos) d (.ref it) acc env)) (I : Nat → Shared → Prop)
    (turn : ∀ n s, I n s → ∀ (K : Shared → Prop) (T1 T2 : Value → Shared → Prop) (T3 T4 : Shared → Prop), (∀ m s', m < n → I m s' → K s') →
      (∀ v s', wpAny (model G.prog G.w) A (letOwnedTupleGo target (.ref it) v) (fun _ s' => T2 v s') NoE s' → T1 v s') → (∀ v s', wpAny (model G.prog G.w) A (assign target env v) (fun _ s' => T3 s') NoE s' → T2 v s') →
      (∀ s', wpAny (model G.prog G.w) A (testsOf ifs env) (fun ok s' => if ok = true then T4 s' else K s') NoE s' → T3 s') →
      (∀ s', wpAny (model G.prog G.w) A (eval elt env) (fun x s' => wpAny (model G.prog G.w) A (call (.builtin "list.append") [acc, x]) (fun _ s' => K s') NoE s') NoE s' → T4 s') →
      wpAny (model G.prog G.w) A (pyNext (.ref it)) (fun r s₁ => match r with
      | none => R (.ok .next) s₁
      | some v => T1 v s₁) NoE s)
    (n : Nat) (h : I n s) : codeAny (model G.prog G.w) A (.compLoop (.ListComp elt gens scope pos) d (.ref it) acc env) R s := by
  refine codeAny_loop rfl I (fun n s hI => ?_) n h
  show wpAny _ A ((compTurn (.ListComp elt gens scope pos) d (.ref it) acc env).onRaise (fun x => do noteFrame x env; theTreesLotGoes x)) _ _ s
  refine wpAny_noted ?_
  rw [ hT ]
  refine wpAny_bind (wpAny_standAt (wpAny_bind (wpAny_mono (turn n s hI (fun s' => ∃ m, m < n ∧ I m s') _ _ _ _ (fun m s' a b => ⟨m, a, b⟩) (fun _ _ h => h) (fun _ _ h => h) (fun _ h => h) fun _ h => h) (fun r s₁ h₁ => ?_) fun _ _ h' => h'.elim)))
  cases r with
  | none => exact wpAny_pure h₁
  | some v =>
    refine wpAny_bind (wpAny_mono h₁ (fun _ s₁' h₁' => ?_) fun _ _ h' => h'.elim)
    refine wpAny_bind (wpAny_mono h₁' (fun _ s₂ h₂ => wpAny_bind (wpAny_mono h₂ (fun ok s₃ h₃ => ?_) fun _ _ h' => h'.elim)) fun _ _ h' => h'.elim)
    cases ok with
    | false => exact wpAny_pure ⟨rfl, h₃⟩
    | true =>
      exact wpAny_bind (wpAny_bind (wpAny_mono h₃ (fun x s₄ h₄ => wpAny_bind (wpAny_mono h₄ (fun _ s₅ h₅ => wpAny_pure (wpAny_pure ⟨rfl, h₅⟩)) fun _ _ h' => h'.elim)) fun _ _ h' => h'.elim))
theorem comp_loop0 {elt target iter target' iter' : Expr} {scope : Scope} {pos : Pos} {it : Addr} {acc : Value} {env : Env} {R : Result → Shared → Prop} (hp : ∀ x, foldedSetIterable iter' env x = pure x) (I : Nat → Shared → Prop)
    (turn : ∀ n s, I n s → ∀ (K : Shared → Prop) (T1 T2 : Value → Shared → Prop) (T3 : Shared → Prop) (T4 : Value → Shared → Prop), (∀ m s', m < n → I m s' → K s') →
      (∀ v s', wpAny (model G.prog G.w) A (letOwnedTupleGo target (.ref it) v) (fun _ s' => T2 v s') NoE s' → T1 v s') → (∀ v s', wpAny (model G.prog G.w) A (assign target env v) (fun _ s' => T3 s') NoE s' → T2 v s') →
      (∀ s', wpAny (model G.prog G.w) A (eval iter' env) (fun x s' => wpAny (model G.prog G.w) A (pyIter x) (fun i' s' => T4 i' s') NoE s') NoE s' → T3 s') →
      (∀ i' s', codeAny (model G.prog G.w) A (.compStart (.ListComp elt [⟨target, iter, [], 0⟩, ⟨target', iter', [], 0⟩] scope pos) 1 i' acc env) (fun r s₅ => match r with | .ok _ => K s₅ | .error _ => False) s' → T4 i' s') →
      wpAny (model G.prog G.w) A (pyNext (.ref it)) (fun r s₁ => match r with
      | none => R (.ok .next) s₁
      | some v => T1 v s₁) NoE s)
    (n : Nat) (h : I n s) : codeAny (model G.prog G.w) A (.compLoop (.ListComp elt [⟨target, iter, [], 0⟩, ⟨target', iter', [], 0⟩] scope pos) 0 (.ref it) acc env) R s := by
  refine codeAny_loop rfl I (fun n s hI => ?_) n h
  show wpAny _ A ((compTurn (.ListComp elt [⟨target, iter, [], 0⟩, ⟨target', iter', [], 0⟩] scope pos) 0 (.ref it) acc env).onRaise (fun x => do noteFrame x env; theTreesLotGoes x)) _ _ s
  refine wpAny_noted ?_
  refine wpAny_bind (wpAny_standAt (wpAny_bind (wpAny_mono (turn n s hI (fun s' => ∃ m, m < n ∧ I m s') _ _ _ _ (fun m s' a b => ⟨m, a, b⟩) (fun _ _ h => h) (fun _ _ h => h) (fun _ h => h) fun _ _ h => h) (fun r s₁ h₁ => ?_) fun _ _ h' => h'.elim)))
  cases r with
  | none => exact wpAny_pure h₁
  | some v =>
    refine wpAny_bind (wpAny_mono h₁ (fun _ s₁' h₁' => ?_) fun _ _ h' => h'.elim)
    refine wpAny_bind (wpAny_mono h₁' (fun _ s₂ h₂ => wpAny_bind (wpAny_pure ?_)) fun _ _ h' => h'.elim)
    refine wpAny_bind (wpAny_mono h₂ (fun x s₃ h₃ => wpAny_bind (wpAny_standAt ?_)) fun _ _ h' => h'.elim)
    show wpAny _ A (foldedSetIterable iter' env x >>= fun x => holding [x] (pyIter x) >>= fun i' => runOwn (.compStart (.ListComp elt [⟨target, iter, [], 0⟩, ⟨target', iter', [], 0⟩] scope pos) 1 i' acc env) env >>= fun _ => again (.compLoop (.ListComp elt [⟨target, iter, [], 0⟩, ⟨target', iter', [], 0⟩] scope pos) 0 (.ref it) acc env)) _ _ s₃
    refine wpAny_bind (wpAny_of_eq (hp x) (wpAny_bind (wpAny_holding (wpAny_mono h₃ (fun i' s₄ h₄ => wpAny_bind (wpAny_runOwn (codeAny_mono h₄ fun r s₅ h₅ => ?_))) fun _ _ h' => h'.elim))))
    cases r with
    | ok f => exact wpAny_pure ⟨rfl, h₅⟩
    | error e => exact h₅.elim
theorem start1 {elt target iter target' iter' : Expr} {scope : Scope} {pos : Pos} {it acc : Value} {env : Env} {R : Result → Shared → Prop}
    (h0 : codeAny (model G.prog G.w) A (.compLoop (.ListComp elt [⟨target, iter, [], 0⟩, ⟨target', iter', [], 0⟩] scope pos) 1 it acc env) R s)
    (h : wpAny (model G.prog G.w) A (pyIter it) (fun it' s' => codeAny (model G.prog G.w) A (.compLoop (.ListComp elt [⟨target, iter, [], 0⟩, ⟨target', iter', [], 0⟩] scope pos) 1 it' acc env) R s') NoE s) :
    codeAny (model G.prog G.w) A (.compStart (.ListComp elt [⟨target, iter, [], 0⟩, ⟨target', iter', [], 0⟩] scope pos) 1 it acc env) R s := by
  refine codeAny_of_tree ?_
  show wpAny _ A ((compStart (.ListComp elt [⟨target, iter, [], 0⟩, ⟨target', iter', [], 0⟩] scope pos) 1 it acc env).onRaise (fun x => do noteFrame x env; standAt theWindowsPlace)) _ _ s
  refine wpAny_notedAt ?_
  unfold compStart
  show wpAny _ _ (ask >>= _) _ _ s
  refine wpAny_bind (wpAny_askSetting (wpAny_ite ?_))
  split
  · exact wpAny_bind (wpAny_pure (wpAny_pure ⟨rfl, h0⟩))
  · refine wpAny_bind (wpAny_rule ?_)
    show wpAny _ _ (standAt iter'.pos >>= _) _ _ s
    exact wpAny_bind (wpAny_standAt (wpAny_bind (wpAny_mono h (fun it' s' h' => wpAny_pure ⟨rfl, h'⟩) fun _ _ x => x.elim)))
theorem s_accum (r : Rep G Γ frz σ s) {acc : Addr} {arr : Array Value} {n : Nat} {us : List V} {u : V} {cu : Value} (d : Aside G Γ frz σ acc) (ha : s.heap.get? acc = some { cls := .type "list", data := .seq arr n }) (ru : RVs s.heap arr.toList us) (hu : RV s.heap cu u) (hs : sma us.length) :
    wpAny (model G.prog G.w) A (call (.builtin "list.append") [.ref acc, cu]) (fun _ s' => Rep G Γ frz σ s' ∧ TK s.heap s'.heap ∧ (∀ b o, b ≠ acc → s.heap.get? b = some o → s'.heap.get? b = some o) ∧
      ∃ arr' n', s'.heap.get? acc = some { cls := .type "list", data := .seq arr' n' } ∧ RVs s'.heap arr'.toList (us ++ [u])) NoE s := by
  have hz := ru.length
  simp only [Array.length_toList] at hz
  refine call_meets F.slot_list_append ⟨_, ha, rfl⟩ F.entry_list_append (F.args_list_append_2 _ _) (AutoListH.list_append_list_val_0 _ _ _ _ (by rw [hz]; exact small_line hs)) ⟨ha, ?_⟩
  have k : ∀ b o, b ≠ acc → s.heap.get? b = some o → (s.heap.update acc (Obj.mapSeq fun x => x.push cu)).get? b = some o := fun b o hb e => (Heap.get?_update_other _ _ (Ne.symm hb)).trans e
  obtain ⟨q1, q2⟩ := r.aside (tk := s.toks) d ha (by simp [Imm]) k
  exact ⟨q1, q2, k, _, _, Heap.get?_update_self _ ha rfl, by simpa [Obj.mapSeq] using (ru.tk q2).append (RVs.one (hu.tk q2))⟩
theorem iter_self {it : Addr} {o : Obj} {g : Mem → Prop} {vs : List V} {post : Value → Shared → Prop} {E : Value → Shared → Prop} (ho : s.heap.get? it = some o) (i : IterAt s.heap o g vs) (q : post (.ref it) s) :
    wpAny (model G.prog G.w) A (pyIter (.ref it)) post E s := by
  cases i with
  | list a b => exact wpAny_pyIter_listiter ⟨o, ho, a, b⟩ q
  | tup a b _ _ => exact wpAny_pyIter_tupleiter ⟨o, ho, a, b⟩ q
  | rng => exact wpAny_pyIter_rangeiter ho q
  | @str _ x t i a b =>
    cases hasc : (mkS x).cps.all (· < 128) with
    | true =>
      have st : strIterType (mkS x) = "str_ascii_iterator" := by unfold strIterType; rw [ hasc ]; rfl
      rw [st] at a
      exact wpAny_pyIter_striter_ascii ⟨o, ho, a, b⟩ q
    | false =>
      have st : strIterType (mkS x) = "str_iterator" := by unfold strIterType; rw [ hasc ]; rfl
      rw [st] at a
      exact wpAny_pyIter_striter_wide ⟨o, ho, a, b⟩ q
structure CompWalk (G : GS) (A : Around) (P : PC) (Γ' : FE) (elt target : Expr) (ifs : List Expr) (one : Bool) (is : List Nat) (cs : List Ex) (x : Ex) : Prop where
  bind : ∀ {v : V} {Q : St → Prop} {σ : St}, bindIs one is v Q σ → ∀ {frz : Frz} {s : Shared} {cv : Value}, Rep G Γ' frz σ s → RV s.heap cv v → wpAny (model G.prog G.w) A (assign target Γ'.env cv) (PU G Γ' frz s Q) NoE s
  test : ∀ {Q : Bool → St → Prop} {σ : St}, wpTs P true cs Q σ → WB G A Γ' (testsOf ifs Γ'.env) Q σ
  elt : ∀ {Q : V → St → Prop} {σ : St}, wpE P x Q σ → W G A Γ' (eval elt Γ'.env) Q σ
inductive LI (G : GS) (Γ' : FE) (frz : Frz) (it acc : Addr) (g : Mem → Prop) (h0 : Heap) (W : List V → List V → St → Prop) (n : Nat) (s : Shared) : Prop
  | mk {σ : St} {vs us : List V} {o : Obj} {arr : Array Value} {na : Nat} : vs.length = n → Rep G Γ' frz σ s → TK h0 s.heap → Aside G Γ' frz σ it → Aside G Γ' frz σ acc → s.heap.get? it = some o → IterAt s.heap o g vs →
    s.heap.get? acc = some { cls := .type "list", data := .seq arr na } → RVs s.heap arr.toList us → W vs us σ → LI G Γ' frz it acc g h0 W n s
noncomputable abbrev accO (arr : Array Value) (na : Nat) : Obj := { cls := .type "list", data := .seq arr na }
inductive Out (G : GS) (Γ' : FE) (frz : Frz) (it acc : Addr) (o a : Obj) (σ : St) (s : Shared) : Prop
  | mk : Rep G Γ' frz σ s → Aside G Γ' frz σ it → Aside G Γ' frz σ acc → s.heap.get? it = some o → s.heap.get? acc = some a → Out G Γ' frz it acc o a σ s
theorem turn_head {Γ' : FE} {target : Expr} {it acc : Addr} {o : Obj} {g : Mem → Prop} {vs : List V} {arr : Array Value} {na : Nat} {T1 T2 : Value → Shared → Prop} {T3 Rn : Shared → Prop} {Q : V → List V → St → Prop}
    (hA : Rm A) (hne : it ≠ acc) (r : Rep G Γ' frz σ s) (a : Aside G Γ' frz σ it) (b : Aside G Γ' frz σ acc) (ho : s.heap.get? it = some o) (hi : IterAt s.heap o g vs) (ha : s.heap.get? acc = some (accO arr na)) (hg : g σ.mem)
    (k1 : ∀ v s', wpAny (model G.prog G.w) A (letOwnedTupleGo target (.ref it) v) (fun _ s' => T2 v s') NoE s' → T1 v s') (k2 : ∀ v s', wpAny (model G.prog G.w) A (assign target Γ'.env v) (fun _ s' => T3 s') NoE s' → T2 v s')
    (hn : vs = [] → ∀ s', Rep G Γ' frz σ s' → TK s.heap s'.heap → Aside G Γ' frz σ acc → s'.heap.get? acc = some (accO arr na) → Rn s')
    (hb : ∀ v vs', vs = v :: vs' → ∀ {frz : Frz} {s : Shared} {cv : Value}, Rep G Γ' frz σ s → RV s.heap cv v → wpAny (model G.prog G.w) A (assign target Γ'.env cv) (PU G Γ' frz s (Q v vs')) NoE s)
    (hc : ∀ v vs', vs = v :: vs' → ∀ o2 s' σ', IterAt s'.heap o2 g vs' → Q v vs' σ' → Rep G Γ' (frzAdd (frzAdd frz acc (accO arr na)) it o2) σ' s' → TK s.heap s'.heap →
      (∀ {σ₅ s₅}, Rep G Γ' (frzAdd (frzAdd frz acc (accO arr na)) it o2) σ₅ s₅ → Out G Γ' frz it acc o2 (accO arr na) σ₅ s₅) → T3 s') :
    wpAny (model G.prog G.w) A (pyNext (.ref it)) (fun y s' => match y with | none => Rn s' | some v => T1 v s') NoE s := by
  have r' := r.asideIn b ha
  have ae : Aside G Γ' (frzAdd frz acc (accO arr na)) σ it := ⟨a.m, by unfold frzAdd; rw [if_neg hne]; exact a.f, a.l, a.c, a.r⟩
  refine wpAny_mono (iter_next hA r' ae ho hi hg) (fun y s₂ p => ?_) fun _ _ x => x.elim
  cases vs with
  | nil =>
    cases y with
    | some _ => exact False.elim p
    | none =>
      obtain ⟨r2, t2⟩ := p
      obtain ⟨r2', b2, ha2⟩ := Rep.asideOut r b r2
      exact hn rfl s₂ r2' t2 b2 ha2
  | cons v vs' =>
    cases y with
    | none => exact False.elim p
    | some cv =>
      obtain ⟨rv, r2, t2, o2, ho2, i2⟩ := p
      refine k1 _ _ (letGo_none ho2 i2 (k2 _ _ ?_))
      refine wpAny_mono (hb v vs' rfl (r2.asideIn ae ho2) rv) (fun _ s₃ p => ?_) fun _ _ x => x.elim
      obtain ⟨σ₃, r3, t3, w3⟩ := p
      refine hc v vs' rfl o2 s₃ σ₃ (i2.tk t3) w3 r3 (t2.trans t3) fun r5 => ?_
      obtain ⟨q5, a5, ho5⟩ := Rep.asideOut r2 ae r5
      obtain ⟨q6, b6, ha6⟩ := Rep.asideOut r b q5
      exact ⟨q6, ⟨a5.m, a.f, a.l, a.c, a.r⟩, b6, ho5, ha6⟩
theorem wpComp_g {b : V → (St → Prop) → St → Prop} {t : (Bool → St → Prop) → St → Prop} {e : (V → St → Prop) → St → Prop} {g : Mem → Prop} {R : List V → St → Prop} : ∀ {vs us : List V} {σ : St}, wpComp b t e g R vs us σ → g σ.mem
  | [], _, _, h => h.1
  | _ :: _, _, _, h => h.1
theorem wpComp2_g {b : V → (St → Prop) → St → Prop} {i : (V → St → Prop) → St → Prop} {b2 : V → (St → Prop) → St → Prop} {t : (Bool → St → Prop) → St → Prop} {e : (V → St → Prop) → St → Prop} {g : Mem → Prop} {R : List V → St → Prop} : ∀ {vs us : List V} {σ : St}, wpComp2 b i b2 t e g R vs us σ → g σ.mem
  | [], _, _, h => h.1
  | _ :: _, _, _, h => h.1
theorem comp_run {P : PC} {Γ' : FE} {elt target iter : Expr} {ifs : List Expr} {gens : List Comprehension} {d : Nat} {scope : Scope} {pos : Pos} {one : Bool} {is : List Nat} {cs : List Ex} {x : Ex} {it acc : Addr} {o : Obj} {g : Mem → Prop} {R : List V → St → Prop} {vs us₀ : List V} {arr₀ : Array Value} {n₀ : Nat}
    (hT : compTurn (.ListComp elt gens scope pos) d (.ref it) (.ref acc) Γ'.env = turnOf elt target iter ifs (.ref it) (.ref acc) Γ'.env (.compLoop (.ListComp elt gens scope pos) d (.ref it) (.ref acc) Γ'.env))
    (hA : Rm A) (cw : CompWalk G A P Γ' elt target ifs one is cs x) (r : Rep G Γ' frz σ s) (hne : it ≠ acc) (d1 : Aside G Γ' frz σ it) (d2 : Aside G Γ' frz σ acc) (ho : s.heap.get? it = some o) (hi : IterAt s.heap o g vs)
    (ha : s.heap.get? acc = some { cls := .type "list", data := .seq arr₀ n₀ }) (hru : RVs s.heap arr₀.toList us₀) (hs : sma (us₀.length + vs.length)) (w : wpComp (bindIs one is) (wpTs P true cs) (wpE P x) g R vs us₀ σ) {RR : Result → Shared → Prop}
    (fin : ∀ s' σ' us arr n, Rep G Γ' frz σ' s' → TK s.heap s'.heap → Aside G Γ' frz σ' acc → s'.heap.get? acc = some { cls := .type "list", data := .seq arr n } → RVs s'.heap arr.toList us → R us σ' → RR (.ok .next) s') :
    codeAny (model G.prog G.w) A (.compLoop (.ListComp elt gens scope pos) d (.ref it) (.ref acc) Γ'.env) RR s := by
  generalize hh : s.heap = h0 at fin
  refine comp_loop hT (LI G Γ' frz it acc g h0 fun vs us σ => sma (us.length + vs.length) ∧ wpComp (bindIs one is) (wpTs P true cs) (wpE P x) g R vs us σ) ?_ vs.length (.mk rfl r (by rw [ ← hh ]; exact .refl _) d1 d2 ho hi ha hru ⟨hs, w⟩)
  clear w hs hru ha hi ho d1 d2 r hh
  intro n s₁ hI K T1 T2 T3 T4 hK k1 k2 k3 k4
  cases hI with | @mk σ₁ vs us o₁ arr na hl r1 t1 a1 b1 ho1 i1 ha1 ru1 hw =>
  obtain ⟨hs, w1⟩ := hw
  refine turn_head hA hne r1 a1 b1 ho1 i1 ha1 (wpComp_g w1) k1 k2 (fun e s₂ r2 t2 b2 ha2 => ?_) (Q := fun v vs' => wpTs P true cs fun b σ₁ => if b then wpE P x (fun u σ₂ => wpComp (bindIs one is) (wpTs P true cs) (wpE P x) g R vs' (us ++ [u]) σ₂) σ₁ else wpComp (bindIs one is) (wpTs P true cs) (wpE P x) g R vs' us σ₁) (fun v vs' e => ?_) fun v vs' e o2 s₃ σ₃ i3 w3 r3 t3 out => ?_
  · subst e; exact fin s₂ _ _ _ _ r2 (t1.trans t2) b2 ha2 (ru1.tk t2) w1.2
  · subst e; exact cw.bind w1.2
  subst e
  refine k3 _ (wpAny_mono (cw.test w3 _ _ r3) (fun ok s₄ p => ?_) fun _ _ x => x.elim)
  obtain ⟨σ₄, r4, t4, w4⟩ := p
  cases ok with
  | false =>
    obtain ⟨r6, a6, b6, ho6, ha6⟩ := out r4
    have tt := t3.trans t4
    exact hK _ _ (by rw [ ← hl ]; exact Nat.lt_succ_self _) (.mk rfl r6 (t1.trans tt) a6 b6 ho6 (i3.tk t4) ha6 (ru1.tk tt) ⟨Nat.le_trans (Nat.add_le_add_left (Nat.le_succ _) _) hs, w4⟩)
  | true =>
    refine k4 _ (wpAny_mono (cw.elt w4 _ _ r4) (fun cu s₅ p => ?_) fun _ _ x => x.elim)
    obtain ⟨u, σ₅, rvu, r5, t5, w5⟩ := p
    obtain ⟨r7, a6, b7, ho6, ha7⟩ := out r5
    have tt := (t3.trans t4).trans t5
    refine wpAny_mono (s_accum r7 b7 ha7 (ru1.tk tt) rvu (Nat.le_trans (Nat.le_add_right _ _) hs)) (fun _ s₆ p => ?_) fun _ _ x => x
    obtain ⟨r8, t8, k8, arr', n', ha8, ru8⟩ := p
    exact hK _ _ (by rw [ ← hl ]; exact Nat.lt_succ_self _) (.mk rfl r8 (t1.trans (tt.trans t8)) ⟨a6.m, a6.f, a6.l, a6.c, a6.r⟩ b7 (k8 _ _ hne ho6) ((i3.tk (t4.trans t5)).tk t8) ha8 ru8 ⟨by rw [ List.length_append ]; exact (Nat.add_assoc ..).symm ▸ (Nat.add_comm 1 _) ▸ hs, w5⟩)
theorem comp_run2 {P : PC} {Γ' : FE} {elt target iter target' iter' : Expr} {scope : Scope} {pos : Pos} {one : Bool} {is : List Nat} {j : Nat} {x y : Ex} {it acc : Addr} {o : Obj} {g : Mem → Prop} {R : List V → St → Prop} {vs us₀ : List V} {arr₀ : Array Value} {n₀ : Nat}
    (hA : Rm A) (hp : ∀ x, foldedSetIterable iter' Γ'.env x = pure x) (ok : Γ'.ok) (cb : ∀ {v : V} {Q : St → Prop} {σ : St}, bindIs one is v Q σ → ∀ {frz : Frz} {s : Shared} {cv : Value}, Rep G Γ' frz σ s → RV s.heap cv v → wpAny (model G.prog G.w) A (assign target Γ'.env cv) (PU G Γ' frz s Q) NoE s)
    (ci : ∀ {Q : V → St → Prop} {σ : St}, wpE P y Q σ → W G A Γ' (eval iter' Γ'.env) Q σ) (cw : CompWalk G A P Γ' elt target' [] true [j] [] x) (r : Rep G Γ' frz σ s) (hne : it ≠ acc) (d1 : Aside G Γ' frz σ it) (d2 : Aside G Γ' frz σ acc) (ho : s.heap.get? it = some o) (hi : IterAt s.heap o g vs)
    (ha : s.heap.get? acc = some { cls := .type "list", data := .seq arr₀ n₀ }) (hru : RVs s.heap arr₀.toList us₀) (w : wpComp2 (bindIs one is) (wpE P y) (bindIs true [j]) (fun k σ => k true σ) (wpE P x) g R vs us₀ σ) {RR : Result → Shared → Prop}
    (fin : ∀ s' σ' us arr n, Rep G Γ' frz σ' s' → TK s.heap s'.heap → Aside G Γ' frz σ' acc → s'.heap.get? acc = some { cls := .type "list", data := .seq arr n } → RVs s'.heap arr.toList us → R us σ' → RR (.ok .next) s') :
    codeAny (model G.prog G.w) A (.compLoop (.ListComp elt [⟨target, iter, [], 0⟩, ⟨target', iter', [], 0⟩] scope pos) 0 (.ref it) (.ref acc) Γ'.env) RR s := by
  generalize hh : s.heap = h0 at fin
  refine comp_loop0 hp (LI G Γ' frz it acc g h0 fun vs us σ => wpComp2 (bindIs one is) (wpE P y) (bindIs true [j]) (fun k σ => k true σ) (wpE P x) g R vs us σ) ?_ vs.length (.mk rfl r (by rw [ ← hh ]; exact .refl _) d1 d2 ho hi ha hru w)
  clear w hru ha hi ho d1 d2 r hh
  intro n s₁ hI K T1 T2 T3 T4 hK k1 k2 k3 k4
  cases hI with | @mk σ₁ vs us o₁ arr na hl r1 t1 a1 b1 ho1 i1 ha1 ru1 w1 =>
  refine turn_head hA hne r1 a1 b1 ho1 i1 ha1 (wpComp2_g w1) k1 k2 (fun e s₂ r2 t2 b2 ha2 => ?_)
    (Q := fun v vs' => wpE P y fun w σ₁ => wpItems σ₁.mem w fun ws g2 => sma (us.length + ws.length) ∧ wpComp (bindIs true [j]) (fun k σ => k true σ) (wpE P x) g2 (fun us' σ₂ => wpComp2 (bindIs one is) (wpE P y) (bindIs true [j]) (fun k σ => k true σ) (wpE P x) g R vs' us' σ₂) ws us σ₁)
    (fun v vs' e => ?_) fun v vs' e o2 s₃ σ₃ i3 w3 r3 t3 out => ?_
  · subst e; exact fin s₂ _ _ _ _ r2 (t1.trans t2) b2 ha2 (ru1.tk t2) w1.2
  · subst e; exact cb w1.2
  subst e
  refine k3 _ (wpAny_mono (ci w3 _ _ r3) (fun cw' s₄ p => ?_) fun _ _ x => x.elim)
  obtain ⟨u, σ₄, rvu, r4, t4, w4⟩ := p
  obtain ⟨ws, g2, ⟨hsm, w5⟩, mk⟩ := iter_make (A := A) r4 rvu w4
  refine wpAny_mono mk (fun itv s₅ p => ?_) fun _ _ x => x
  obtain ⟨ia, o5, rfl, r5, t5, d5, ho5, i5⟩ := p
  obtain ⟨q6, a6, b6, hi5, ha6⟩ := out r5
  have e5 : frzAdd (frzAdd frz acc (accO arr na)) it o2 ia = none := d5.f
  have nii : ia ≠ it := fun e => by rw [e] at e5; unfold frzAdd at e5; rw [if_pos rfl] at e5; cases e5
  have e6 : frzAdd frz acc (accO arr na) ia = none := (if_neg nii).symm.trans e5
  have nia : ia ≠ acc := fun e => by rw [e] at e6; unfold frzAdd at e6; rw [if_pos rfl] at e6; cases e6
  have e7 : frz ia = none := (if_neg nia).symm.trans e6
  have tt := t3.trans (t4.trans t5)
  refine k4 _ _ ((fun go => start1 go (iter_self ho5 i5 go)) ?_)
  refine comp_run (d := 1) (gens := [⟨target, iter, [], 0⟩, ⟨target', iter', [], 0⟩]) rfl hA cw (q6.asideIn a6 hi5) nia ⟨d5.m, (if_neg nii).trans e7, d5.l, d5.c, d5.r⟩ ⟨b6.m, (if_neg (Ne.symm hne)).trans b6.f, b6.l, b6.c, b6.r⟩ ho5 i5 ha6 (ru1.tk tt) hsm w5 fun s' σ' us' arr' n' r' t' b' h' ru' w' => ?_
  obtain ⟨r8, a8, h8⟩ := Rep.asideOut q6 a6 r'
  exact hK _ _ (by rw [ ← hl ]; exact Nat.lt_succ_self _) (.mk rfl r8 (t1.trans (tt.trans t')) ⟨a8.m, a6.f, a6.l, a6.c, a6.r⟩ ⟨b'.m, b6.f, b6.l, b6.c, b6.r⟩ h8 (i3.tk ((t4.trans t5).trans t')) h' ru' w')
end
section
variable {G : GS} {A : Around} {Γ : FE} {frz : Frz} {σ : St} {s : Shared} {C : SC}
theorem folded_plain {e : Expr} {env : Env} (h : plainE e = true) (x : Value) : foldedSetIterable e env x = pure x := by
  cases e <;> first | rfl | exact absurd h Bool.false_ne_true
noncomputable def frzC (σ : St) (s : Shared) (it : Addr) : Frz := fun b => if b = it then none else frzIn σ s b
theorem comp_rep (ok : Γ.ok) (hC : C.ok G Γ) {sc : Scope} {n : Nat} {caps : List Nat} (hc : CompOk C sc n caps) (r : Rep G Γ frz σ s) {it L : Addr} (d : Aside G Γ frz σ it) (hL : s.heap.objs.size < L) {h₁ : Heap} {tk : Nat} (k : ∀ b o, s.heap.get? b = some o → h₁.get? b = some o)
    {m : Str → Option Value} (ns : h₁.Ns L m) : Rep G (compFE Γ sc L) (frzC σ s it) (compSt σ n caps) { s with heap := h₁, toks := tk } := by
  have fr : ∀ b o, frzC σ s it b = some o → s.heap.get? b = some o ∧ σ.mem b = none := fun b o e => by
    unfold frzC at e
    split at e
    · cases e
    · have := frzIn_some.mp e; exact ⟨this.2, this.1⟩
  have up : ∀ b o, frz b = some o → frzC σ s it b = some o := fun b o e => by
    unfold frzC
    rw [if_neg (fun z => by subst z; rw [d.f] at e; cases e)]
    exact r.upIn e
  have t := TK.of k
  have hlf : frzC σ s it L = none := by
    cases q : frzC σ s it L with
    | none => rfl
    | some o => exact absurd (Heap.lt_size (fr _ _ q).1) (Nat.not_lt.mpr (Nat.le_of_lt hL))
  refine ⟨let ⟨_, _, e⟩ := r.same; ⟨h₁, tk, by rw [e]⟩, fun b o e => up b o (r.hbase b o e), fun b o e => up b o (r.hkeep b o e), fun b o e => k _ _ (fr b o e).1, fun a o e => (r.hmem a o e).keep t (k a), fun a o e => ?_, ?_, hlf, (r.none_of_ge (Nat.le_of_lt hL)).1, ?_, ?_, ?_⟩
  · cases q : frzC σ s it a with
    | none => rfl
    | some o' => have := (fr _ _ q).2; rw [show σ.mem a = some o from e] at this; cases this
  · exact Nat.le_of_lt (Nat.lt_of_le_of_lt (Nat.le_of_lt (Nat.lt_of_le_of_lt r.hab r.lt_locals)) hL)
  · refine ⟨m, ns, fun i x v hx hv => ?_⟩
    rcases cvg hx with ⟨_, a⟩ | ⟨j, _, _, e⟩
    · have hi : i < n := by rw [← hc.len]; exact (List.getElem?_eq_some_iff.mp a).1
      replace hv : (List.replicate n none ++ caps.map fun i => (σ.loc[i]?).join)[i]? = some (some v) := hv
      rw [List.getElem?_append_left (by simpa using hi), List.getElem?_replicate] at hv
      split at hv <;> cases hv
    · cases e
  · intro i x c hx
    rcases cvg hx with ⟨e, _⟩ | ⟨_, _, _, e⟩ <;> cases e
  · intro i x c hx
    rcases cvg hx with ⟨e, _⟩ | ⟨j, hi, a, e⟩
    · cases e
    refine bc fun z9 => ?_
    obtain ⟨i', h1, h2, h3⟩ := (cap_get hc.caps).2 j x a
    refine z9 ?_
    refine bc fun z9 => ?_
    obtain ⟨c', hc', hv⟩ := cap_cell ok hC h2 h3
    refine z9 ?_
    have ec : c = c' := by injection e with e; rw [e, hc']; rfl
    subst ec
    have loc : ∀ v, (compSt σ n caps).loc[i]? = some (some v) → σ.loc[i']? = some (some v) := fun v hv => by
      replace hv : (List.replicate n none ++ caps.map fun i => (σ.loc[i]?).join)[i]? = some (some v) := hv
      rw [hi, hc.len, List.getElem?_append_right (by simp), List.length_replicate, Nat.add_sub_cancel_left, List.getElem?_map, h1] at hv
      simp only [Option.map_some, Option.some.injEq] at hv
      cases q : σ.loc[i']? with
      | none => rw [q] at hv; cases hv
      | some y => rw [q] at hv; rw [show y = some v from hv]
    rcases hv with hv | hv
    · refine bc fun z9 => ?_
      obtain ⟨p, q, o, ov, g, dd, f⟩ := r.hown i' x c hv
      refine z9 ?_
      refine ⟨o, ov, ?_, dd, fun v hv' => let ⟨cv, e1, e2⟩ := f v (loc v hv'); ⟨cv, e1, e2.tk t⟩⟩
      unfold frzC
      rw [if_neg (d.c i' x c hv)]
      exact frzIn_some.mpr ⟨q, g⟩
    · refine bc fun z9 => ?_
      obtain ⟨o, ov, g, dd, f⟩ := r.href i' x c hv
      refine z9 ?_
      exact ⟨o, ov, up _ _ g, dd, fun v hv' => let ⟨cv, e1, e2⟩ := f v (loc v hv'); ⟨cv, e1, e2.tk t⟩⟩
noncomputable def CompRun (G : GS) (A : Around) (Γ' : FE) (e : Expr) (WW : List V → (Mem → Prop) → (List V → St → Prop) → St → Prop) : Prop := ∀ {frz : Frz} {σ : St} {s : Shared} {it acc : Addr} {o : Obj} {g : Mem → Prop} {R : List V → St → Prop} {vs : List V},
  Rep G Γ' frz σ s → it ≠ acc → Aside G Γ' frz σ it → Aside G Γ' frz σ acc → s.heap.get? it = some o → IterAt s.heap o g vs → s.heap.get? acc = some { cls := .type "list", data := .seq #[] 0 } → sma vs.length → WW vs g R σ → ∀ {RR : Result → Shared → Prop},
  (∀ s' σ' us arr n, Rep G Γ' frz σ' s' → TK s.heap s'.heap → Aside G Γ' frz σ' acc → s'.heap.get? acc = some { cls := .type "list", data := .seq arr n } → RVs s'.heap arr.toList us → R us σ' → RR (.ok .next) s') →
  codeAny (model G.prog G.w) A (.compLoop e 0 (.ref it) (.ref acc) Γ'.env) RR s
theorem comp_core {WW : List V → (Mem → Prop) → (List V → St → Prop) → St → Prop} {gs : List Comprehension} {elt target iter : Expr} {ifs : List Expr} {sc : Scope} {pos ipos : Pos} {n : Nat} {caps : List Nat} {use : Option (Value → Sem Unit)} {QQ : Value → Shared → Prop} {R : St → List V → Mem → Prop}
    (hA : Rm A) (ok : Γ.ok) (hC : C.ok G Γ) (hc : CompOk C sc n caps) (hpl : plainE iter = true) (cr : ∀ L, CompRun G A (compFE Γ sc L) (.ListComp elt (⟨target, iter, ifs, 0⟩ :: gs) sc pos) WW) (r : Rep G Γ frz σ s)
    (w : W G A Γ (eval iter Γ.env) (fun v σ₁ => wpItems σ₁.mem v fun vs g => sma vs.length ∧ WW vs g (fun us σ' => R σ₁ us σ'.mem) (compSt σ₁ n caps)) σ)
    (fin : ∀ σ₁ s' us m' D L mL, R σ₁ us m' → m' D = none → Rep G Γ frz ⟨σ₁.loc, upd m' D (.list us)⟩ s' → TK s.heap s'.heap → Aside G Γ frz ⟨σ₁.loc, upd m' D (.list us)⟩ L → s'.heap.Ns L mL → compPost (model G.prog G.w) A NoE use QQ (.ref D) L (.ok .next) s') :
    wpAny (model G.prog G.w) A (comprehension (.ListComp elt (⟨target, iter, ifs, 0⟩ :: gs) sc pos) sc Γ.env ipos (newList []) false (eval iter Γ.env) use) QQ NoE s := by
  have hcell : ∀ y ∈ sc.names, y.2 ≠ .cell := fun y hy q => by rcases (hc.all y hy).1 with e | e | e <;> rw [e] at q <;> exact absurd q (by decide)
  refine wpAny_comprehension_free (g := ⟨target, iter, ifs, 0⟩) (gs := gs) rfl (folded_plain hpl) (closure_cap (comp_free_cells ok hC hc)) hc.kind (fun y hy hl => lookup_of_mem hc.nd (by rw [← hl]; exact hy)) ?_
  refine w.then r fun cv v σ₁ s₁ a1 r1 t1 w1 => ?_
  refine bc fun z9 => ?_
  obtain ⟨vs, g, ⟨hsm, w2⟩, mk⟩ := iter_make (A := A) r1 a1 w1
  refine z9 ?_
  refine wpAny_mono mk (fun itv s₂ p => ?_) fun _ _ x => x
  refine bc fun z9 => ?_
  obtain ⟨ia, o, rfl, r2, t2, d2, ho2, i2⟩ := p
  refine z9 ?_
  refine wpAny_newObj_type (wpAny_newFunctionEnv hcell (by intro y hy; simp at hy) (fun h₁ hns₁ hsb₁ => ?_) hc.kind)
  dsimp only at hns₁ hsb₁ ⊢
  have kpush := push_keeps s₂.heap { cls := .type "list", dict := none, data := .seq ([] : List Value).toArray }
  have hD2 := Heap.get?_push_size s₂.heap (o := { cls := .type "list", dict := none, data := .seq ([] : List Value).toArray }) rfl
  have hsz : (s₂.heap.push { cls := .type "list", dict := none, data := .seq ([] : List Value).toArray }).objs.size = s₂.heap.objs.size + 1 := Heap.size_push ..
  generalize s₂.heap.push { cls := .type "list", dict := none, data := .seq ([] : List Value).toArray } = H2 at hns₁ hsb₁ kpush hD2 hsz ⊢
  have hLt : s₂.heap.objs.size < H2.objs.size := by omega
  have neL : ∀ b, b < H2.objs.size → b ≠ H2.objs.size := fun b hb => Nat.ne_of_lt hb
  have old : ∀ b o, s₂.heap.get? b = some o → h₁.get? b = some o := fun b o e =>
    hsb₁.extBut b o (neL b (Nat.lt_trans (Heap.lt_size e) hLt)) (Heap.get?_push_of_some _ (kpush b o e))
  have hD : h₁.get? s₂.heap.objs.size = some { cls := .type "list", data := .seq #[] 0 } := hsb₁.extBut _ _ (neL _ hLt) (Heap.get?_push_of_some _ hD2)
  have r3 := comp_rep ok hC hc r2 d2 hLt (tk := s₂.toks + ([] : List (Str × Value)).length) old hns₁
  have nf : ∀ b, s₂.heap.objs.size ≤ b → frzIn σ₁ s₂ b = none := fun b hb => by
    cases q : frzIn σ₁ s₂ b with
    | none => rfl
    | some o => exact absurd (Heap.lt_size (frzIn_some.mp q).2) (Nat.not_lt.mpr hb)
  have hia : ia < s₂.heap.objs.size := Heap.lt_size ho2
  have cellLt : ∀ (i : Nat) y c, (compFE Γ sc H2.objs.size).vars[i]? = some (y, .ref c) → c ≠ ia ∧ c < s₂.heap.objs.size := fun i y c hx => by
    refine bc fun z9 => ?_
    obtain ⟨ob, ov, g, _, _⟩ := r3.href i y c hx
    refine z9 ?_
    unfold frzC at g
    split at g
    · exact (Option.some_ne_none _ g.symm).elim
    · rename_i q
      exact ⟨q, Heap.lt_size (frzIn_some.mp g).2⟩
  have noOwn : ∀ (i : Nat) y c, (compFE Γ sc H2.objs.size).vars[i]? = some (y, .own c) → False := fun i y c hx => by
    rcases cvg hx with ⟨e, _⟩ | ⟨_, _, _, e⟩ <;> cases e
  have a1' : Aside G (compFE Γ sc H2.objs.size) (frzC σ₁ s₂ ia) (compSt σ₁ n caps) ia := ⟨d2.m, by unfold frzC; rw [if_pos rfl], Nat.ne_of_lt (Nat.lt_trans hia hLt), fun i y c hx => (noOwn i y c hx).elim, fun i y c hx => (cellLt i y c hx).1⟩
  have a2' : Aside G (compFE Γ sc H2.objs.size) (frzC σ₁ s₂ ia) (compSt σ₁ n caps) s₂.heap.objs.size :=
    ⟨(r2.none_of_ge (Nat.le_refl _)).1, by unfold frzC; rw [if_neg (Nat.ne_of_gt hia)]; exact nf _ (Nat.le_refl _), Nat.ne_of_lt hLt, fun i y c hx => (noOwn i y c hx).elim, fun i y c hx => Nat.ne_of_lt (cellLt i y c hx).2⟩
  have t3 : TK s₂.heap h₁ := .of old
  have go : ∀ s₃ : Shared, s₃ = { s₂ with heap := h₁, toks := s₂.toks + ([] : List (Str × Value)).length } →
      codeAny (model G.prog G.w) A (.compLoop (.ListComp elt (⟨target, iter, ifs, 0⟩ :: gs) sc pos) 0 (.ref ia) (.ref s₂.heap.objs.size) (compFE Γ sc H2.objs.size).env) (compPost (model G.prog G.w) A NoE use QQ (.ref s₂.heap.objs.size) H2.objs.size) s₃ := by
    rintro s₃ rfl
    refine cr _ r3 (Nat.ne_of_lt hia) a1' a2' (old _ _ ho2) (i2.tk t3) hD hsm w2 fun s' σ' us arr na r4 t4 a4 ha4 ru4 hR => ?_
    have tt : TK s₂.heap s'.heap := t3.trans t4
    have b1 : Rep G Γ frz ⟨σ₁.loc, σ'.mem⟩ s' := r2.back rfl r4.rp (fun b o e hor hg => by
      unfold frzC
      rw [if_neg (fun z => ?_)]
      · exact frzIn_some.mpr ⟨e, hg⟩
      · subst z
        rcases hor with q | ⟨o', q⟩ | ⟨i, y, q⟩
        · exact d2.l q
        · rw [d2.f] at q; exact (Option.some_ne_none _ q.symm).elim
        · exact d2.c i y _ q rfl) tt
    have r2' : ∀ b, s₂.heap.objs.size ≤ b → frz b = none ∧ b ≠ Γ.env.locals ∧ (∀ (i : Nat) y c, Γ.vars[i]? = some (y, .own c) → c ≠ b) ∧ (∀ (i : Nat) y c, Γ.vars[i]? = some (y, .ref c) → c ≠ b) := fun b hb => by
      have := r2.asideNew hb
      exact ⟨this.f, this.l, this.c, this.r⟩
    have hn := r2' _ (Nat.le_refl _)
    have hn2 := r2' _ (Nat.le_of_lt hLt)
    have b2 := b1.join (a := s₂.heap.objs.size) (o := .list us) a4.m hn.1 hn.2.1 hn.2.2.1 (.list ha4 ru4)
    refine bc fun z9 => ?_
    obtain ⟨mL, nsL, _⟩ := r4.hns
    refine z9 ?_
    refine fin σ₁ s' us σ'.mem s₂.heap.objs.size H2.objs.size mL hR a4.m b2 ((t1.trans t2).trans tt) ⟨?_, hn2.1, hn2.2.1, hn2.2.2.1, hn2.2.2.2⟩ nsL
    show upd σ'.mem _ _ _ = none
    rw [upn _ _ (Nat.ne_of_gt hLt)]; exact r4.hlm
  exact codeAny_compStart_list (go _ rfl) (iter_self (old _ _ ho2) (i2.tk t3) (go _ rfl))
theorem s_comp {WW : List V → (Mem → Prop) → (List V → St → Prop) → St → Prop} {gs : List Comprehension} {elt target iter : Expr} {ifs : List Expr} {sc : Scope} {pos : Pos} {n : Nat} {caps : List Nat} {Q : V → St → Prop}
    (hA : Rm A) (ok : Γ.ok) (hC : C.ok G Γ) (hc : CompOk C sc n caps) (hpl : plainE iter = true) (cr : ∀ L, CompRun G A (compFE Γ sc L) (.ListComp elt (⟨target, iter, ifs, 0⟩ :: gs) sc pos) WW)
    (w : W G A Γ (eval iter Γ.env) (fun v σ₁ => wpItems σ₁.mem v fun vs g => sma vs.length ∧ WW vs g (fun us σ' => ∀ a, σ'.mem a = none → Q (.obj a) { σ₁ with mem := upd σ'.mem a (.list us) }) (compSt σ₁ n caps)) σ) :
    W G A Γ (eval (.ListComp elt (⟨target, iter, ifs, 0⟩ :: gs) sc pos) Γ.env) Q σ := fun frz s r => by
  simp only [ eval_ListComp ]
  refine comp_core (use := none) (R := fun σ₁ us m => ∀ a, m a = none → Q (.obj a) { σ₁ with mem := upd m a (.list us) }) hA ok hC hc hpl cr r w fun σ₁ s' us m' D L mL hR hm r' t' d' ns => ?_
  refine ⟨mL, ns, fun h' hs' => ?_⟩
  refine bc fun z9 => ?_
  obtain ⟨oL, es, ep, e, dL, _⟩ := ns
  refine z9 ?_
  obtain ⟨r2, t2⟩ := r'.aside (tk := s'.toks) d' e (by rintro (⟨_, _, _, q⟩ | ⟨_, _, q, _⟩) <;> rw [dL] at q <;> cases q) hs'.extBut
  exact ⟨.obj D, _, .obj D, r2, t'.trans t2, hR D hm⟩
end
section
variable {G : GS} {A : Around} {P : PC}
theorem base_of {o : Expr} {attr : Str} {env : Env} {t : Sem Value} (h : notCall o = true) : attributeBase o attr env t = t := by
  cases o <;> first | rfl | exact absurd h Bool.false_ne_true
theorem meth_few {o : Expr} {name : Str} {ap pos : Pos} {env : Env} {ov : Value} {xs : List Expr} {s : Shared} {Q : Value → Shared → Prop} (hn : xs.length < 20) (hl : ap.endLine = pos.line)
    (h : ∀ pl : Sem Bool, wpAny (model G.prog G.w) A (getMethod ov name pl) (fun p s₁ => wpAny (model G.prog G.w) A (callWith pos p.1 p.2 (xs.map fun e => (false, eval e env)) []) Q NoE s₁) NoE s) :
    wpAny (model G.prog G.w) A (methodCall o name ap pos env ov (xs.length + ([] : List Keyword).length) (xs.map fun e => (false, eval e env)) (backToKw pos (keywordEach [] env))) Q NoE s := by
  have few : methodCallForm (xs.length + ([] : List Keyword).length) (xs.map fun e => (false, eval e env)) (backToKw pos (keywordEach [] env)) = true := by
    unfold methodCallForm
    simp only [Bool.and_eq_true, decide_eq_true_eq]
    refine ⟨⟨?_, rfl⟩, ?_⟩
    · rw [List.all_map, List.all_eq_true]; intro _ _; rfl
    · show xs.length + 0 + 0 < 30
      exact Nat.le_trans ‹_› (by decide)
  unfold methodCall
  rw [ few ]
  refine wpAny_bind (wpAny_holding ?_)
  refine wpAny_mono (h _) (fun p s₁ h₁ => ?_) fun _ _ x => x
  obtain ⟨f, first⟩ := p
  refine wpAny_bind ?_
  unfold methodCallPos
  rw [if_pos (by simp [hl])]
  exact wpAny_pure h₁
theorem w_release {M : Model} {A : Around} {E : Value → Shared → Prop} {s : Shared} {vs keep : List Value} {Q : Unit → Shared → Prop} (h : Q () s) : wpAny M A (release vs keep) Q E s :=
  fun Γ p _ => by rw [Sem.wp_release]; exact h
theorem w_eq {α : Type} {M : Model} {A : Around} {E : Value → Shared → Prop} {s : Shared} {x y : Sem α} {Q : α → Shared → Prop} (e : x = y) (h : wpAny M A y Q E s) : wpAny M A x Q E s := e ▸ h
theorem w_mono {α : Type} {M : Model} {A : Around} {E : Value → Shared → Prop} {s : Shared} {x : Sem α} {P Q : α → Shared → Prop} (h : wpAny M A x P E s) (k : ∀ a s, P a s → Q a s) : wpAny M A x Q E s := wpAny_mono h k fun _ _ x => x
structure Cx (G : GS) (A : Around) (P : PC) (Γ : FE) (C : SC) : Prop where
  g : G.ok
  b : G.bi
  a : Rm A
  p : P.run G A
  ok : Γ.ok
  c : C.ok G Γ
noncomputable def SE (G : GS) (A : Around) (P : PC) (x : Ex) : Prop := ∀ (Γ : FE) (C : SC), Cx G A P Γ C → ∀ (e : Expr), chkE C x e = true → ∀ (Q : V → St → Prop) (σ : St), wpE P x Q σ → W G A Γ (eval e Γ.env) Q σ
noncomputable def ST (G : GS) (A : Around) (P : PC) (x : Ex) : Prop := ∀ (Γ : FE) (C : SC), Cx G A P Γ C → ∀ (e : Expr), chkE C x e = true → ∀ (Q : Bool → St → Prop) (σ : St), wpT P x (wpE P x) Q σ → WB G A Γ (isTrue e Γ.env (eval e Γ.env)) Q σ
structure SX (G : GS) (A : Around) (P : PC) (x : Ex) : Prop where
  e : SE G A P x
  t : ST G A P x
structure SL (G : GS) (A : Around) (P : PC) (xs : List Ex) : Prop where
  es : ∀ (Γ : FE) (C : SC), Cx G A P Γ C → ∀ (es : List Expr), chkEs C xs es = true → ∀ (Q : List V → St → Prop) (σ : St), wpEs P xs Q σ → Wn G A Γ es.length (spliced (es.map fun e => (false, eval e Γ.env))) Q σ
  cs : ∀ (Γ : FE) (C : SC), Cx G A P Γ C → ∀ (es : List Expr), chkEs C xs es = true → ∀ (Q : Bool → St → Prop) (σ : St), wpTs P true xs Q σ → WB G A Γ (testsOf es Γ.env) Q σ
  ch : ∀ (Γ : FE) (C : SC), Cx G A P Γ C → ∀ (es : List Expr), chkEs C xs es = true → ∀ (ops : List CmpOp) (v : V) (Q : Bool → St → Prop) (σ : St), wpCh P ops xs v Q σ → ∀ (pos : Pos) frz s cv, Rep G Γ frz σ s → RV s.heap cv v →
    wpAny (model G.prog G.w) A (compareChain pos cv ops (evalEach es Γ.env)) (fun cr s' => ∃ b, cr = .bool b ∧ PB G Γ frz s Q b s') NoE s
  ct : ∀ (Γ : FE) (C : SC), Cx G A P Γ C → ∀ (es : List Expr), chkEs C xs es = true → ∀ (ops : List CmpOp) (v : V) (Q : Bool → St → Prop) (σ : St), wpCh P ops xs v Q σ → ∀ (pos : Pos) frz s cv, Rep G Γ frz σ s → RV s.heap cv v →
    wpAny (model G.prog G.w) A (testChain pos cv ops (evalEach es Γ.env)) (PB G Γ frz s Q) NoE s
  bo : ∀ (Γ : FE) (C : SC), Cx G A P Γ C → ∀ (es : List Expr), chkEs C xs es = true → ∀ (k : Bool) (Q : V → St → Prop) (σ : St), wpBo P k xs Q σ → ∀ (pos : Pos), W G A Γ (boolOp pos (if k then .And else .Or) (evalEach es Γ.env)) Q σ
  ts : ∀ (Γ : FE) (C : SC), Cx G A P Γ C → ∀ (es : List Expr), chkEs C xs es = true → ∀ (k : Bool) (Q : Bool → St → Prop) (σ : St), wpTs P k xs Q σ → WB G A Γ (allTrue (if k then .And else .Or) es Γ.env) Q σ
theorem isNone_e {x : Ex} (h : isNoneEx x = true) : x = .lit .none := by
  cases x <;> first | exact absurd h Bool.false_ne_true | skip
  rename_i v
  cases v <;> first | rfl | exact absurd h Bool.false_ne_true
theorem soundO_none {Γ : FE} {C : SC} {x : Ex} {frz : Frz} {s : Shared} {Q : V → St → Prop} {σ : St} (h : chkO C x none = true) (w : wpE P x Q σ) (r : Rep G Γ frz σ s) : PV G Γ frz s Q .none s := by
  cases isNone_e h
  exact ⟨_, _, .none, r, .refl _, w⟩
theorem soundO {Γ : FE} {C : SC} {x : Ex} (X : Cx G A P Γ C) (ih : SE G A P x) (e : Option Expr) (h : chkO C x e = true) {Q : V → St → Prop} {σ : St} (w : wpE P x Q σ) :
    W G A Γ (valueOrNone (evalOpt e Γ.env)) Q σ := by
  cases e with
  | none => exact fun frz s r => wpAny_pure (soundO_none h w r)
  | some e => exact ih Γ C X e h _ _ w
noncomputable def plainT (e : Expr) : Bool := match e with
  | .UnaryOp o _ _ => !(o == .Not)
  | e => e.ctorIdx != 0 && (e.ctorIdx != 15 && (e.ctorIdx != 5 && e.ctorIdx != 1))
theorem isTrue_plain {e : Expr} {env : Env} (h : plainT e = true) : isTrue e env (eval e env) = (do let v ← eval e env; standAt e.pos; holding [v] (truthy v)) := by
  cases e <;> first | rfl | exact absurd h Bool.false_ne_true | skip
  rename_i o _ _
  cases o <;> first | rfl | exact absurd h Bool.false_ne_true
theorem st_plain {x : Ex} (ih : SE G A P x) (hx : ∀ C e, chkE C x e = true → plainT e = true) (hw : ∀ (Q : Bool → St → Prop) (σ : St), wpT P x (wpE P x) Q σ → wpE P x (fun v σ₁ => wpTruth σ₁.mem v fun b => Q b σ₁) σ) : ST G A P x :=
  fun Γ C X e h _ _ w => w_default (ih Γ C X e h _ _ (hw _ _ w)) (isTrue_plain (hx C e h))
theorem tests_off {env : Env} {post : Bool → Shared → Prop} {E : Value → Shared → Prop} : ∀ (es : List Expr) {s : Shared}, post false s →
    wpAny (model G.prog G.w) A (forIn es false fun c r => if r = true then do let ok ← isTrue c env (eval c env); pure (ForInStep.yield ok) else pure (ForInStep.yield r)) post E s
  | [], s, q => wpAny_pure q
  | e :: es, s, q => by
    rw [List.forIn_cons]
    exact wpAny_bind (wpAny_pure (tests_off es q))
theorem tests_cons {env : Env} {e : Expr} {es : List Expr} {post : Bool → Shared → Prop} {E : Value → Shared → Prop} {s : Shared}
    (h : wpAny (model G.prog G.w) A (isTrue e env (eval e env)) (fun b s₁ => wpAny (model G.prog G.w) A (forIn es b fun c r => if r = true then do let ok ← isTrue c env (eval c env); pure (ForInStep.yield ok) else pure (ForInStep.yield r)) post E s₁) E s) :
    wpAny (model G.prog G.w) A (testsOf (e :: es) env) post E s := by
  unfold testsOf
  rw [List.forIn_cons]
  exact wpAny_bind (wpAny_bind (wpAny_mono h (fun b s₁ q => wpAny_pure q) fun _ _ x => x))
theorem PO.pv {Γ : FE} {frz : Frz} {σ : St} {s s₀ s' : Shared} {cv : Value} {Q : V → St → Prop} (k : TK s₀.heap s.heap) (h : PO G Γ frz σ s (fun r m => Q r { σ with mem := m }) cv s') : PV G Γ frz s₀ Q cv s' := (h.toPV fun _ _ q => q).after k
theorem PO.pv' {Γ : FE} {frz : Frz} {σ : St} {s s₀ s' : Shared} {cv : Value} {Q : V → St → Prop} (k : TK s₀.heap s.heap) (h : PO G Γ frz σ s (fun r m => m = σ.mem ∧ Q r σ) cv s') : PV G Γ frz s₀ Q cv s' := (h.toPV fun r m ⟨e, q⟩ => by subst e; exact q).after k
section
variable {a b c : Ex} {es : List Ex}
theorem se_lit {v : V} : SE G A P (.lit v) := fun Γ C X e h Q σ w => isConst_e (e := e) (K := fun c => litOk v c) (M := fun e => W G A Γ (eval e Γ.env) Q σ) h fun _ _ _ q => w_lit q w
theorem se_var {i : Nat} : SE G A P (.var i) := fun Γ C X e h Q σ w => isName_e (e := e) (K := fun n => C.is i n) (M := fun e => W G A Γ (eval e Γ.env) Q σ) h fun _ _ q =>
  let ⟨_, hk⟩ := is_of X.c q
  let ⟨_, hv, q⟩ := loc_inv w
  w_name X.ok hk hv q
theorem se_bin {op : Operator} (ia : SE G A P a) (ib : SE G A P b) : SE G A P (.bin op a b) := fun Γ C X e h Q σ w => chk_bin h fun l r p h1 h2 frz s R =>
  wpAny_BinOp ((ia Γ C X l h1 _ _ w).then R fun cv v σ₁ s₁ a1 b1 c1 d1 => (ib Γ C X r h2 _ _ d1).then b1 fun cu u σ₂ s₂ a2 b2 c2 d2 => w_mono (s_bin d2 b2 (a1.tk c2) a2) fun _ _ h3 => h3.pv (c1.trans c2))
theorem neg_val {Γ : FE} {frz : Frz} {σ : St} {s s₀ : Shared} {v : V} {cv : Value} {Q : V → St → Prop} (w : match v with | .int i => Q (.int (-i)) σ | _ => False) (k : TK s₀.heap s.heap) (r : Rep G Γ frz σ s) (hv : RV s.heap cv v) : wpAny (model G.prog G.w) A (unaryOp .USub cv) (PV G Γ frz s₀ Q) NoE s := by
  cases v <;> first | exact False.elim w | skip
  exact hv.eI fun _ => neg_int ⟨_, _, .int _ _, r.toks _, k, w⟩
theorem se_neg (ia : SE G A P a) : SE G A P (.neg a) := fun Γ C X e h Q σ w => chk_neg h fun y p h frz s R =>
  w_eq (arm_eval_UnaryOp _ _ _ _) (wpAny_bind ((ia Γ C X y h _ _ w).then R fun cv v σ₁ s₁ a1 b1 c1 d1 => wpAny_bind (wpAny_standAt (wpAny_holding (neg_val d1 c1 b1 a1)))))
theorem se_not (ia : SE G A P a) : SE G A P (.not a) := fun Γ C X e h Q σ w => chk_not h fun y p h frz s R =>
  w_eq (arm_eval_UnaryOp _ _ _ _) (wpAny_bind ((ia Γ C X y h _ _ w).then R fun cv v σ₁ s₁ a1 b1 c1 d1 => wpAny_bind (wpAny_standAt (wpAny_holding (not_of (w_mono (s_truth d1 b1 a1) fun b s₂ h2 => ⟨_, _, .bool _, h2.1, c1.trans h2.2.1, h2.2.2⟩))))))
theorem se_ite (ic : ST G A P c) (ia : SE G A P a) (ib : SE G A P b) : SE G A P (.ite c a b) := fun Γ C X e h Q σ w => chk_ite h fun t y z p h1 h2 h3 frz s R =>
  w_eq (arm_eval_IfExp _ _ _ _ _) (wpAny_bind ((ic Γ C X t h1 _ _ w).then R fun t σ₁ s₁ b1 c1 d1 => by
    cases t with
    | true => exact w_mono (ia Γ C X y h2 _ _ d1 frz s₁ b1) fun _ _ h3 => h3.after c1
    | false => exact w_mono (ib Γ C X z h3 _ _ d1 frz s₁ b1) fun _ _ h3 => h3.after c1))
theorem size_lt {cvs : List Value} {n : Nat} (h : n < 1000) (l : cvs.length = n) : cvs.toArray.size ≤ sizeLine := by rw [List.size_toArray, l, sizeLine_eq]; exact Nat.le_trans (Nat.le_of_lt h) (by decide)
theorem se_list (is : SL G A P es) : SE G A P (.list es) := fun Γ C X e h Q σ w => chk_list h fun xs p hn h frz s R =>
  List_ (w_eq (by rw [star_of h, back_of]) ((is.es Γ C X xs h _ _ w).then R fun cvs vs σ₁ s₁ l1 a1 b1 c1 d1 => wpAny_newObj_type
    ((PO.newList (Q := fun r m => Q r { σ₁ with mem := m }) b1 (tk := s₁.toks) (arr := cvs.toArray) (List.toList_toArray.symm ▸ a1) d1).pv c1) (size_lt hn l1)))
theorem se_tup (is : SL G A P es) : SE G A P (.tup es) := fun Γ C X e h Q σ w => chk_tup h fun xs n p hn h frz s R =>
  Tuple_ (w_eq (by rw [star_of h, back_of]) ((is.es Γ C X xs h _ _ w).then R fun cvs vs σ₁ s₁ l1 a1 b1 c1 d1 => wpAny_newObj_type
    ((PO.newTup (Q := fun r m => Q r { σ₁ with mem := m }) b1 (tk := s₁.toks) (arr := cvs.toArray) (List.toList_toArray.symm ▸ a1) d1).pv c1) (size_lt hn l1)))
theorem se_cmp {ops : List CmpOp} (ia : SE G A P a) (is : SL G A P es) : SE G A P (.cmp a ops es) := fun Γ C X e h Q σ w => chk_cmp h fun l cs p h1 h2 frz s R =>
  w_eq ((arm_eval_Compare _ _ _ _ _).trans (by rw [ marked_of _ h2 ])) (wpAny_bind ((ia Γ C X l h1 _ _ w).then R fun cv v σ₁ s₁ a1 b1 c1 d1 =>
    w_mono (is.ch Γ C X cs h2 _ _ _ _ d1 p frz s₁ cv b1 a1) fun _ _ ⟨b, e, σ', r', q, t⟩ => ⟨_, σ', e ▸ .bool _, r', c1.trans q, t⟩))
theorem se_band (is : SL G A P es) : SE G A P (.band es) := fun Γ C X e h Q σ w => chk_band h fun xs p h frz s R =>
  w_eq (arm_eval_BoolOp _ _ _ _) (is.bo Γ C X xs h true _ _ w p frz s R)
theorem se_bor (is : SL G A P es) : SE G A P (.bor es) := fun Γ C X e h Q σ w => chk_bor h fun xs p h frz s R =>
  w_eq (arm_eval_BoolOp _ _ _ _) (is.bo Γ C X xs h false _ _ w p frz s R)
theorem se_idx (ia : SE G A P a) (ib : SE G A P b) : SE G A P (.idx a b) := fun Γ C X e h Q σ w => chk_idx h fun l r p h1 h2 frz s R =>
  Subscript_ ((ia Γ C X l h1 _ _ w).then R fun cv v σ₁ s₁ a1 b1 c1 d1 => (ib Γ C X r h2 _ _ d1).then b1 fun cu u σ₂ s₂ a2 b2 c2 d2 => w_mono (s_idx d2 b2 (a1.tk c2) a2) fun _ _ h3 => h3.pv' (c1.trans c2))
theorem se_slc {lo hi st : Ex} (ia : SE G A P a) (il : SE G A P lo) (ih : SE G A P hi) (is : SE G A P st) : SE G A P (.slc a lo hi st) := fun Γ C X e h Q σ w =>
  isSub_e (e := e) (K := fun v s => isSlice s fun l u k => chkE C a v && (chkO C lo l && (chkO C hi u && chkO C st k))) (M := fun e => W G A Γ (eval e Γ.env) Q σ) h fun v sl p q =>
    isSlice_e (e := sl) (K := fun l u k => chkE C a v && (chkO C lo l && (chkO C hi u && chkO C st k))) (M := fun sl => W G A Γ (eval (.Subscript v sl p) Γ.env) Q σ) q fun l u k p' q frz s R => by
      obtain ⟨q1, q⟩ := and_e q
      obtain ⟨q2, q⟩ := and_e q
      obtain ⟨q3, q4⟩ := and_e q
      refine Subscript_ ((ia Γ C X v q1 _ _ w).then R fun cv v σ₁ s₁ a1 b1 c1 d1 => w_eq (arm_eval_Slice _ _ _ _ _) ?_)
      refine wpAny_bind ((soundO X il l q2 d1).then b1 fun cl l σ₂ s₂ a2 b2 c2 d2 => wpAny_bind (wpAny_holding ((soundO X ih u q3 d2).then b2 fun ch hh σ₃ s₃ a3 b3 c3 d3 =>
        wpAny_bind (wpAny_holding ((soundO X is k q4 d3).then b3 fun cs ss σ₄ s₄ a4 b4 c4 d4 => wpAny_newObj_type ?_)))))
      exact w_mono (s_slc d4 b4 (a1.tk (c2.trans (c3.trans c4))) (a2.tk (c3.trans c4)) (a3.tk c4) a4) fun _ _ h3 => h3.pv (c1.trans (c2.trans (c3.trans c4)))
theorem se_attr {n : String} (ia : SE G A P a) : SE G A P (.attr a n) := fun Γ C X e h Q σ w => chk_attr h fun v p h1 h2 frz s R => by
  refine w_eq ((arm_eval_Attribute _ _ _ _).trans (by rw [base_of h1])) (wpAny_bind ((ia Γ C X v h2 _ _ w).then R fun cv v σ₁ s₁ a1 b1 c1 d1 => wpAny_bind (wpAny_standAt (wpAny_bind (wpAny_holding (w_mono (s_attr X.g X.p.ok d1 b1 a1) fun cr s₂ h2 => ?_))))))
  exact wpAny_bind (wpAny_letTemporaryGo (wpAny_pure (h2.pv' c1)))
theorem se_bi {b : Bi} (is : SL G A P es) : SE G A P (.bi b es) := fun Γ C X e h' Q σ w => call_name (x := e) (K := fun f xs => C.glob b.name f && chkEs C es xs) (M := fun e => W G A Γ (eval e Γ.env) Q σ) h' fun f q xs p h frz s R => by
  obtain ⟨h1, h6⟩ := and_e h
  obtain ⟨rfl, hk, hd⟩ := glob_of X.c h1
  refine w_eq (eval_CallName _ _ _ _ _) (w_eq (by rw [star_of h6, back_of]) (wpAny_bind (w_builtin X.g X.b X.ok R hk hd (call_val (plain_args _ _) (w_args (is.es Γ C X xs h6 _ _ w).ws R fun cvs vs σ₁ s₁ a1 b1 c1 d1 => ?_)))))
  exact w_mono (s_bi X.a X.ok d1 b1 a1) fun _ _ h3 => h3.pv c1
theorem se_call {n : String} (is : SL G A P es) : SE G A P (.call n es) := fun Γ C X e h' Q σ w => call_name (x := e) (K := fun f xs => C.fns.contains n && (C.glob n f && chkEs C es xs)) (M := fun e => W G A Γ (eval e Γ.env) Q σ) h' fun f q xs p h frz s R => by
  obtain ⟨h0, h⟩ := and_e h
  obtain ⟨h1, h6⟩ := and_e h
  obtain ⟨rfl, hk, hd⟩ := glob_of X.c h1
  obtain ⟨f, hf1, hf2, hf3⟩ := X.p.call n (X.c.fns n (List.contains_iff_mem.mp h0))
  refine w_eq (eval_CallName _ _ _ _ _) (w_eq (by rw [star_of h6, back_of]) (wpAny_bind (w_global X.g X.ok R hk hd hf1 (callWith_of (P := G.K.In) (by rw [plain_args]; rfl) (keeps_K hf2) (w_args (is.es Γ C X xs h6 _ _ w).ws R fun cvs vs σ₁ s₁ a1 b1 c1 d1 => ⟨b1.kin X.g, ?_⟩)))))
  exact w_mono (hf3 _ _ _ d1 Γ frz σ₁ s₁ cvs X.ok b1 rfl a1) fun _ _ h3 => h3.pv c1
theorem se_me {m : Me} (ia : SE G A P a) (is : SL G A P es) : SE G A P (.me a m es) := fun Γ C X e h Q σ w => call_attr (x := e) (n := m.name) (o := a) (args := es) (C := C) (M := fun e => W G A Γ (eval e Γ.env) Q σ) h fun v q xs p h1 h2 h3 h4 h5 frz s R => by
  refine w_eq ((arm_eval_Call _ _ _ _ _ _ _).trans (by rw [base_of h3, star_of h5, back_of])) (wpAny_bind ((ia Γ C X v h4 _ _ w).then R fun cv v σ₁ s₁ a1 b1 c1 d1 => wpAny_bind (wpAny_standAt (meth_few h2 h1 fun pl => s_getMe d1.1 b1 a1 ?_))))
  refine Calls.callWith_builtin (plain_args _ _) (w_args (is.es Γ C X xs h5 _ _ d1.2).ws b1 fun cvs vs σ₂ s₂ a2 b2 c2 d2 => ?_)
  exact w_mono (s_me X.ok d2 b2 (a1.tk c2) a2) fun _ _ h3 => h3.pv (c1.trans c2)
theorem se_imeth {n : String} (ia : SE G A P a) (is : SL G A P es) : SE G A P (.imeth a n es) := fun Γ C X e h Q σ w =>
  have hm := and_e h
  call_attr (x := e) (n := n) (o := a) (args := es) (C := C) (M := fun e => W G A Γ (eval e Γ.env) Q σ) hm.2 fun v q xs p h1 h2 h3 h4 h5 frz s R => by
  refine bc fun z9 => ?_
  obtain ⟨f, hf1, hf2, hf3, hf4, hf5⟩ := X.p.meth n (X.c.meths n (List.contains_iff_mem.mp hm.1))
  refine z9 ?_
  refine w_eq ((arm_eval_Call _ _ _ _ _ _ _).trans (by rw [base_of h3, star_of h5, back_of])) (wpAny_bind ((ia Γ C X v h4 _ _ w).then R fun cv v σ₁ s₁ a1 b1 c1 d1 => wpAny_bind (wpAny_standAt ?_)))
  refine bc fun z9 => ?_
  obtain ⟨⟨a, d, fs, rfl, e1, e2, e3⟩, w1⟩ := d1
  refine z9 ?_
  refine bc fun z9 => ?_
  obtain ⟨es, k, I, hF, _⟩ := inst_at b1 e1 e2
  refine z9 ?_
  refine a1.eO (meth_few h2 h1 fun pl => method_fn (b1.kin X.g) I (plainGet_of hf3).1 (plainGet_of hf3).2 hf1 (beq_iff_eq.mp hf2) ?_ ?_)
  · show (lookIn _ (dictOf es k)).map _ = _
    rw [lookIn_dict, (fields_get hF).2 e3]; rfl
  refine callWith_of (P := G.K.In) (by rw [plain_args]; rfl) (keeps_K hf4) (w_args (is.es Γ C X xs h5 _ _ w1).ws b1 fun cvs vs σ₂ s₂ a2 b2 c2 d2 => ⟨b2.kin X.g, ?_⟩)
  exact w_mono (hf5 _ _ _ d2 Γ frz σ₂ s₂ _ X.ok b2 rfl (.cons (.obj _) a2)) fun _ _ h3 => h3.pv (c1.trans c2)
theorem se_lcall {i : Nat} (is : SL G A P es) : SE G A P (.lcall i es) := fun Γ C X e h' Q σ w => call_name (x := e) (K := fun f xs => C.is i f && chkEs C es xs) (M := fun e => W G A Γ (eval e Γ.env) Q σ) h' fun f q xs p h frz s R => by
  obtain ⟨h1, h⟩ := and_e h
  obtain ⟨k, hk⟩ := is_of X.c h1
  refine bc fun z9 => ?_
  obtain ⟨v, hv, w⟩ := loc_inv w
  refine z9 ?_
  refine w_eq (eval_CallName _ _ _ _ _) (w_eq (by rw [star_of h, back_of]) (wpAny_bind ((w_name (Q := fun u σ' => u = v ∧ σ' = σ) X.ok hk hv ⟨rfl, rfl⟩).then R fun cv v' σ₁ s₁ a1 b1 c1 ⟨e1, e2⟩ => ?_)))
  subst e1 e2
  refine callWith_of (P := fun h => ∃ a fo fd, cv = .ref a ∧ h.get? a = some fo ∧ fo.data = .func fd) (by rw [plain_args]; rfl) (fun h ⟨a, fo, fd, e, g, d⟩ => e ▸ keep_raw h g d)
    (w_args (is.es Γ C X xs h _ _ w).ws b1 fun cvs vs σ₂ s₂ a2 b2 c2 d2 => ?_)
  refine bc fun z9 => ?_
  obtain ⟨a, fo, fd, rfl, g1, g2, hs⟩ := X.p.loc _ _ _ _ d2
  refine z9 ?_
  refine a1.eO ⟨⟨a, fo, fd, rfl, ?_, g2⟩, ?_⟩
  · cases b2.hmem _ _ g1 with
    | raw g _ => exact g
  · exact w_mono (hs Γ frz σ₂ s₂ cvs X.ok b2 rfl a2) fun _ _ h3 => h3.pv (c1.trans c2)
inductive LC1 (C : SC) (elt it : Ex) (one : Bool) (is caps : List Nat) (cs : List Ex) (n : Nat) (x : Expr) : Prop
  | mk (e t i : Expr) (ifs : List Expr) (sc : Scope) (p : Pos) : x = .ListComp e [⟨t, i, ifs, 0⟩] sc p → plainE i = true → chkE C it i = true → compOk C sc n caps = true → chkBind (compSC C sc) one is t = true → chkEs (compSC C sc) cs ifs = true → chkE (compSC C sc) elt e = true → LC1 C elt it one is caps cs n x
theorem chk_comp {C : SC} {elt it : Ex} {one : Bool} {is caps : List Nat} {cs : List Ex} {n : Nat} {x : Expr} (h : chkE C (.comp elt one is it cs n caps) x = true) : LC1 C elt it one is caps cs n x :=
  isLC_e (e := x) (K := fun e gs sc => gen1 gs fun t i ifs => plainE i && (chkE C it i && (compOk C sc n caps && (chkBind (compSC C sc) one is t && (chkEs (compSC C sc) cs ifs && chkE (compSC C sc) elt e))))) (M := LC1 C elt it one is caps cs n) h
    fun e gs sc p q => gen1_inv (M := fun gs => LC1 C elt it one is caps cs n (.ListComp e gs sc p)) q fun t i ifs q => by
      obtain ⟨q1, q⟩ := and_e q
      obtain ⟨q2, q⟩ := and_e q
      obtain ⟨q3, q⟩ := and_e q
      obtain ⟨q4, q⟩ := and_e q
      exact ⟨e, t, i, ifs, sc, p, rfl, q1, q2, q3, q4, (and_e q).1, (and_e q).2⟩
theorem Cx.comp {Γ : FE} {C : SC} {sc : Scope} {n : Nat} {caps : List Nat} (X : Cx G A P Γ C) (hc : CompOk C sc n caps) (L : Addr) : Cx G A P (compFE Γ sc L) (compSC C sc) := ⟨X.g, X.b, X.a, X.p, comp_ok X.ok X.c hc L, comp_sc X.ok X.c hc L⟩
theorem comp_walk {Γ : FE} {C : SC} {elt : Ex} {one : Bool} {is caps : List Nat} {cs : List Ex} {n : Nat} {sc : Scope} {e t i : Expr} {ifs : List Expr} {p : Pos} (X : Cx G A P Γ C) (ie : SE G A P elt) (ic : SL G A P cs) (hc : CompOk C sc n caps) (h4 : chkBind (compSC C sc) one is t = true) (h5 : chkEs (compSC C sc) cs ifs = true) (h6 : chkE (compSC C sc) elt e = true) (L : Addr) :
    CompRun G A (compFE Γ sc L) (.ListComp e [⟨t, i, ifs, 0⟩] sc p) (fun vs g R σ => wpComp (bindIs one is) (wpTs P true cs) (wpE P elt) g R vs [] σ) :=
  fun r hne d1 d2 ho hi ha hs w _ fin => comp_run rfl X.a ⟨fun w _ _ _ r hv => s_bindIs X.a (X.comp hc L).ok (X.comp hc L).c h4 w r hv, fun w => ic.cs _ _ (X.comp hc L) ifs h5 _ _ w, fun w => ie _ _ (X.comp hc L) e h6 _ _ w⟩ r hne d1 d2 ho hi ha .nil (by show sma (0 + _); rwa [Nat.zero_add]) w fin
theorem se_comp {it : Ex} {one : Bool} {is caps : List Nat} {n : Nat} (ie : SE G A P a) (ii : SE G A P it) (ic : SL G A P es) : SE G A P (.comp a one is it es n caps) := fun Γ C X e h Q σ w => by
  refine bc fun z9 => ?_
  obtain ⟨e, t, i, ifs, sc, p, rfl, h1, h2, h3, h4, h5, h6⟩ := chk_comp h
  refine z9 ?_
  exact s_comp X.a X.ok X.c (compOk_of h3) h1 (comp_walk X ie ic (compOk_of h3) h4 h5 h6) (ii Γ C X i h2 _ _ w)
inductive LC2 (C : SC) (elt it iti : Ex) (one : Bool) (is caps : List Nat) (j n : Nat) (x : Expr) : Prop
  | mk (e t i t' i' : Expr) (sc : Scope) (p : Pos) : x = .ListComp e [⟨t, i, [], 0⟩, ⟨t', i', [], 0⟩] sc p → plainE i = true → plainE i' = true → chkE C it i = true → compOk C sc n caps = true → chkBind (compSC C sc) one is t = true → chkBind (compSC C sc) true [j] t' = true →
    chkE (compSC C sc) iti i' = true → chkE (compSC C sc) elt e = true → LC2 C elt it iti one is caps j n x
theorem chk_comp2 {C : SC} {elt it iti : Ex} {one : Bool} {is caps : List Nat} {j n : Nat} {x : Expr} (h : chkE C (.comp2 elt one is it iti j n caps) x = true) : LC2 C elt it iti one is caps j n x :=
  isLC_e (e := x) (K := fun e gs sc => gen2 gs fun t i t' i' => plainE i && (plainE i' && (chkE C it i && (compOk C sc n caps && (chkBind (compSC C sc) one is t && (chkBind (compSC C sc) true [j] t' && (chkE (compSC C sc) iti i' && chkE (compSC C sc) elt e))))))) (M := LC2 C elt it iti one is caps j n) h
    fun e gs sc p q => gen2_inv (M := fun gs => LC2 C elt it iti one is caps j n (.ListComp e gs sc p)) q fun t i t' i' q => by
      obtain ⟨q1, q⟩ := and_e q
      obtain ⟨q2, q⟩ := and_e q
      obtain ⟨q3, q⟩ := and_e q
      obtain ⟨q4, q⟩ := and_e q
      obtain ⟨q5, q⟩ := and_e q
      obtain ⟨q6, q⟩ := and_e q
      exact ⟨e, t, i, t', i', sc, p, rfl, q1, q2, q3, q4, q5, q6, (and_e q).1, (and_e q).2⟩
theorem comp_walk2 {Γ : FE} {C : SC} {elt iti : Ex} {one : Bool} {is caps : List Nat} {j n : Nat} {sc : Scope} {e t i t' i' : Expr} {p : Pos} (X : Cx G A P Γ C) (ie : SE G A P elt) (ii : SE G A P iti) (hc : CompOk C sc n caps) (hp : plainE i' = true) (h4 : chkBind (compSC C sc) one is t = true) (h4' : chkBind (compSC C sc) true [j] t' = true) (h5 : chkE (compSC C sc) iti i' = true) (h6 : chkE (compSC C sc) elt e = true) (L : Addr) :
    CompRun G A (compFE Γ sc L) (.ListComp e [⟨t, i, [], 0⟩, ⟨t', i', [], 0⟩] sc p) (fun vs g R σ => wpComp2 (bindIs one is) (wpE P iti) (bindIs true [j]) (fun k σ => k true σ) (wpE P elt) g R vs [] σ) :=
  fun r hne d1 d2 ho hi ha hs w _ fin => comp_run2 X.a (folded_plain hp) (X.comp hc L).ok (fun w _ _ _ r hv => s_bindIs X.a (X.comp hc L).ok (X.comp hc L).c h4 w r hv) (fun w => ii _ _ (X.comp hc L) i' h5 _ _ w)
    ⟨fun w _ _ _ r hv => s_bindIs X.a (X.comp hc L).ok (X.comp hc L).c h4' w r hv, fun w _ _ r => wpAny_pure ⟨_, r, .refl _, w⟩, fun w => ie _ _ (X.comp hc L) e h6 _ _ w⟩ r hne d1 d2 ho hi ha .nil w fin
theorem se_comp2 {it iti : Ex} {one : Bool} {is caps : List Nat} {j n : Nat} (ie : SE G A P a) (ii : SE G A P it) (ij : SE G A P iti) : SE G A P (.comp2 a one is it iti j n caps) := fun Γ C X e h Q σ w => by
  refine bc fun z9 => ?_
  obtain ⟨e, t, i, t', i', sc, p, rfl, h1, hp, h2, h3, h4, h4', h5, h6⟩ := chk_comp2 h
  refine z9 ?_
  exact s_comp X.a X.ok X.c (compOk_of h3) h1 (comp_walk2 X ie ij (compOk_of h3) hp h4 h4' h5 h6) (ii Γ C X i h2 _ _ w)
theorem st_not (ia : ST G A P a) : ST G A P (.not a) := fun Γ C X e h Q σ w => chk_not h fun y p h frz s R =>
  w_eq (arm_isTrue_UnaryOp _ _ _ _) (wpAny_bind ((ia Γ C X y h _ _ w).then R fun b σ₁ s₁ b1 c1 d1 => wpAny_pure ⟨σ₁, b1, c1, d1⟩))
theorem st_band (is : SL G A P es) : ST G A P (.band es) := fun Γ C X e h Q σ w => chk_band h fun xs p h frz s R => w_eq (arm_isTrue_BoolOp _ _ _ _ _) (is.ts Γ C X xs h true _ _ w frz s R)
theorem st_bor (is : SL G A P es) : ST G A P (.bor es) := fun Γ C X e h Q σ w => chk_bor h fun xs p h frz s R => w_eq (arm_isTrue_BoolOp _ _ _ _ _) (is.ts Γ C X xs h false _ _ w frz s R)
theorem st_ite (ic : ST G A P c) (ia : ST G A P a) (ib : ST G A P b) : ST G A P (.ite c a b) := fun Γ C X e h Q σ w => chk_ite h fun t y z p h1 h2 h3 frz s R =>
  w_eq (arm_isTrue_IfExp _ _ _ _ _ _) (wpAny_bind ((ic Γ C X t h1 _ _ w).then R fun t σ₁ s₁ b1 c1 d1 => by
    cases t with
    | true => exact w_mono (ia Γ C X y h2 _ _ d1 frz s₁ b1) fun _ _ h3 => h3.after c1
    | false => exact w_mono (ib Γ C X z h3 _ _ d1 frz s₁ b1) fun _ _ h3 => h3.after c1))
theorem st_cmp {ops : List CmpOp} (ia : SE G A P a) (is : SL G A P es) : ST G A P (.cmp a ops es) := fun Γ C X e h Q σ w => chk_cmp h fun l cs p h1 h2 frz s R =>
  w_eq ((arm_isTrue_Compare _ _ _ _ _ _).trans (by rw [ marked_of _ h2 ])) (wpAny_bind ((ia Γ C X l h1 _ _ w).then R fun cv v σ₁ s₁ a1 b1 c1 d1 =>
    w_mono (is.ct Γ C X cs h2 _ _ _ _ d1 p frz s₁ cv b1 a1) fun _ _ h3 => h3.after c1))
theorem sl_nil : SL G A P [] where
  es Γ C X es h Q σ w := by cases chkEs_nil h; exact wn_nil w
  cs Γ C X es h Q σ w := by cases chkEs_nil h; exact fun frz s r => wpAny_pure ⟨σ, r, .refl _, w⟩
  ch Γ C X es h ops v Q σ w := by cases ops <;> exact False.elim w
  ct Γ C X es h ops v Q σ w := by cases ops <;> exact False.elim w
  bo Γ C X es h k Q σ w := False.elim w
  ts Γ C X es h k Q σ w := by
    cases chkEs_nil h
    exact fun frz s r => w_eq (arm_allTrue_nil _ _) (by cases k <;> exact wpAny_pure ⟨σ, r, .refl _, w⟩)
theorem le_es (i : SX G A P a) (is : SL G A P es) : ∀ (Γ : FE) (C : SC), Cx G A P Γ C → ∀ (xs : List Expr), chkEs C (a :: es) xs = true → ∀ (Q : List V → St → Prop) (σ : St), wpEs P (a :: es) Q σ → Wn G A Γ xs.length (spliced (xs.map fun e => (false, eval e Γ.env))) Q σ := fun Γ C X xs h Q σ w => by
  obtain ⟨e, xs, rfl, _, h1, h2⟩ := chkEs_cons h
  exact wn_cons fun frz s r => (i.e Γ C X e h1 _ _ w).then r fun cv v σ₁ s₁ a1 b1 c1 d1 => ⟨v, σ₁, a1, b1, c1, is.es Γ C X xs h2 _ _ d1⟩
theorem le_cs (i : SX G A P a) (is : SL G A P es) : ∀ (Γ : FE) (C : SC), Cx G A P Γ C → ∀ (xs : List Expr), chkEs C (a :: es) xs = true → ∀ (Q : Bool → St → Prop) (σ : St), wpTs P true (a :: es) Q σ → WB G A Γ (testsOf xs Γ.env) Q σ := fun Γ C X xs h Q σ w => by
  obtain ⟨e, xs, rfl, _, h1, h2⟩ := chkEs_cons h
  refine fun frz s r => tests_cons ((i.t Γ C X e h1 _ _ w).then r fun b σ₁ s₁ b1 c1 d1 => ?_)
  cases b with
  | true => exact w_mono (is.cs Γ C X xs h2 _ _ d1 frz s₁ b1) fun _ _ h3 => h3.after c1
  | false => exact tests_off xs ⟨σ₁, b1, c1, d1⟩
theorem ch_one {Γ : FE} {frz : Frz} {σ : St} {s s₀ : Shared} {op : CmpOp} {v u : V} {cv cu : Value} {Q : Bool → St → Prop} (hA : Rm A) (w : wpCmp σ.mem op v u fun b => Q b σ) (r : Rep G Γ frz σ s) (hv : RV s.heap cv v) (hu : RV s.heap cu u) (k : TK s₀.heap s.heap) :
    wpAny (model G.prog G.w) A (compareOp op cv cu) (fun cr s' => ∃ b, cr = .bool b ∧ PB G Γ frz s₀ Q b s') NoE s :=
  w_mono (s_cmp hA.un w r hv hu) fun _ _ ⟨b, e, p, q, t⟩ => ⟨b, e, σ, p, k.trans q, t⟩
theorem le_ch (i : SX G A P a) (is : SL G A P es) : ∀ (Γ : FE) (C : SC), Cx G A P Γ C → ∀ (xs : List Expr), chkEs C (a :: es) xs = true → ∀ (ops : List CmpOp) (v : V) (Q : Bool → St → Prop) (σ : St), wpCh P ops (a :: es) v Q σ → ∀ (pos : Pos) frz s cv, Rep G Γ frz σ s → RV s.heap cv v →
    wpAny (model G.prog G.w) A (compareChain pos cv ops (evalEach xs Γ.env)) (fun cr s' => ∃ b, cr = .bool b ∧ PB G Γ frz s Q b s') NoE s := fun Γ C X xs h ops v Q σ w pos frz s cv r hv => by
  obtain ⟨e, xs, rfl, _, h1, h2⟩ := chkEs_cons h
  cases ops with
  | nil => exact False.elim w
  | cons op ops =>
  cases ops with
  | nil =>
    cases es with
    | cons => exact False.elim w
    | nil =>
    cases chkEs_nil h2
    exact wpAny_bind (wpAny_holding ((i.e Γ C X e h1 _ _ w).then r fun cu u σ₁ s₁ a1 b1 c1 d1 => wpAny_bind (wpAny_standAt (wpAny_operating (ch_one X.a d1 b1 (hv.tk c1) a1 c1)))))
  | cons op' ops =>
    refine wpAny_bind (wpAny_holding ((i.e Γ C X e h1 _ _ w).then r fun cu u σ₁ s₁ a1 b1 c1 d1 => wpAny_bind (wpAny_standAt ?_)))
    refine wpAny_bind (wpAny_holding (w_mono (s_cmp X.a.un d1 b1 (hv.tk c1) a1) fun cr s₂ ⟨b, e, p, q, t⟩ => ?_))
    subst e
    refine wpAny_bind (w_release (wpAny_bind (wpAny_holding (wpAny_truthy_bool ?_))))
    cases b with
    | true => exact w_mono (is.ch Γ C X xs h2 _ _ _ _ t pos frz s₂ cu p (a1.tk q)) fun _ _ ⟨b, e, h3⟩ => ⟨b, e, h3.after (c1.trans q)⟩
    | false => exact wpAny_pure ⟨false, rfl, σ₁, p, c1.trans q, t⟩
theorem le_ct (i : SX G A P a) (is : SL G A P es) : ∀ (Γ : FE) (C : SC), Cx G A P Γ C → ∀ (xs : List Expr), chkEs C (a :: es) xs = true → ∀ (ops : List CmpOp) (v : V) (Q : Bool → St → Prop) (σ : St), wpCh P ops (a :: es) v Q σ → ∀ (pos : Pos) frz s cv, Rep G Γ frz σ s → RV s.heap cv v →
    wpAny (model G.prog G.w) A (testChain pos cv ops (evalEach xs Γ.env)) (PB G Γ frz s Q) NoE s := fun Γ C X xs h ops v Q σ w pos frz s cv r hv => by
  obtain ⟨e, xs, rfl, _, h1, h2⟩ := chkEs_cons h
  cases ops with
  | nil => exact False.elim w
  | cons op ops =>
  cases ops with
  | nil =>
    cases es with
    | cons => exact False.elim w
    | nil =>
    cases chkEs_nil h2
    exact wpAny_bind (wpAny_holding ((i.e Γ C X e h1 _ _ w).then r fun cu u σ₁ s₁ a1 b1 c1 d1 => wpAny_bind (wpAny_standAt (wpAny_bind (wpAny_operating (w_mono (ch_one X.a d1 b1 (hv.tk c1) a1 c1) fun _ _ ⟨b, e, t⟩ => by subst e; exact wpAny_holding (wpAny_truthy_bool t)))))))
  | cons op' ops =>
    refine wpAny_bind (wpAny_holding ((i.e Γ C X e h1 _ _ w).then r fun cu u σ₁ s₁ a1 b1 c1 d1 => wpAny_bind (wpAny_standAt ?_)))
    refine wpAny_bind (wpAny_holding (w_mono (s_cmp X.a.un d1 b1 (hv.tk c1) a1) fun cr s₂ ⟨b, e, p, q, t⟩ => ?_))
    subst e
    refine wpAny_bind (w_release (wpAny_bind (wpAny_holding (wpAny_truthy_bool ?_))))
    cases b with
    | true => exact w_mono (is.ct Γ C X xs h2 _ _ _ _ t pos frz s₂ cu p (a1.tk q)) fun _ _ h3 => h3.after (c1.trans q)
    | false => exact wpAny_pure ⟨σ₁, p, c1.trans q, t⟩
theorem le_bo (i : SX G A P a) (is : SL G A P es) : ∀ (Γ : FE) (C : SC), Cx G A P Γ C → ∀ (xs : List Expr), chkEs C (a :: es) xs = true → ∀ (k : Bool) (Q : V → St → Prop) (σ : St), wpBo P k (a :: es) Q σ → ∀ (pos : Pos), W G A Γ (boolOp pos (if k then .And else .Or) (evalEach xs Γ.env)) Q σ := fun Γ C X xs h k Q σ w pos frz s r => by
  obtain ⟨e, xs, rfl, _, h1, h2⟩ := chkEs_cons h
  cases es with
  | nil =>
    cases chkEs_nil h2
    exact i.e Γ C X e h1 _ _ w frz s r
  | cons x' es =>
    have ih : ∀ {s₂ : Shared} {σ₁ : St}, TK s.heap s₂.heap → Rep G Γ frz σ₁ s₂ → wpBo P k (x' :: es) Q σ₁ → wpAny (model G.prog G.w) A (boolOp pos (if k then .And else .Or) (evalEach xs Γ.env)) (PV G Γ frz s Q) NoE s₂ := fun c1 p t => w_mono (is.bo Γ C X xs h2 k _ _ t pos frz _ p) fun _ _ h3 => h3.after c1
    obtain ⟨e', es', rfl, _, hx⟩ := chkEs_cons h2
    refine wpAny_bind ((i.e Γ C X e h1 _ _ w).then r fun cv v σ₁ s₁ a1 b1 c1 d1 => wpAny_bind (wpAny_standAt (wpAny_bind (wpAny_holding (w_mono (s_truth d1 b1 a1) fun b s₂ h3 => ?_)))))
    obtain ⟨p, q, t⟩ := h3
    cases k <;> cases b
    · exact ih (c1.trans q) p t
    · exact wpAny_pure ⟨v, σ₁, a1.tk q, p, c1.trans q, t⟩
    · exact wpAny_pure ⟨v, σ₁, a1.tk q, p, c1.trans q, t⟩
    · exact ih (c1.trans q) p t
theorem le_ts (i : SX G A P a) (is : SL G A P es) : ∀ (Γ : FE) (C : SC), Cx G A P Γ C → ∀ (xs : List Expr), chkEs C (a :: es) xs = true → ∀ (k : Bool) (Q : Bool → St → Prop) (σ : St), wpTs P k (a :: es) Q σ → WB G A Γ (allTrue (if k then .And else .Or) xs Γ.env) Q σ := fun Γ C X xs h k Q σ w frz s r => by
  obtain ⟨e, xs, rfl, _, h1, h2⟩ := chkEs_cons h
  refine w_eq (arm_allTrue_cons _ _ _ _) (wpAny_bind ((i.t Γ C X e h1 _ _ w).then r fun b σ₁ s₁ b1 c1 d1 => ?_))
  cases k <;> cases b
  · exact w_mono (is.ts Γ C X xs h2 false _ _ d1 frz s₁ b1) fun _ _ h3 => h3.after c1
  · exact wpAny_pure ⟨σ₁, b1, c1, d1⟩
  · exact wpAny_pure ⟨σ₁, b1, c1, d1⟩
  · exact w_mono (is.ts Γ C X xs h2 true _ _ d1 frz s₁ b1) fun _ _ h3 => h3.after c1
end
theorem sx {x : Ex} (hw : ∀ (Q : Bool → St → Prop) (σ : St), wpT P x (wpE P x) Q σ → wpE P x (fun v σ₁ => wpTruth σ₁.mem v fun b => Q b σ₁) σ) (ih : SE G A P x) (hx : ∀ C e, chkE C x e = true → plainT e = true) : SX G A P x := ⟨ih, st_plain ih hx hw⟩
theorem call_pl {e : Expr} {K : Expr → List Expr → List Keyword → Pos → Bool} (h : isCall e K = true) : plainT e = true := isCall_e (e := e) (K := K) (M := fun e => plainT e = true) h fun _ _ _ _ _ => rfl
theorem sub_pl {e : Expr} {K : Expr → Expr → Bool} (h : isSub e K = true) : plainT e = true := isSub_e (e := e) (K := K) (M := fun e => plainT e = true) h fun _ _ _ _ => rfl
theorem neg_pl {C : SC} {a : Ex} {e : Expr} (h : chkE C (.neg a) e = true) : plainT e = true := by refine chk_neg h ?_; intro _ _ _; rfl
theorem soundX : (x : Ex) → SX G A P x := Ex.rec (motive_1 := SX G A P) (motive_2 := SL G A P)
  (fun v => sx (fun _ _ w => w) se_lit fun _ e h => isConst_e (e := e) (K := fun c => litOk v c) (M := fun e => plainT e = true) h fun _ _ _ _ => rfl)
  (fun i => sx (fun _ _ w => w) se_var fun C e h => isName_e (e := e) (K := fun n => C.is i n) (M := fun e => plainT e = true) h fun _ _ _ => rfl)
  (fun op a b ia ib => sx (fun _ _ w => w) (se_bin ia.e ib.e) fun C e h => isBin_e (e := e) (K := fun l o r => op == o && (chkE C a l && chkE C b r)) (M := fun e => plainT e = true) h fun _ _ _ _ _ => rfl)
  (fun a ia => sx (fun _ _ w => w) (se_neg ia.e) fun C e h => neg_pl h)
  (fun a ia => ⟨se_not ia.e, st_not ia.t⟩)
  (fun c a b ic ia ib => ⟨se_ite ic.t ia.e ib.e, st_ite ic.t ia.t ib.t⟩)
  (fun es is => sx (fun _ _ w => w) (se_list is) fun C e h => isList_e (e := e) (K := fun xs => decide (xs.length < 1000) && chkEs C es xs) (M := fun e => plainT e = true) h fun _ _ _ => rfl)
  (fun es is => sx (fun _ _ w => w) (se_tup is) fun C e h => isTup_e (e := e) (K := fun xs => decide (xs.length < 1000) && chkEs C es xs) (M := fun e => plainT e = true) h fun _ _ _ _ => rfl)
  (fun a ops es ia is => ⟨se_cmp ia.e is, st_cmp ia.e is⟩)
  (fun es is => ⟨se_band is, st_band is⟩)
  (fun es is => ⟨se_bor is, st_bor is⟩)
  (fun a i ia ii => sx (fun _ _ w => w) (se_idx ia.e ii.e) fun _ _ h => sub_pl h)
  (fun a lo hi st ia il ih is => sx (fun _ _ w => w) (se_slc ia.e il.e ih.e is.e) fun _ _ h => sub_pl h)
  (fun o n io => sx (fun _ _ w => w) (se_attr io.e) fun C e h => isAttr_e (e := e) (K := fun v y _ => Str.ofString n == y && (notCall v && chkE C o v)) (M := fun e => plainT e = true) h fun _ _ _ _ => rfl)
  (fun b es is => sx (fun _ _ w => w) (se_bi is) fun _ _ h => call_pl h)
  (fun f es is => sx (fun _ _ w => w) (se_call is) fun _ _ h => call_pl h)
  (fun o m es io is => sx (fun _ _ w => w) (se_me io.e is) fun _ _ h => call_pl h)
  (fun o n es io is => sx (fun _ _ w => w) (se_imeth io.e is) fun _ _ h => call_pl (and_e h).2)
  (fun i es is => sx (fun _ _ w => w) (se_lcall is) fun _ _ h => call_pl h)
  (fun elt one is it cs n caps ie ii ic => sx (fun _ _ w => w) (se_comp ie.e ii.e ic) fun _ e h => by obtain ⟨_, _, _, _, _, _, rfl, _⟩ := chk_comp h; rfl)
  (fun elt one is it iti j n caps ie ii ij => sx (fun _ _ w => w) (se_comp2 ie.e ii.e ij.e) fun _ e h => by obtain ⟨_, _, _, _, _, _, _, rfl, _⟩ := chk_comp2 h; rfl)
  sl_nil
  (fun x xs ix is => ⟨le_es ix is, le_cs ix is, le_ch ix is, le_ct ix is, le_bo ix is, le_ts ix is⟩)
theorem soundL : ∀ xs : List Ex, SL G A P xs
  | [] => sl_nil
  | x :: xs => ⟨le_es (soundX x) (soundL xs), le_cs (soundX x) (soundL xs), le_ch (soundX x) (soundL xs), le_ct (soundX x) (soundL xs), le_bo (soundX x) (soundL xs), le_ts (soundX x) (soundL xs)⟩
end
noncomputable def notComp (e : Expr) : Bool := e.ctorIdx != 8 && (e.ctorIdx != 9 && e.ctorIdx != 10)
noncomputable def isCompX : Ex → Bool
  | .comp .. => true
  | .comp2 .. => true
  | _ => false
theorem swaps_none {value : Expr} (h : notComp value = true) (t : Option Expr) (l : Nat) (env : Env) : swapsWith value t l env = pure false := by
  cases value <;> first | exact absurd h Bool.false_ne_true | rfl
theorem swaps_sole {value : Expr} (h : notComp value = true) (l : Nat) (env : Env) : ∀ targets, swapsWithSole targets value l env = pure false
  | [] => rfl
  | [_] => swaps_none h _ _ _
  | _ :: _ :: _ => rfl
noncomputable def chkTg (C : SC) (t : Tg) (x : Expr) : Bool := match t with
  | .var i => isName x fun n => C.isW i n
  | .tup is => isTup x fun xs => nodupN is && chkIs C is xs
  | .idx o i => isSub x fun v s => chkE C o v && chkE C i s
  | .slc o lo hi => isSub x fun v s => isSlice s fun l u k => k.isNone && (chkE C o v && (chkO C lo l && chkO C hi u))
  | .attr o n => isAttr x fun v y _ => Str.ofString n == y && chkE C o v
noncomputable def chkTgs (C : SC) : List Tg → List Expr → Bool
  | [], xs => xs.isEmpty
  | t :: ts, xs => xs.head?.any fun e => plainE e && chkTg C t e && chkTgs C ts xs.tail
theorem chkTgs_nil {C : SC} {xs : List Expr} (h : chkTgs C [] xs = true) : xs = [] := by
  cases xs with
  | nil => rfl
  | cons => cases h
theorem chkTgs_cons {C : SC} {t : Tg} {ts : List Tg} {xs : List Expr} (h : chkTgs C (t :: ts) xs = true) : ∃ e es, xs = e :: es ∧ plainE e = true ∧ chkTg C t e = true ∧ chkTgs C ts es = true := by
  cases xs with
  | nil => cases h
  | cons e es =>
    have h : (plainE e && chkTg C t e && chkTgs C ts es) = true := h
    rw [Bool.and_eq_true, Bool.and_eq_true] at h
    exact ⟨e, es, rfl, h.1.1, h.1.2, h.2⟩
noncomputable def swapOk (targets : List Expr) (value : Expr) : Bool :=
  targets.head?.any fun t => t.ctorIdx != 24 && (t.ctorIdx != 25 || (value.ctorIdx != 25 || isTup value fun vs => !vs.all (constantsAlone 8) || vs.all (foldedForSure 8)))
noncomputable def isExprS (x : Stmt) (K : Expr → Bool) : Bool := if h : x.ctorIdx = 24 then Stmt.Expr.elim (motive_2 := fun _ => Bool) x h fun y _ => K y else false
theorem isExprS_e {x : Stmt} {K : Expr → Bool} {M : Stmt → Prop} (h : isExprS x K = true) (kk : ∀ (y : Expr) (p : Pos), K y = true → M (.Expr y p)) : M x :=
  let ⟨i, q⟩ := dif_e h
  Stmt.Expr.elim (motive_2 := fun x => ∀ i, Stmt.Expr.elim (motive_2 := fun _ => Bool) x i (fun y _ => K y) = true → M x) x i (fun y p _ q => kk y p q) i q
noncomputable def isAssign (x : Stmt) (K : List Expr → Expr → Bool) : Bool := if h : x.ctorIdx = 5 then Stmt.Assign.elim (motive_2 := fun _ => Bool) x h fun xs y _ => K xs y else false
theorem isAssign_e {x : Stmt} {K : List Expr → Expr → Bool} {M : Stmt → Prop} (h : isAssign x K = true) (kk : ∀ (xs : List Expr) (y : Expr) (p : Pos), K xs y = true → M (.Assign xs y p)) : M x :=
  let ⟨i, q⟩ := dif_e h
  Stmt.Assign.elim (motive_2 := fun x => ∀ i, Stmt.Assign.elim (motive_2 := fun _ => Bool) x i (fun xs y _ => K xs y) = true → M x) x i (fun xs y p _ q => kk xs y p q) i q
noncomputable def isAug (x : Stmt) (K : Expr → Operator → Expr → Bool) : Bool := if h : x.ctorIdx = 7 then Stmt.AugAssign.elim (motive_2 := fun _ => Bool) x h fun t o y _ => K t o y else false
theorem isAug_e {x : Stmt} {K : Expr → Operator → Expr → Bool} {M : Stmt → Prop} (h : isAug x K = true) (kk : ∀ (t : Expr) (o : Operator) (y : Expr) (p : Pos), K t o y = true → M (.AugAssign t o y p)) : M x :=
  let ⟨i, q⟩ := dif_e h
  Stmt.AugAssign.elim (motive_2 := fun x => ∀ i, Stmt.AugAssign.elim (motive_2 := fun _ => Bool) x i (fun t o y _ => K t o y) = true → M x) x i (fun t o y p _ q => kk t o y p q) i q
noncomputable def isIfS (x : Stmt) (K : Expr → List Stmt → List Stmt → Bool) : Bool := if h : x.ctorIdx = 12 then Stmt.If.elim (motive_2 := fun _ => Bool) x h fun t y z _ => K t y z else false
theorem isIfS_e {x : Stmt} {K : Expr → List Stmt → List Stmt → Bool} {M : Stmt → Prop} (h : isIfS x K = true) (kk : ∀ (t : Expr) (y : List Stmt) (z : List Stmt) (p : Pos), K t y z = true → M (.If t y z p)) : M x :=
  let ⟨i, q⟩ := dif_e h
  Stmt.If.elim (motive_2 := fun x => ∀ i, Stmt.If.elim (motive_2 := fun _ => Bool) x i (fun t y z _ => K t y z) = true → M x) x i (fun t y z p _ q => kk t y z p q) i q
noncomputable def isWhile (x : Stmt) (K : Expr → List Stmt → List Stmt → Bool) : Bool := if h : x.ctorIdx = 11 then Stmt.While.elim (motive_2 := fun _ => Bool) x h fun t y z _ => K t y z else false
theorem isWhile_e {x : Stmt} {K : Expr → List Stmt → List Stmt → Bool} {M : Stmt → Prop} (h : isWhile x K = true) (kk : ∀ (t : Expr) (y : List Stmt) (z : List Stmt) (p : Pos), K t y z = true → M (.While t y z p)) : M x :=
  let ⟨i, q⟩ := dif_e h
  Stmt.While.elim (motive_2 := fun x => ∀ i, Stmt.While.elim (motive_2 := fun _ => Bool) x i (fun t y z _ => K t y z) = true → M x) x i (fun t y z p _ q => kk t y z p q) i q
noncomputable def isFor (x : Stmt) (K : Expr → Expr → List Stmt → List Stmt → Bool) : Bool := if h : x.ctorIdx = 9 then Stmt.For.elim (motive_2 := fun _ => Bool) x h fun tg e y z _ => K tg e y z else false
theorem isFor_e {x : Stmt} {K : Expr → Expr → List Stmt → List Stmt → Bool} {M : Stmt → Prop} (h : isFor x K = true) (kk : ∀ (tg : Expr) (e : Expr) (y : List Stmt) (z : List Stmt) (p : Pos), K tg e y z = true → M (.For tg e y z p)) : M x :=
  let ⟨i, q⟩ := dif_e h
  Stmt.For.elim (motive_2 := fun x => ∀ i, Stmt.For.elim (motive_2 := fun _ => Bool) x i (fun tg e y z _ => K tg e y z) = true → M x) x i (fun tg e y z p _ q => kk tg e y z p q) i q
noncomputable def isRet (x : Stmt) (K : Option Expr → Bool) : Bool := if h : x.ctorIdx = 3 then Stmt.Return.elim (motive_2 := fun _ => Bool) x h fun y _ => K y else false
theorem isRet_e {x : Stmt} {K : Option Expr → Bool} {M : Stmt → Prop} (h : isRet x K = true) (kk : ∀ (y : Option Expr) (p : Pos), K y = true → M (.Return y p)) : M x :=
  let ⟨i, q⟩ := dif_e h
  Stmt.Return.elim (motive_2 := fun x => ∀ i, Stmt.Return.elim (motive_2 := fun _ => Bool) x i (fun y _ => K y) = true → M x) x i (fun y p _ q => kk y p q) i q
noncomputable def isBrk (x : Stmt) (K : Pos → Bool) : Bool := if h : x.ctorIdx = 26 then Stmt.Break.elim (motive_2 := fun _ => Bool) x h fun p => K p else false
theorem isBrk_e {x : Stmt} {K : Pos → Bool} {M : Stmt → Prop} (h : isBrk x K = true) (kk : ∀ (p : Pos), K p = true → M (.Break p)) : M x :=
  let ⟨i, q⟩ := dif_e h
  Stmt.Break.elim (motive_2 := fun x => ∀ i, Stmt.Break.elim (motive_2 := fun _ => Bool) x i (fun p => K p) = true → M x) x i (fun p _ q => kk p q) i q
noncomputable def isDel (x : Stmt) (K : List Expr → Bool) : Bool := if h : x.ctorIdx = 4 then Stmt.Delete.elim (motive_2 := fun _ => Bool) x h fun xs _ => K xs else false
theorem isDel_e {x : Stmt} {K : List Expr → Bool} {M : Stmt → Prop} (h : isDel x K = true) (kk : ∀ (xs : List Expr) (p : Pos), K xs = true → M (.Delete xs p)) : M x :=
  let ⟨i, q⟩ := dif_e h
  Stmt.Delete.elim (motive_2 := fun x => ∀ i, Stmt.Delete.elim (motive_2 := fun _ => Bool) x i (fun xs _ => K xs) = true → M x) x i (fun xs p _ q => kk xs p q) i q
noncomputable def one1 (xs : List Expr) (K : Expr → Bool) : Bool := match xs with
  | [] => false
  | y :: r => r.isEmpty && K y
theorem one1_inv {xs : List Expr} {K : Expr → Bool} (h : one1 xs K = true) : ∃ y, xs = [y] ∧ K y = true := by
  match xs, h with
  | [y], h => exact ⟨y, rfl, h⟩
noncomputable def isJunk (x : Sm) : Bool := match x with
  | .junk => true
  | _ => false
theorem isJunk_inv {x : Sm} (h : isJunk x = true) : x = .junk := by cases x <;> first | rfl | exact absurd h Bool.false_ne_true
mutual
noncomputable def chkS (C : SC) : Sm → Stmt → Bool
  | .expr e, x => isExprS x fun y => notComp y && chkE C e y
  | .assign ts e, x => isAssign x fun xs y => (isCompX e || notComp y) && (swapOk xs y && (chkTgs C ts xs && chkE C e y))
  | .aug i op e, x => isAug x fun t o y => isName t fun n => C.isW i n && (op == o && chkE C e y)
  | .del o i, x => isDel x fun xs => one1 xs fun y => isSub y fun v s => chkE C o v && chkE C i s
  | .ife c a b, x => isIfS x fun t y z => chkE C c t && (chkSs C a y && chkSs C b z)
  | .whl c b, x => isWhile x fun t y z => z.isEmpty && (chkE C c t && chkSs C b y)
  | .fr t it b, x => isFor x fun tg e y z => z.isEmpty && (plainE e && (chkTg C t tg && (chkE C it e && chkSs C b y)))
  | .ret e, x => isRet x fun y => chkO C e y
  | .brk, x => isBrk x fun _ => true
  | .junk, _ => false
noncomputable def chkSs (C : SC) : List Sm → List Stmt → Bool
  | [], xs => xs.isEmpty
  | a :: as, xs => isJunk a || xs.head?.any fun e => chkS C a e && chkSs C as xs.tail
end
theorem chkSs_nil {C : SC} {xs : List Stmt} (h : chkSs C [] xs = true) : xs = [] := by
  cases xs with
  | nil => rfl
  | cons => cases h
theorem chkSs_cons {C : SC} {t : Sm} {ts : List Sm} {xs : List Stmt} (h : chkSs C (t :: ts) xs = true) : t = .junk ∨ ∃ e es, xs = e :: es ∧ chkS C t e = true ∧ chkSs C ts es = true := by
  rcases (Bool.or_eq_true _ _).mp h with h | h
  · exact .inl (isJunk_inv h)
  · cases xs with
    | nil => cases h
    | cons e es => exact .inr ⟨e, es, rfl, and_e h⟩
section
variable {G : GS} {A : Around} {Γ : FE} {frz : Frz} {σ : St} {s : Shared}
theorem setItem_list_any {l : Addr} {arr : Array Value} {n : Nat} {k : Int} {t : Tok} {j : Nat} {v : Value} {E : Value → Shared → Prop} {Q : Unit → Shared → Prop} (hl : s.heap.get? l = some { cls := .type "list", data := .seq arr n })
    (hk : tiny k) (hj : seqIndex? k arr.size = some j) (h : Q () { s with heap := s.heap.update l (Obj.mapSeq (·.setIfInBounds j v)) }) : wpAny (model G.prog G.w) A (setItem (.ref l) (.int k t) v) Q E s := by
  have hL : s.heap.IsList l arr := ⟨_, hl, rfl, n, rfl⟩
  obtain ⟨j0, hx⟩ : j < arr.size ∧ (0 ≤ k → j = k.toNat) := ⟨(seqIndex_lt hj).1, (seqIndex_lt hj).2⟩
  have hx' : arr[j]? = some arr[j] := Array.getElem?_eq_getElem j0
  unfold setItem
  try with_reducible refine wpAny_holding ?_
  first | refine wpAny_bind (wpAny_pure ?_) | skip
  refine wpAny_bind (wpAny_sequenceKey hL.typeIs (by decide) ?_)
  refine wpAny_bind (wpAny_callSpecial?_slot (name := Str.ofString "__setitem__") hL.typeIs slot_list_setitem
    (wpAny_call_entry slot_list_setitem hL.typeIs entry_list_setitem ?_ (args_list_setitem _ _ _)))
  show wpAny _ _ (Builtin.List.listSubscript? (.int k t) >>= _) _ _ s
  refine wpAny_bind (wpAny_listSubscript_int (tiny_fit hk) ?_)
  by_cases h0 : 0 ≤ k
  · have := hx h0
    subst this
    obtain ⟨j, rfl⟩ := Int.eq_ofNat_of_zero_le h0
    show wpAny _ _ ((seqItemAt l j >>= fun r => pure (r.map (j, ·))) >>= _) _ _ s
    refine wpAny_bind (wpAny_bind (wpAny_seqItemAt hl rfl (wpAny_pure ?_)))
    rw [ show arr[j]? = some arr[j] from hx' ]
    show wpAny _ _ (setSeqItemAt l j v >>= _) _ _ s
    refine wpAny_bind (wpAny_setSeqItemAt hl rfl ?_)
    first
      | exact wpAny_bind (wpAny_pure (wpAny_pure ⟨.none, rfl, wpAny_pure h⟩))
      | exact wpAny_pure ⟨.none, rfl, wpAny_pure h⟩
  · refine bc fun z9 => ?_
    obtain ⟨m, rfl⟩ : ∃ m : Nat, k = Int.negSucc m := ⟨(-k - 1).toNat, by grind⟩
    refine z9 ?_
    show wpAny _ _ ((Builtin.List.listItems (.ref l) >>= fun xs => pure ((seqIndex? (Int.negSucc m) xs.size).bind fun j => xs[j]?.map (j, ·))) >>= _) _ _ s
    refine wpAny_bind (wpAny_bind (wpAny_listItems hl rfl (wpAny_pure ?_)))
    rw [ hj ]
    simp only [Option.bind_some, hx', Option.map_some]
    show wpAny _ _ (setSeqItemAt l j v >>= _) _ _ s
    refine wpAny_bind (wpAny_setSeqItemAt hl rfl ?_)
    first
      | exact wpAny_bind (wpAny_pure (wpAny_pure ⟨.none, rfl, wpAny_pure h⟩))
      | exact wpAny_pure ⟨.none, rfl, wpAny_pure h⟩
theorem ext_size {arr new : Array Value} {x y : Int} (hz : arr.size + new.size ≤ 2000000) : (arr.extract 0 x.toNat ++ new ++ arr.extract (max x y).toNat arr.size).size ≤ sizeLine + 1 := by
  have h : min x.toNat arr.size + (arr.size - (max x y).toNat) ≤ arr.size := by
    rcases Nat.le_total x.toNat arr.size with h | h
    · rw [Nat.min_eq_left h]
      exact Nat.le_trans (Nat.add_le_add_left (Nat.sub_le_sub_left (Int.toNat_le_toNat (Int.le_max_left x y)) _) _) (Nat.le_of_eq (Nat.add_sub_cancel' h))
    · rw [Nat.min_eq_right h, Nat.sub_eq_zero_of_le (Nat.le_trans h (Int.toNat_le_toNat (Int.le_max_left x y)))]; exact Nat.le_refl _
  rw [Array.size_append, Array.size_append, Array.size_extract, Array.size_extract, Nat.min_self, Nat.sub_zero, sizeLine_eq, Nat.add_right_comm]
  exact Nat.le_trans (Nat.add_le_add_right h _) (Nat.le_trans hz (by decide))
theorem setItem_list_slice {l sl b : Addr} {arr new : Array Value} {n : Nat} {vl vu : Value} {lo hi : Option Int} {E : Value → Shared → Prop} {Q : Unit → Shared → Prop} (hl : s.heap.get? l = some { cls := .type "list", data := .seq arr n })
    (hs : s.heap.IsSliceOf sl vl vu .none) (pl : IsPart vl lo) (pu : IsPart vu hi) (hb : s.heap.IsList b new) (hne : l ≠ b) (hz : arr.size + new.size ≤ 2000000)
    (h : Q () { s with heap := s.heap.update l (Obj.mapSeq fun xs => xs.extract 0 (sliceBounds lo hi none arr.size).1.toNat ++ new ++ xs.extract (max (sliceBounds lo hi none arr.size).1 (sliceBounds lo hi none arr.size).2.1).toNat xs.size) }) :
    wpAny (model G.prog G.w) A (setItem (.ref l) (.ref sl) (.ref b)) Q E s := by
  have hL : s.heap.IsList l arr := ⟨_, hl, rfl, n, rfl⟩
  obtain ⟨os, hos, hcs, hds⟩ := id hs
  obtain ⟨ob, hob, hcb, nb, hdb⟩ := id hb
  have hTs : s.TypeIs (.ref sl) "slice" := ⟨os, hos, hcs⟩
  unfold setItem
  try with_reducible refine wpAny_holding ?_
  first | refine wpAny_bind (wpAny_pure ?_) | skip
  refine wpAny_bind (wpAny_sequenceKey hL.typeIs (by decide) ?_)
  refine wpAny_bind (wpAny_callSpecial?_slot (name := Str.ofString "__setitem__") hL.typeIs slot_list_setitem
    (wpAny_call_entry slot_list_setitem hL.typeIs entry_list_setitem ?_ (args_list_setitem _ _ _)))
  show wpAny _ _ (Builtin.List.listSubscript? (.ref sl) >>= _) _ _ s
  refine wpAny_bind ?_
  unfold Builtin.List.listSubscript?
  refine wpAny_bind (wpAny_specialOf hTs slice_no_index ?_)
  (dsimp only [Option.isNone_none, if_true]; simp only [Option.isNone_none, if_true])
  refine wpAny_pure ?_
  show wpAny _ _ (typeOf (.ref sl) >>= _) _ _ s
  refine wpAny_bind (wpAny_typeOf hTs ?_)
  rw [if_neg (by decide)]
  rw [listSliceParts_eq]
  refine wpAny_bind (wpAny_bind (wpAny_field hos hds (x := .none) rfl (wpAny_bind (wpAny_listPart .none ?_))))
  rw [ if_neg (show ¬ ((rawPart none == rawInt 0) = true) from Bool.false_ne_true) ]
  refine wpAny_bind (wpAny_field hos hds (x := vl) rfl (wpAny_bind (wpAny_listPart pl ?_)))
  refine wpAny_bind (wpAny_field hos hds (x := vu) rfl (wpAny_bind (wpAny_listPart pu (wpAny_pure ?_))))
  dsimp only
  rw [ if_neg (show ¬ (Builtin.List.listSameRef (.ref l) (.ref b) = true) by simpa [Builtin.List.listSameRef] using hne) ]
  refine wpAny_bind ?_
  unfold Builtin.List.listAllItems
  refine wpAny_bind (wpAny_typeOf hb.typeIs ?_)
  rw [if_pos (by decide)]
  unfold Builtin.List.listItems
  refine wpAny_bind (wpAny_seqItems hob hdb (wpAny_pure ?_))
  refine wpAny_bind (wpAny_bind (wpAny_seqItems hl rfl (wpAny_pure ?_)))
  refine wpAny_bind (wpAny_of_eq (sliceIndices_raw lo hi none arr.size (by simp)) ?_)
  have hst : (sliceBounds lo hi none arr.size).2.2 = 1 := rfl
  generalize hB : sliceBounds lo hi none arr.size = B at h hst ⊢
  obtain ⟨x, y, z⟩ := B
  dsimp only at hst h ⊢
  subst hst
  rw [if_pos (by decide)]
  refine wpAny_bind (wpAny_rule ?_)
  rw [if_neg (by simp [Builtin.List.listTooLong, sizeLine]; lia)]
  have hz' : ((fun xs : Array Value => xs.extract 0 x.toNat ++ new ++ xs.extract (max x y).toNat xs.size) arr).size ≤ sizeLine + 1 := ext_size hz
  refine wpAny_bind (wpAny_updateSeq (f := fun xs : Array Value => xs.extract 0 x.toNat ++ new ++ xs.extract (max x y).toNat xs.size) hl rfl ?_ (hz := by rw [sizeLine_eq]; lia) (_hz' := hz'))
  refine wpAny_bind (wpAny_letGo ?_)
  first
    | exact wpAny_bind (wpAny_pure (wpAny_pure ⟨.none, rfl, wpAny_pure h⟩))
    | exact wpAny_pure ⟨.none, rfl, wpAny_pure h⟩
theorem bounds_one {lo hi : Option Int} {n : Nat} : (sliceBounds lo hi none n).1.toNat = slLo n lo ∧ (max (sliceBounds lo hi none n).1 (sliceBounds lo hi none n).2.1).toNat = max (slLo n lo) (slHi n hi) := by
  rw [sliceBounds_plain]
  exact ⟨Int.toNat_natCast _, by show (max ((slLo n lo : Nat) : Int) ((slHi n hi : Nat) : Int)).toNat = _; grind⟩
theorem s_setSlice {l b sl : Addr} {vs us : List V} {lo hi : Option Int} {vl vu : Value} (ok : Γ.ok) (r : Rep G Γ frz σ s) (e : σ.mem l = some (.list vs)) (eb : σ.mem b = some (.list us)) (hne : l ≠ b) (h1 : sma vs.length) (h2 : sma us.length)
    (hs : s.heap.IsSliceOf sl vl vu .none) (pl : IsPart vl lo) (pu : IsPart vu hi) :
    wpAny (model G.prog G.w) A (setItem (.ref l) (.ref sl) (.ref b)) (fun _ s' => Rep G Γ frz { σ with mem := upd σ.mem l (.list (vs.take (slLo vs.length lo) ++ us ++ vs.drop (max (slLo vs.length lo) (slHi vs.length hi)))) } s' ∧ TK s.heap s'.heap) NoE s := by
  refine bc fun z9 => ?_
  obtain ⟨arr, n, g, rs, hz⟩ := (r.hmem _ _ e).l
  refine z9 ?_
  refine bc fun z9 => ?_
  obtain ⟨arr2, n2, g2, rs2, hz2⟩ := (r.hmem _ _ eb).l
  refine z9 ?_
  refine setItem_list_slice g hs pl pu ⟨_, g2, rfl, n2, rfl⟩ hne (by rw [ hz, hz2 ]; exact Nat.add_le_add h1 h2) ?_
  have key : ∀ h', TK s.heap h' → RVs h' (arr.extract 0 (sliceBounds lo hi none arr.size).1.toNat ++ arr2 ++ arr.extract (max (sliceBounds lo hi none arr.size).1 (sliceBounds lo hi none arr.size).2.1).toNat arr.size).toList
      (vs.take (slLo vs.length lo) ++ us ++ vs.drop (max (slLo vs.length lo) (slHi vs.length hi))) := fun h' k => by
    simp only [ bounds_one.1, bounds_one.2, Array.toList_append, Array.toList_append, Array.toList_extract, Array.toList_extract, List.extract_eq_take_drop, List.extract_eq_take_drop, List.drop_zero, Nat.sub_zero, hz ]
    refine ((rs.tk k).take _ |>.append (rs2.tk k)).append ?_
    rw [List.take_of_length_le (by rw [List.length_drop, Array.length_toList, hz]; exact Nat.le_refl _)]
    exact (rs.tk k).drop _
  exact r.change ok (tk := s.toks) (o := .list _) e (fun b o hb e => (Heap.get?_update_other _ _ (Ne.symm hb)).trans e) (fun k => .list (Heap.get?_update_self _ g rfl) (key _ k))
theorem s_setItem {l : Addr} {vs : List V} {k : Int} {j : Nat} {v : V} {cv ck : Value} (ok : Γ.ok) (r : Rep G Γ frz σ s) (e : σ.mem l = some (.list vs)) (hk : tiny k) (hj : pyIx vs.length k = some j) (hc : RV s.heap ck (.int k)) (hv : RV s.heap cv v) :
    wpAny (model G.prog G.w) A (setItem (.ref l) ck cv) (fun _ s' => Rep G Γ frz { σ with mem := upd σ.mem l (.list (vs.set j v)) } s' ∧ TK s.heap s'.heap) NoE s := by
  refine bc fun z9 => ?_
  obtain ⟨arr, n, g, rs, hz⟩ := (r.hmem _ _ e).l
  refine z9 ?_
  exact hc.eI fun _ => setItem_list_any g hk (by rw [hz]; exact hj) (r.change ok (tk := s.toks) (o := .list (vs.set j v)) e (h' := s.heap.update l (Obj.mapSeq (·.setIfInBounds j cv))) (fun b o hb e => (Heap.get?_update_other _ _ (Ne.symm hb)).trans e)
    (fun k => .list (Heap.get?_update_self _ g rfl) (by show RVs _ (arr.setIfInBounds j cv).toList _; rw [Array.toList_setIfInBounds]; exact (rs.tk k).set j (hv.tk k))))
theorem swapped_of {ts vs : List Expr} {k k' : Nat} {p p' : Pos} {env : Env} (h : (!vs.all (constantsAlone 8) || vs.all (foldedForSure 8)) = true) :
    swappedStores [.Tuple ts k p] (.Tuple vs k' p') env = pure none ∨ ∃ f, swappedStores [.Tuple ts k p] (.Tuple vs k' p') env = pure (some (ts.filterMap (nameIf f))) ∧ (ts.filterMap (nameIf f)).length = ts.length ∧ (ts.length = 2 ∨ ts.length = 3) := by
  unfold swappedStores
  dsimp only
  split
  · exact .inl rfl
  · rename_i c1
    split
    · exact .inl rfl
    · split
      · exact .inl rfl
      · rename_i c3
        split
        · exact .inl rfl
        · rename_i c4
          split
          · rename_i c5
            rw [c5] at h
            simp at h
            exact absurd (by simpa using h) c4
          · refine .inr ⟨fun id pos => env.kindOf id == some .local && pos.line == (ts.head?.map (·.pos.line)).getD 0, rfl, ?_, ?_⟩
            · have := c3
              simp only [Bool.or_eq_true, not_or, bne_iff_ne, ne_eq, Decidable.not_not] at this
              exact this.1
            · simp only [Bool.or_eq_true, not_or, bne_iff_ne, ne_eq, Decidable.not_not, Bool.not_eq_true', Bool.or_eq_false_iff, not_and, beq_eq_false_iff_ne] at c1
              by_cases q : ts.length = 2
              · exact .inl q
              · exact .inr (c1.1.1 q)
theorem set_swap (σ : St) {i j : Nat} (a b : V) (h : i ≠ j) : (σ.set i a).set j b = (σ.set j b).set i a := by
  exact congrArg (fun l => (⟨l, σ.mem⟩ : St)) (List.set_comm _ _ h)
theorem setAll_rev {σ : St} {is : List Nat} {vs : List V} (h : nodupN is = true) (hl : is.length = vs.length) (hn : is.length = 2 ∨ is.length = 3) : σ.setAll is.reverse vs.reverse = σ.setAll is vs := by
  match is, vs, hl with
  | [i, j], [a, b], _ =>
    simp [nodupN] at h
    show (σ.set j b).set i a = (σ.set i a).set j b
    rw [set_swap]; lia
  | [i, j, k], [a, b, c], _ =>
    simp [nodupN] at h
    show ((σ.set k c).set j b).set i a = ((σ.set i a).set j b).set k c
    rw [set_swap σ c b (by lia), set_swap _ c a (by lia), set_swap σ b a (by lia)]
  | [], _, _ => rfl
  | [_], _, _ => simp at hn
  | _ :: _ :: _ :: _ :: _, _, _ => simp at hn
end
section
variable {G : GS} {A : Around} {Γ : FE} {frz : Frz} {σ : St} {s : Shared}
variable {P : PC} {C : SC}
theorem s_idxT {o i : Ex} {e : Expr} (X : Cx G A P Γ C) (h : chkTg C (.idx o i) e = true) {v : V} {cv : Value} {Q : St → Prop} (w : wpTg P (.idx o i) v Q σ) (r : Rep G Γ frz σ s) (hv : RV s.heap cv v) :
    wpAny (model G.prog G.w) A (assign e Γ.env cv) (PU G Γ frz s Q) NoE s :=
  isSub_e (e := e) (K := fun v s => chkE C o v && chkE C i s) (M := fun e => wpAny (model G.prog G.w) A (assign e Γ.env cv) (PU G Γ frz s Q) NoE s) h fun eo ei p h => by
    refine w_eq (arm_assign_Subscript _ _ _ _ _) (wpAny_bind (wpAny_holding (((soundX o).e Γ C X eo (and_e h).1 _ _ w).then r fun co ov σ₁ s₁ a1 r1 t1 w1 => ?_)))
    refine wpAny_bind (wpAny_holding (((soundX i).e Γ C X ei (and_e h).2 _ _ w1).then r1 fun ci iv σ₂ s₂ a2 r2 t2 w2 => ?_))
    refine bc fun z9 => ?_
    obtain ⟨a, k, vs, j, rfl, rfl, hk, hm, hj, w⟩ := w2
    refine z9 ?_
    exact a1.eO (wpAny_bind (wpAny_standAt (wpAny_bind (wpAny_holding (w_mono (s_setItem X.ok r2 hm hk hj a2 (hv.tk (t1.trans t2))) fun _ s₃ h3 => w_release ⟨_, h3.1, (t1.trans t2).trans h3.2, w⟩)))))
theorem E6 {α β γ δ ε ζ : Sort _} {p : α → β → γ → δ → ε → ζ → Prop} {R : Prop} (h : ∃ a b c d e f, p a b c d e f) (k : ∀ a b c d e f, p a b c d e f → R) : R := let ⟨a, b, c, d, e, f, q⟩ := h; k a b c d e f q
theorem slc_fin {a b : Addr} {ia ib : Option Int} {xs ys : List V} {cl ch : Value} {l hh : V} {Q : St → Prop} {post : Unit → Shared → Prop} (ok : Γ.ok) (ea : slPart l = some ia) (eb : slPart hh = some ib) (h : a ≠ b ∧ σ.mem a = some (.list xs) ∧ σ.mem b = some (.list ys) ∧ sma xs.length ∧ sma ys.length ∧
    Q { σ with mem := upd σ.mem a (.list (xs.take (slLo xs.length ia) ++ ys ++ xs.drop (max (slLo xs.length ia) (slHi xs.length ib)))) })
    (r : Rep G Γ frz σ s) (a2 : RV s.heap cl l) (a3 : RV s.heap ch hh) (k : ∀ σ' s', Rep G Γ frz σ' s' → TK s.heap s'.heap → Q σ' → post () s') :
    wpAny (model G.prog G.w) A (setItem (.ref a) (.ref s.heap.objs.size) (.ref b)) post NoE { s with heap := s.heap.push (sliceO cl ch .none) } := by
  have kk := push_keeps s.heap (sliceO cl ch .none)
  refine bc fun z9 => ?_
  obtain ⟨_, _, _, qa⟩ := slPart_is ea a2
  refine z9 ?_
  refine bc fun z9 => ?_
  obtain ⟨_, _, _, qb⟩ := slPart_is eb a3
  refine z9 ?_
  exact w_mono (s_setSlice ok (r.grow (tk := s.toks) kk) h.2.1 h.2.2.1 h.1 h.2.2.2.1 h.2.2.2.2.1 (Heap.IsSliceOf.new ..) qa qb) fun _ s₅ h5 => k _ _ h5.1 ((TK.of kk).trans h5.2) h.2.2.2.2.2
theorem s_slcT {o lo hi : Ex} {e : Expr} (X : Cx G A P Γ C) (h : chkTg C (.slc o lo hi) e = true) {v : V} {cv : Value} {Q : St → Prop} (w : wpTg P (.slc o lo hi) v Q σ) (r : Rep G Γ frz σ s) (hv : RV s.heap cv v) :
    wpAny (model G.prog G.w) A (assign e Γ.env cv) (PU G Γ frz s Q) NoE s :=
  isSub_e (e := e) (K := fun v s => isSlice s fun l u k => k.isNone && (chkE C o v && (chkO C lo l && chkO C hi u))) (M := fun e => wpAny (model G.prog G.w) A (assign e Γ.env cv) (PU G Γ frz s Q) NoE s) h fun eo es p h =>
  isSlice_e (e := es) (K := fun l u k => k.isNone && (chkE C o eo && (chkO C lo l && chkO C hi u))) (M := fun es => wpAny (model G.prog G.w) A (assign (.Subscript eo es p) Γ.env cv) (PU G Γ frz s Q) NoE s) h fun l u k p' h => by
    obtain ⟨h0, h⟩ := and_e h
    obtain ⟨h1, h⟩ := and_e h
    obtain ⟨h2, h3⟩ := and_e h
    cases k with
    | some => cases h0
    | none =>
    refine w_eq (arm_assign_Subscript _ _ _ _ _) (wpAny_bind (wpAny_holding (((soundX o).e Γ C X eo h1 _ _ w).then r fun co ov σ₁ s₁ a1 r1 t1 w1 => ?_)))
    refine wpAny_bind (wpAny_holding (w_eq (arm_eval_Slice _ _ _ _ _) ?_))
    refine wpAny_bind ((soundO X (soundX lo).e l h2 w1).then r1 fun cl l σ₂ s₂ a2 r2 t2 w2 => wpAny_bind (wpAny_holding ((soundO X (soundX hi).e u h3 w2).then r2 fun ch hh σ₃ s₃ a3 r3 t3 w3 => ?_)))
    refine E6 w3 fun a b ia ib xs ys q => ?_
    refine (q.1 ▸ a1).eO ((q.2.1 ▸ hv).eO (wpAny_bind (wpAny_holding (wpAny_pure (wpAny_newObj_type ?_)))))
    exact wpAny_bind (wpAny_standAt (wpAny_bind (wpAny_holding (slc_fin X.ok q.2.2.1 q.2.2.2.1 q.2.2.2.2 r3 (a2.tk t3) a3 fun σ' s' r5 t5 w => w_release ⟨σ', r5, ((t1.trans t2).trans t3).trans t5, w⟩))))
theorem s_attrT {o : Ex} {n : String} {e : Expr} (X : Cx G A P Γ C) (h : chkTg C (.attr o n) e = true) {v : V} {cv : Value} {Q : St → Prop} (w : wpTg P (.attr o n) v Q σ) (r : Rep G Γ frz σ s) (hv : RV s.heap cv v) :
    wpAny (model G.prog G.w) A (assign e Γ.env cv) (PU G Γ frz s Q) NoE s :=
  isAttr_e (e := e) (K := fun v y _ => Str.ofString n == y && chkE C o v) (M := fun e => wpAny (model G.prog G.w) A (assign e Γ.env cv) (PU G Γ frz s Q) NoE s) h fun eo y p h => by
    have h2 := (and_e h).2
    cases beq_iff_eq.mp (and_e h).1
    refine w_eq (arm_assign_Attribute _ _ _ _ _) (wpAny_bind (wpAny_holding (((soundX o).e Γ C X eo h2 _ _ w).then r fun co ov σ₁ s₁ a1 r1 t1 w1 => ?_)))
    refine bc fun z9 => ?_
    obtain ⟨a, d, fs, rfl, e1, e2, e3, e4, w⟩ := w1
    refine z9 ?_
    exact a1.eO (wpAny_bind (wpAny_standAt (wpAny_bind (wpAny_holding (w_mono (s_setattr X.g X.p.ok X.ok r1 e1 e2 e4 e3 (hv.tk t1)) fun _ s₃ h3 => w_release ⟨_, h3.1, t1.trans h3.2, w⟩)))))
theorem s_target (X : Cx G A P Γ C) (t : Tg) (e : Expr) (h : chkTg C t e = true) {v : V} {cv : Value} {Q : St → Prop} (w : wpTg P t v Q σ)
    (r : Rep G Γ frz σ s) (hv : RV s.heap cv v) : wpAny (model G.prog G.w) A (assign e Γ.env cv) (PU G Γ frz s Q) NoE s :=
  match t, h, w with
  | .var _, h, w => s_nameT X.ok X.c h w r hv
  | .tup _, h, w => s_tupT X.a X.ok X.c h w r hv
  | .idx _ _, h, w => s_idxT X h w r hv
  | .slc _ _ _, h, w => s_slcT X h w r hv
  | .attr _ _, h, w => s_attrT X h w r hv
theorem each_plain {e : Expr} {es : List Expr} {env : Env} (h : plainE e = true) : assignEach (e :: es) env = (false, assign e env) :: assignEach es env := by
  cases e <;> first | rfl | exact absurd h Bool.false_ne_true
theorem s_targets (X : Cx G A P Γ C) : ∀ (ts : List Tg) (es : List Expr), chkTgs C ts es = true → ∀ {v : V} {cv : Value} {Q : St → Prop} {σ : St} {s : Shared}, wpTgs P ts v Q σ →
    Rep G Γ frz σ s → RV s.heap cv v → wpAny (model G.prog G.w) A (assignAll cv ((assignEach es Γ.env).map (·.2))) (PU G Γ frz s Q) NoE s
  | [], es, h, v, cv, Q, σ, s, w, r, hv => by rw [ chkTgs_nil h ]; exact wpAny_pure ⟨σ, r, .refl _, w⟩
  | [t], es, h, v, cv, Q, σ, s, w, r, hv => by
    obtain ⟨e, es, rfl, hp, h1, h2⟩ := chkTgs_cons h
    cases chkTgs_nil h2
    rw [ each_plain hp ]
    exact s_target X t e h1 w r hv
  | t :: t' :: ts, es, h, v, cv, Q, σ, s, w, r, hv => by
    obtain ⟨e, es, rfl, hp, h1, h2⟩ := chkTgs_cons h
    have ih := fun {s₁ : Shared} {σ₁ : St} (w1 : wpTgs P (t' :: ts) v Q σ₁) (r1 : Rep G Γ frz σ₁ s₁) (hv1 : RV s₁.heap cv v) => s_targets X (t' :: ts) es h2 w1 r1 hv1
    obtain ⟨e', es', rfl, hp', _, _⟩ := chkTgs_cons h2
    rw [each_plain hp, each_plain hp'] at *
    exact wpAny_bind (wpAny_holding (w_mono (s_target X t e h1 w r hv) fun _ s₁ ⟨σ₁, r1, t1, w1⟩ => w_mono (ih w1 r1 (hv.tk t1)) fun _ s₂ p => p.after t1))
theorem etu (t1 t2 t3 : Expr) (t4 : List Expr) (gs : List Comprehension) (t5 : Scope) (p : Pos) (env : Env) (u : Value → Sem Unit) :
    evalThenUse (.ListComp t1 (⟨t2, t3, t4, 0⟩ :: gs) t5 p) env u = (comprehension (.ListComp t1 (⟨t2, t3, t4, 0⟩ :: gs) t5 p) t5 env (firstIterPos (⟨t2, t3, t4, 0⟩ :: gs) p) (newList []) false (eval t3 env) (some u) >>= fun _ => pure ()) := rfl
theorem s_assignComp {WW : List V → (Mem → Prop) → (List V → St → Prop) → St → Prop} {gs : List Comprehension} {elt target iter : Expr} {ifs : List Expr} {sc : Scope} {p : Pos} {n : Nat} {caps : List Nat} {it : Ex} (X : Cx G A P Γ C) {ts : List Tg} {xs : List Expr}
    (h3 : chkTgs C ts xs = true) (hc : compOk C sc n caps = true) (hpl : plainE iter = true) (hi : chkE C it iter = true) (cr : ∀ L, CompRun G A (compFE Γ sc L) (.ListComp elt (⟨target, iter, ifs, 0⟩ :: gs) sc p) WW) {Q : Fl → St → Prop}
    (w : wpE P it (fun v σ₁ => wpItems σ₁.mem v fun vs g => sma vs.length ∧ WW vs g (fun us σ' => ∀ a, σ'.mem a = none → wpTgs P ts (.obj a) (fun σ₂ => Q .next σ₂) { σ₁ with mem := upd σ'.mem a (.list us) }) (compSt σ₁ n caps)) σ) :
    WF G A Γ (do evalThenUse (.ListComp elt (⟨target, iter, ifs, 0⟩ :: gs) sc p) Γ.env fun v => assignAll v ((assignEach xs Γ.env).map (·.2)); pure Flow.next) Q σ := fun frz s r => by
  rw [etu]
  refine wpAny_bind ?_
  have core := comp_core (pos := p) (ipos := firstIterPos (⟨target, iter, ifs, 0⟩ :: gs) p) (use := some fun v => assignAll v ((assignEach xs Γ.env).map (·.2))) (QQ := fun _ s' => wpAny (model G.prog G.w) A (pure ()) (fun _ s'' => wpAny (model G.prog G.w) A (pure Flow.next) (PF G Γ frz s Q) NoE s'') NoE s')
    (R := fun σ₁ us m => ∀ a, m a = none → wpTgs P ts (.obj a) (fun σ₂ => Q .next σ₂) { σ₁ with mem := upd m a (.list us) }) X.a X.ok X.c (compOk_of hc) hpl cr r ((soundX it).e Γ C X iter hi _ _ w)
  refine wpAny_bind (core fun σ₁ s' us m' D L mL hR hm r' t' d' ns => ?_)
  refine bc fun z9 => ?_
  obtain ⟨oL, es, ep, e, dL, hk, hf⟩ := id ns
  refine z9 ?_
  have ni : ¬ Imm oL := ns_not_imm ns e
  show wpAny _ A (assignAll (.ref D) ((assignEach xs Γ.env).map (·.2))) _ NoE s'
  refine w_mono (s_targets X ts xs h3 (hR D hm) (r'.asideIn d' e) (.obj D)) fun _ s₂ ⟨σ₂, r2, tt2, w2⟩ => ?_
  refine bc fun z9 => ?_
  obtain ⟨r3, d3, e3⟩ := Rep.asideOut r' d' r2
  refine z9 ?_
  refine ⟨mL, ⟨oL, es, ep, e3, dL, hk, hf⟩, fun h' hs' => ?_⟩
  obtain ⟨r4, t4⟩ := r3.aside (tk := s₂.toks) d3 e3 ni hs'.extBut
  exact wpAny_pure (wpAny_pure ⟨.next, σ₂, .next, r4, (t'.trans tt2).trans t4, w2⟩)
theorem sole_comp {xs : List Expr} {e t : Expr} {i : Expr} {ifs : List Expr} {gs : List Comprehension} {sc : Scope} {p : Pos} {l : Nat} {env : Env} : ∃ b, swapsWithSole xs (.ListComp e (⟨t, i, ifs, 0⟩ :: gs) sc p) l env = pure b := by
  match xs with
  | [] => exact ⟨false, rfl⟩
  | _ :: _ :: _ => exact ⟨false, rfl⟩
  | [tg] => cases tg <;> exact ⟨_, rfl⟩
theorem isCompX_e {M : Ex → Prop} {e : Ex} (h : isCompX e = true) (k1 : ∀ a b c d f g n, M (.comp a b c d f g n)) (k2 : ∀ a b c d f g n m, M (.comp2 a b c d f g n m)) : M e :=
  match e, h with
  | .comp .., _ => k1 ..
  | .comp2 .., _ => k2 ..
theorem sole_of {e : Ex} {xs : List Expr} {y : Expr} {l : Nat} {env : Env} (h1 : (isCompX e || notComp y) = true) (h4 : chkE C e y = true) : ∃ b, swapsWithSole xs y l env = pure b ∧ (b = true → isCompX e = true) := by
  cases q : isCompX e with
  | false =>
    rw [q, Bool.false_or] at h1
    exact ⟨false, swaps_sole h1 _ _ _, fun q => nomatch q⟩
  | true =>
    have : ∃ b, swapsWithSole xs y l env = pure b := isCompX_e (M := fun e => chkE C e y = true → ∃ b, swapsWithSole xs y l env = pure b) q
      (fun _ _ _ _ _ _ _ h => by cases chk_comp h with | mk _ _ _ _ _ _ h => subst h; exact sole_comp)
      (fun _ _ _ _ _ _ _ _ h => by cases chk_comp2 h with | mk _ _ _ _ _ _ _ h => subst h; exact sole_comp) h4
    exact this.elim fun b hb => ⟨b, hb, fun _ => rfl⟩
theorem s_assignX (X : Cx G A P Γ C) {ts : List Tg} {e : Ex} {xs : List Expr} {y : Expr} (h1 : isCompX e = true) (h3 : chkTgs C ts xs = true) (h4 : chkE C e y = true) {Q : Fl → St → Prop} (w : wpS P (.assign ts e) Q σ) :
    WF G A Γ (do evalThenUse y Γ.env fun v => assignAll v ((assignEach xs Γ.env).map (·.2)); pure Flow.next) Q σ :=
  isCompX_e (M := fun e => chkE C e y = true → wpS P (.assign ts e) Q σ → WF G A Γ (do evalThenUse y Γ.env fun v => assignAll v ((assignEach xs Γ.env).map (·.2)); pure Flow.next) Q σ) h1
    (fun _ _ _ _ _ _ _ h4 w => by
      cases chk_comp h4 with | mk _ _ _ _ _ _ h g1 g2 g3 g4 g5 g6 =>
      subst h
      exact s_assignComp X h3 g3 g1 g2 (comp_walk X (soundX _).e (soundL _) (compOk_of g3) g4 g5 g6) w)
    (fun _ _ _ _ _ _ _ _ h4 w => by
      cases chk_comp2 h4 with | mk _ _ _ _ _ _ _ h g1 g2 g3 g4 g5 g6 g7 g8 =>
      subst h
      exact s_assignComp X h3 g4 g1 g3 (comp_walk2 X (soundX _).e (soundX _).e (compOk_of g4) g2 g5 g6 g7 g8) w) h4 w
theorem swaps_many {x x' y : Expr} {xs : List Expr} {env : Env} : swappedStores (x :: x' :: xs) y env = pure none := by cases x <;> rfl
theorem swaps_no {x y : Expr} {env : Env} (h : x.ctorIdx ≠ 24 ∧ (x.ctorIdx ≠ 25 ∨ y.ctorIdx ≠ 25)) : swappedStores [x] y env = pure none := by
  cases x <;> first | rfl | exact absurd rfl h.1 | skip
  cases y <;> first | rfl | exact absurd rfl (h.2.resolve_left fun q => q rfl)
theorem s_swapped (X : Cx G A P Γ C) {ts : List Tg} {es : List Expr} {k : Nat} {p : Pos} {f : Str → Pos → Bool} {v : V} {cv : Value} {Q : Fl → St → Prop} (h3 : chkTgs C ts [.Tuple es k p] = true) (hlen : (es.filterMap (nameIf f)).length = es.length) (h23 : es.length = 2 ∨ es.length = 3)
    (w : wpTgs P ts v (fun σ₂ => Q .next σ₂) σ) (r : Rep G Γ frz σ s) (hv : RV s.heap cv v) :
    wpAny (model G.prog G.w) A (assignStores Γ.env cv (some (es.filterMap (nameIf f))) ((assignEach [.Tuple es k p] Γ.env).map (·.2))) (PF G Γ frz s Q) NoE s := by
  obtain ⟨t, ts, rfl⟩ : ∃ t ts', ts = t :: ts' := by
    cases ts with
    | nil => cases chkTgs_nil h3
    | cons t ts => exact ⟨_, _, rfl⟩
  refine bc fun z9 => ?_
  obtain ⟨_, _, eq, _, ht, hts⟩ := chkTgs_cons h3
  refine z9 ?_
  cases eq
  cases ts with
  | cons t' ts => obtain ⟨_, _, eq, _⟩ := chkTgs_cons hts; cases eq
  | nil =>
  cases t <;> first | exact absurd ht Bool.false_ne_true | skip
  rename_i is
  obtain ⟨ht1, ht2⟩ := and_e (show (nodupN is && chkIs C is es) = true from ht)
  refine bc fun z9 => ?_
  obtain ⟨vals, rfl, hl, w2⟩ := tup_inv w
  refine z9 ?_
  have bs := names_bs (A := A) X.ok X.c f ht2 hlen
  have hbl := bs.length
  rw [List.length_map] at hbl
  have bs' := bs.reverse
  rw [← List.map_reverse] at bs'
  show wpAny _ _ (do rule "assign.swapped-stores"; let items ← unpackItems cv (es.filterMap (nameIf f)).length none; assignInOrder ((es.filterMap (nameIf f)).reverse.map fun n => bindName Γ.env n) items.reverse; pure Flow.next) _ _ s
  refine wpAny_bind (wpAny_rule (wpAny_bind (s_unpack X.a r hv (hl.trans hbl.symm) fun cvs s₂ rs r2 t2 => wpAny_bind ?_)))
  refine s_bindsF bs' r2 rs.reverse (by rw [List.length_reverse, List.length_reverse]; exact hl.symm) fun s' r' t' => wpAny_pure ⟨.next, _, .next, r', t2.trans t', ?_⟩
  rw [setAll_rev ht1 hl.symm (by rw [← hbl, hlen]; exact h23)]
  exact w2
theorem s_stores (X : Cx G A P Γ C) {ts : List Tg} {xs : List Expr} {y : Expr} {v : V} {cv : Value} {Q : Fl → St → Prop} (h2 : swapOk xs y = true) (h3 : chkTgs C ts xs = true)
    (w : wpTgs P ts v (fun σ₂ => Q .next σ₂) σ) (r : Rep G Γ frz σ s) (hv : RV s.heap cv v) :
    wpAny (model G.prog G.w) A (do assignStores Γ.env cv (← swappedStores xs y Γ.env) ((assignEach xs Γ.env).map (·.2))) (PF G Γ frz s Q) NoE s := by
  have plain : wpAny (model G.prog G.w) A (assignStores Γ.env cv none ((assignEach xs Γ.env).map (·.2))) (PF G Γ frz s Q) NoE s :=
    wpAny_bind (w_mono (s_targets X ts xs h3 w r hv) fun _ s₂ ⟨σ₂, r2, t2, w2⟩ => wpAny_pure ⟨.next, σ₂, .next, r2, t2, w2⟩)
  have go : swappedStores xs y Γ.env = pure none → wpAny (model G.prog G.w) A (do assignStores Γ.env cv (← swappedStores xs y Γ.env) ((assignEach xs Γ.env).map (·.2))) (PF G Γ frz s Q) NoE s := fun e => by
    rw [ e ]; exact wpAny_bind (wpAny_pure plain)
  cases xs with
  | nil => cases h2
  | cons x xs =>
  cases xs with
  | cons x' xs => exact go swaps_many
  | nil =>
  obtain ⟨h24, h2⟩ := and_e h2
  by_cases hx : x.ctorIdx = 25
  · by_cases hy : y.ctorIdx = 25
    · rw [hx, hy] at h2
      refine isTup_e (e := y) (K := fun vs => !vs.all (constantsAlone 8) || vs.all (foldedForSure 8)) (M := fun y => (swappedStores [x] y Γ.env = pure none → wpAny (model G.prog G.w) A (do assignStores Γ.env cv (← swappedStores [x] y Γ.env) ((assignEach [x] Γ.env).map (·.2))) (PF G Γ frz s Q) NoE s) → wpAny (model G.prog G.w) A (do assignStores Γ.env cv (← swappedStores [x] y Γ.env) ((assignEach [x] Γ.env).map (·.2))) (PF G Γ frz s Q) NoE s) h2 ?_ go
      intro vs k' p' h2 go
      revert h3 go
      refine Expr.Tuple.elim (motive_1 := fun x => chkTgs C ts [x] = true → (swappedStores [x] (.Tuple vs k' p') Γ.env = pure none → wpAny (model G.prog G.w) A (do assignStores Γ.env cv (← swappedStores [x] (.Tuple vs k' p') Γ.env) ((assignEach [x] Γ.env).map (·.2))) (PF G Γ frz s Q) NoE s) → wpAny (model G.prog G.w) A (do assignStores Γ.env cv (← swappedStores [x] (.Tuple vs k' p') Γ.env) ((assignEach [x] Γ.env).map (·.2))) (PF G Γ frz s Q) NoE s) x hx ?_
      intro es k p h3 go
      rcases swapped_of (ts := es) (vs := vs) (k := k) (k' := k') (p := p) (p' := p') (env := Γ.env) h2 with q | ⟨f, q, hlen, h23⟩
      · exact go q
      · rw [ q ]; exact wpAny_bind (wpAny_pure (s_swapped X h3 hlen h23 w r hv))
    · exact go (swaps_no ⟨bne_iff_ne.mp h24, .inr hy⟩)
  · exact go (swaps_no ⟨bne_iff_ne.mp h24, .inl hx⟩)
theorem s_assign (X : Cx G A P Γ C) {ts : List Tg} {e : Ex} {xs : List Expr} {y : Expr} {pos : Pos} (h1 : (isCompX e || notComp y) = true) (h2 : swapOk xs y = true) (h3 : chkTgs C ts xs = true) (h4 : chkE C e y = true)
    {Q : Fl → St → Prop} (w : wpS P (.assign ts e) Q σ) : WF G A Γ (exec (.Assign xs y pos) Γ.env) Q σ := fun frz s r => by
  obtain ⟨b, hbe, hbt⟩ := sole_of (xs := xs) (l := pos.line) (env := Γ.env) h1 h4
  refine w_eq (PyProof.Rows.exec_Assign _ _ _) (wpAny_bind (wpAny_standAt ?_))
  rw [ hbe ]
  refine wpAny_bind (wpAny_pure ?_)
  cases b with
  | true =>
    exact s_assignX X (hbt rfl) h3 h4 w frz s r
  | false =>
    exact wpAny_bind (((soundX e).e Γ C X y h4 _ _ w).then r fun cv v σ₁ s₁ a1 r1 t1 w1 => w_mono (s_stores X h2 h3 w1 r1 a1) fun _ _ h => h.after t1)
end
section
variable {G : GS} {A : Around} {Γ : FE} {frz : Frz} {σ : St} {s : Shared}
theorem WF.then {t : Sem Flow} {Q : Fl → St → Prop} {post : Flow → Shared → Prop} {E : Value → Shared → Prop} (h : WF G A Γ t Q σ) (r : Rep G Γ frz σ s)
    (k : ∀ cv v σ₁ s₁, RF s₁.heap cv v → Rep G Γ frz σ₁ s₁ → TK s.heap s₁.heap → Q v σ₁ → post cv s₁) : wpAny (model G.prog G.w) A t post E s :=
  wpAny_mono (h frz s r) (fun cv s₁ ⟨v, σ₁, a, b, c, d⟩ => k cv v σ₁ s₁ a b c d) fun _ _ x => x.elim
theorem s_aug {op : Operator} {v u : V} {cv cu : Value} {Q : V → Prop} (h : wpAug σ.mem op v u Q) (r : Rep G Γ frz σ s) (hv : RV s.heap cv v) (hu : RV s.heap cu u) {post : Value → Shared → Prop}
    (k : ∀ cr r s', RV s'.heap cr r → Rep G Γ frz σ s' → TK s.heap s'.heap → Q r → post cr s') : wpAny (model G.prog G.w) A (inplaceOp op cv cu) post NoE s := by
  cases op <;> first | exact False.elim h | skip
  · cases v <;> first | exact False.elim h | skip
    · obtain ⟨b, rfl, h⟩ := asI_inv h
      exact hv.eI fun _ => hu.eI fun _ => PyProof.Rows.iadd_int (k _ _ _ (.int _ _) (r.toks _) (.refl _) h)
    · obtain ⟨b, rfl, h1, h2, h3⟩ := asS_inv h
      exact hv.eS fun _ => hu.eS fun _ => PyProof.Rows.iadd_str (fun t' tk => by rw [mkS_append]; exact k _ _ _ (.str _ _) (r.toks _) (.refl _) h3) (by rw [mkl, mkl, sizeLine_eq]; exact Nat.le_trans (Nat.add_le_add h1 h2) (by decide))
  · exact ord_e (M := fun cv cu => wpAny (model G.prog G.w) A (inplaceOp .Sub cv cu) post NoE s) h hv hu fun _ _ _ _ h => PyProof.Rows.isub_int (k _ _ _ (.int _ _) (r.toks _) (.refl _) h)
theorem s_load {i : Nat} {x : Str} {k : VK} {v : V} {post : Value → Shared → Prop} (ok : Γ.ok) (r : Rep G Γ frz σ s) (hx : Γ.vars[i]? = some (x, k)) (hv : σ.loc[i]? = some (some v)) (q : ∀ cv, RV s.heap cv v → post cv s) :
    wpAny (model G.prog G.w) A (loadName Γ.env x) post NoE s := by
  cases k with
  | loc =>
    obtain ⟨m, n, f⟩ := r.hns
    obtain ⟨cv, e, rv⟩ := f i x v hx hv
    exact wpAny_loadName_local ok.fn (ok.loc i x hx) n e (q _ rv)
  | own c =>
    obtain ⟨_, _, o, ov, g, d, f⟩ := r.hown i x c hx
    obtain ⟨cv, e, rv⟩ := f v hv
    subst e
    obtain ⟨a1, a2, _⟩ := ok.own i x c hx
    exact wpAny_loadName_cell ok.fn a1 a2 ⟨_, g, d⟩ (q _ rv)
  | ref c =>
    obtain ⟨o, ov, g, d, f⟩ := r.href i x c hx
    obtain ⟨cv, e, rv⟩ := f v hv
    subst e
    have g' := r.hfrz _ _ g
    obtain ⟨a1, a2⟩ := ok.ref i x c hx
    rcases a1 with a1 | a1
    · exact wpAny_loadName_cell ok.fn a1 a2 ⟨_, g', d⟩ (q _ rv)
    · exact wpAny_loadName_free ok.fn a1 a2 ⟨_, g', d⟩ (q _ rv) (ok.dbg i x _ hx).2
noncomputable def SS (G : GS) (A : Around) (P : PC) (x : Sm) : Prop := ∀ (Γ : FE) (C : SC), Cx G A P Γ C → ∀ (e : Stmt), chkS C x e = true → ∀ (Q : Fl → St → Prop) (σ : St), wpS P x Q σ → WF G A Γ (exec e Γ.env) Q σ
noncomputable def SB (G : GS) (A : Around) (P : PC) (xs : List Sm) : Prop := ∀ (Γ : FE) (C : SC), Cx G A P Γ C → ∀ (es : List Stmt), chkSs C xs es = true → ∀ (Q : Fl → St → Prop) (σ : St), wpSs P xs Q σ → WF G A Γ (execs es Γ.env) Q σ
variable {P : PC}
theorem sd_expr {y : Ex} : SS G A P (.expr y) := fun Γ C X e h Q σ w => isExprS_e (x := e) (K := fun e => notComp e && chkE C y e) (M := fun e => WF G A Γ (exec e Γ.env) Q σ) h fun e p h frz s r =>
  wpAny_Expr_any (((soundX y).e Γ C X e (and_e h).2 _ _ w).then r fun cv v σ₁ s₁ a1 r1 t1 w1 => ⟨.next, σ₁, .next, r1, t1, w1⟩) (by unfold interactive; rw [X.ok.fn]; rfl) (swaps_none (and_e h).1 _ _ _)
theorem sd_assign {ts : List Tg} {y : Ex} : SS G A P (.assign ts y) := fun Γ C X e h Q σ w => isAssign_e (x := e) (K := fun xs e => (isCompX y || notComp e) && (swapOk xs e && (chkTgs C ts xs && chkE C y e))) (M := fun e => WF G A Γ (exec e Γ.env) Q σ) h fun xs e p h =>
  s_assign X (and_e h).1 (and_e (and_e h).2).1 (and_e (and_e (and_e h).2).2).1 (and_e (and_e (and_e h).2).2).2 w
theorem sd_aug {i : Nat} {op : Operator} {y : Ex} : SS G A P (.aug i op y) := fun Γ C X e h Q σ w => isAug_e (x := e) (K := fun t o e => isName t fun n => C.isW i n && (op == o && chkE C y e)) (M := fun e => WF G A Γ (exec e Γ.env) Q σ) h fun t o e p h =>
  isName_e (e := t) (K := fun n => C.isW i n && (op == o && chkE C y e)) (M := fun t => WF G A Γ (exec (.AugAssign t o e p) Γ.env) Q σ) h fun n q h frz s r => by
    obtain ⟨h1, h⟩ := and_e h
    obtain ⟨h2, h3⟩ := and_e h
    cases beq_iff_eq.mp h2
    obtain ⟨v, hv, w⟩ := loc_inv w
    obtain ⟨k, hx, hk⟩ := isW_of X.c h1
    refine wpAny_AugAssign_Name (s_load X.ok r hx hv fun cv rv => ((soundX y).e Γ C X e h3 _ _ w).then r fun cu u σ₁ s₁ a1 r1 t1 w1 => s_aug w1 r1 (rv.tk t1) a1 fun cr q s' rq r2 t2 w2 => ?_)
    exact w_mono (s_store X.ok r2 hx hk rq) fun _ s₃ h3 => ⟨.next, _, .next, h3.1, (t1.trans t2).trans h3.2, w2⟩
theorem del_fin {a : Addr} {k : Int} {t : Tok} {vs : List V} {j : Nat} {post : Unit → Shared → Prop} (ok : Γ.ok) (r : Rep G Γ frz σ s) (hk : tiny k) (hm : σ.mem a = some (.list vs)) (hj : pyIx vs.length k = some j) (hz : sma vs.length)
    (q : ∀ s', Rep G Γ frz { σ with mem := upd σ.mem a (.list (vs.eraseIdx j)) } s' → TK s.heap s'.heap → post () s') : wpAny (model G.prog G.w) A (delItem (.ref a) (.int k t)) post NoE s := by
  refine bc fun z9 => ?_
  obtain ⟨arr, n, g, rs, hzz⟩ := (r.hmem _ _ hm).l
  refine z9 ?_
  refine PySem.P.delItem_list (n := n) g (tiny_fit hk) (by rw [hzz]; exact hj) ?_ (by rw [hzz]; exact small_line hz)
  obtain ⟨q1, q2⟩ := r.change ok (tk := s.toks) (o := .list (vs.eraseIdx j)) hm (h' := s.heap.update _ (Obj.mapSeq fun xs => xs.eraseIdxIfInBounds j)) (fun b o hb e => (Heap.get?_update_other _ _ (Ne.symm hb)).trans e)
    (fun k => .list (Heap.get?_update_self _ g rfl) (by
      show RVs _ (arr.eraseIdxIfInBounds j).toList _
      rw [Array.toList_eraseIdxIfInBounds, List.eraseIdx_eq_take_drop_succ, List.eraseIdx_eq_take_drop_succ]
      exact ((rs.tk k).take _).append ((rs.tk k).drop _)))
  exact q _ q1 q2
theorem sd_del {o i : Ex} : SS G A P (.del o i) := fun Γ C X e h Q σ w => isDel_e (x := e) (K := fun xs => one1 xs fun y => isSub y fun v s => chkE C o v && chkE C i s) (M := fun e => WF G A Γ (exec e Γ.env) Q σ) h fun xs p h => by
  refine bc fun z9 => ?_
  obtain ⟨y, rfl, h⟩ := one1_inv h
  refine z9 ?_
  refine isSub_e (e := y) (K := fun v s => chkE C o v && chkE C i s) (M := fun y => WF G A Γ (exec (.Delete [y] p) Γ.env) Q σ) h fun eo ei p' h frz s r => ?_
  refine wpAny_Delete (wpAny_deleteEach_cons (wpAny_delete_Subscript (((soundX o).e Γ C X eo (and_e h).1 _ _ w).then r fun co ov σ₁ s₁ a1 r1 t1 w1 => ((soundX i).e Γ C X ei (and_e h).2 _ _ w1).then r1 fun ci iv σ₂ s₂ a2 r2 t2 w2 => ?_)))
  refine bc fun z9 => ?_
  obtain ⟨a, k, vs, j, rfl, rfl, hk, hm, hj, hz, w⟩ := w2
  refine z9 ?_
  exact a1.eO (a2.eI fun _ => del_fin X.ok r2 hk hm hj hz fun s' q1 q2 => wpAny_deleteEach_nil ⟨.next, _, .next, q1, (t1.trans t2).trans q2, w⟩)
theorem sd_ife {c : Ex} {a b : List Sm} (ia : SB G A P a) (ib : SB G A P b) : SS G A P (.ife c a b) := fun Γ C X e h Q σ w => isIfS_e (x := e) (K := fun t y z => chkE C c t && (chkSs C a y && chkSs C b z)) (M := fun e => WF G A Γ (exec e Γ.env) Q σ) h fun t y z p h frz s r =>
  w_eq (arm_exec_If _ _ _ _ _) (wpAny_bind (wpAny_standAt (wpAny_bind (((soundX c).t Γ C X t (and_e h).1 _ _ w).then r fun t σ₁ s₁ r1 t1 w1 => by
    cases t with
    | true => exact w_mono (ia Γ C X y (and_e (and_e h).2).1 _ _ w1 frz s₁ r1) fun f s₂ p => p.after t1
    | false => exact w_mono (ib Γ C X z (and_e (and_e h).2).2 _ _ w1 frz s₁ r1) fun f s₂ p => p.after t1))))
theorem sd_whl {c : Ex} {b : List Sm} (ib : SB G A P b) : SS G A P (.whl c b) := fun Γ C X e h Q σ w => isWhile_e (x := e) (K := fun t y z => z.isEmpty && (chkE C c t && chkSs C b y)) (M := fun e => WF G A Γ (exec e Γ.env) Q σ) h fun t y z p h frz s r => by
  obtain ⟨h0, h⟩ := and_e h
  obtain ⟨hc, hb⟩ := and_e h
  cases List.isEmpty_iff.mp h0
  obtain ⟨I, ⟨n, hI⟩, turn⟩ := w
  refine wpAny_While (codeAny_whileLoop (fun n s' => ∃ σ', Rep G Γ frz σ' s' ∧ TK s.heap s'.heap ∧ I n σ') ?_ n ⟨σ, r, .refl _, hI⟩)
  intro n s₁ ⟨σ₁, r1, t1, i1⟩
  refine wpAny_mono ((soundX c).t Γ C X t hc _ _ (turn n σ₁ i1) frz s₁ r1) (fun t s₂ p => ?_) fun _ _ x => x.elim
  obtain ⟨σ₂, r2, t2, w2⟩ := p
  cases t with
  | true =>
    rw [if_pos rfl] at w2 ⊢
    refine (ib Γ C X y hb _ _ w2).then r2 fun cf f σ₃ s₃ a3 r3 t3 w3 => ?_
    have tt := (t1.trans t2).trans t3
    cases a3 with
    | next => obtain ⟨m, hm, hi⟩ := w3; exact ⟨m, hm, σ₃, r3, tt, hi⟩
    | cont => obtain ⟨m, hm, hi⟩ := w3; exact ⟨m, hm, σ₃, r3, tt, hi⟩
    | brk => exact ⟨.next, σ₃, .next, r3, tt, w3⟩
    | ret q => exact ⟨.ret _, σ₃, .ret q, r3, tt, w3⟩
  | false =>
    rw [if_neg Bool.false_ne_true] at w2 ⊢
    rw [arm_execs_nil]
    exact wpAny_pure ⟨.next, σ₂, .next, r2, t1.trans t2, w2⟩
noncomputable def ForI (G : GS) (P : PC) (Γ : FE) (frz : Frz) (s : Shared) (ia : Addr) (t : Tg) (b : List Sm) (g : Mem → Prop) (Q : Fl → St → Prop) (n : Nat) (s' : Shared) : Prop :=
  ∃ σ' vs' o, vs'.length = n ∧ Rep G Γ frz σ' s' ∧ TK s.heap s'.heap ∧ Aside G Γ frz σ' ia ∧ s'.heap.get? ia = some o ∧ IterAt s'.heap o g vs' ∧ wpLoop (wpTg P t) (wpSs P b) g Q vs' σ'
theorem for_turn {Γ : FE} {C : SC} {frz : Frz} {t : Tg} {b : List Sm} {tg : Expr} {y : List Stmt} {g : Mem → Prop} {Q : Fl → St → Prop} {s₀ s : Shared} {ia : Addr} {o : Obj} {vs : List V} {v : V} {cv : Value} (X : Cx G A P Γ C) (ib : SB G A P b) (htg : chkTg C t tg = true) (hb : chkSs C b y = true)
    {E : Value → Shared → Prop} {R : Flow → Shared → Prop}
    (r : Rep G Γ frz σ s) (t0 : TK s₀.heap s.heap) (d : Aside G Γ frz σ ia) (ho : s.heap.get? ia = some o) (i : IterAt s.heap o g vs) (hv : RV s.heap cv v)
    (w : wpTg P t v (fun σ => wpSs P b (fun fl σ₁ => match fl with
      | .next => wpLoop (wpTg P t) (wpSs P b) g Q vs σ₁
      | .cont => wpLoop (wpTg P t) (wpSs P b) g Q vs σ₁
      | .brk => Q .next σ₁
      | .ret r => Q (.ret r) σ₁) σ) σ)
    (k : ∀ f s', (f = .next ∨ f = .cont) → ForI G P Γ frz s₀ ia t b g Q vs.length s' → R f s') (kb : ∀ s', PF G Γ frz s₀ Q .next s' → R .brk s') (kr : ∀ v s', PF G Γ frz s₀ Q (.ret v) s' → R (.ret v) s') :
    wpAny (model G.prog G.w) A (assign tg Γ.env cv) (fun _ s' => wpAny (model G.prog G.w) A (execs y Γ.env) R E s') NoE s := by
  refine w_mono (s_target X t tg htg w (r.asideIn d ho) hv) fun _ s₅ p => ?_
  obtain ⟨σ₅, r5, t5, w5⟩ := p
  refine (ib Γ C X y hb _ _ w5).then r5 fun cf f σ₆ s₆ a6 r6 t6 w6 => ?_
  obtain ⟨r6', d6, ho6⟩ := Rep.asideOut r d r6
  have tt := (t0.trans t5).trans t6
  have i6 := i.tk (t5.trans t6)
  cases a6 with
  | next => exact k _ _ (.inl rfl) ⟨σ₆, vs, o, rfl, r6', tt, d6, ho6, i6, w6⟩
  | cont => exact k _ _ (.inr rfl) ⟨σ₆, vs, o, rfl, r6', tt, d6, ho6, i6, w6⟩
  | brk => exact kb _ ⟨.next, σ₆, .next, r6', tt, w6⟩
  | ret q => exact kr _ _ ⟨.ret _, σ₆, .ret q, r6', tt, w6⟩
theorem sd_fr {t : Tg} {it : Ex} {b : List Sm} (ib : SB G A P b) : SS G A P (.fr t it b) := fun Γ C X e h Q σ w => isFor_e (x := e) (K := fun tg e y z => z.isEmpty && (plainE e && (chkTg C t tg && (chkE C it e && chkSs C b y)))) (M := fun e => WF G A Γ (exec e Γ.env) Q σ) h fun tg e y z p h frz s r => by
  obtain ⟨h0, h⟩ := and_e h
  obtain ⟨hpl, h⟩ := and_e h
  obtain ⟨htg, h⟩ := and_e h
  obtain ⟨hit, hb⟩ := and_e h
  cases List.isEmpty_iff.mp h0
  refine wpAny_For (((soundX it).e Γ C X e hit _ _ w).then r fun cv v σ₁ s₁ a1 r1 t1 w1 => ?_) fun x => folded_plain hpl x
  refine bc fun z9 => ?_
  obtain ⟨vs, g, w1, mk⟩ := iter_make (A := A) r1 a1 w1
  refine z9 ?_
  refine w_mono mk fun itv s₂ p => ?_
  refine bc fun z9 => ?_
  obtain ⟨ia, o, rfl, r2, t2, d2, ho2, i2⟩ := p
  refine z9 ?_
  refine codeAny_forLoop_any (ForI G P Γ frz s ia t b g Q) ?_ _ ⟨σ₁, vs, o, rfl, r2, t1.trans t2, d2, ho2, i2, w1⟩
  intro n s₃ h3
  refine bc fun z9 => ?_
  obtain ⟨σ₃, vs', o', hl, r3, t3, d3, ho3, i3, w3⟩ := h3
  refine z9 ?_
  cases vs' with
  | nil =>
    refine wpAny_mono (iter_next X.a r3 d3 ho3 i3 w3.1) (fun x s₄ p => ?_) fun _ _ x => x.elim
    cases x with
    | some _ => exact False.elim p
    | none => exact w_eq (arm_execs_nil _) (wpAny_pure ⟨.next, σ₃, .next, p.1, t3.trans p.2, w3.2⟩)
  | cons v' vs' =>
    refine wpAny_mono (iter_next X.a r3 d3 ho3 i3 w3.1) (fun x s₄ p => ?_) fun _ _ x => x.elim
    cases x with
    | none => exact False.elim p
    | some cv' =>
      refine bc fun z9 => ?_
      obtain ⟨a4, r4, t4, o4, ho4, i4⟩ := p
      refine z9 ?_
      show wpAny _ _ (letOwnedTupleGo tg (Value.ref ia) cv') _ _ s₄
      refine letGo_none ho4 i4 ?_
      refine wpAny_mono (for_turn X ib htg hb r4 (t3.trans t4) d3 ho4 i4 a4 w3.2 ?_ ?_ ?_) (fun _ _ x => x) fun _ _ x => x.elim
      · intro f s' hf h
        rcases hf with rfl | rfl
        · exact ⟨_, by rw [← hl]; exact Nat.lt_succ_self _, h⟩
        · exact ⟨_, by rw [← hl]; exact Nat.lt_succ_self _, h⟩
      · exact fun _ h => h
      · exact fun _ _ h => h
theorem sd_ret {y : Ex} : SS G A P (.ret y) := fun Γ C X e h Q σ w => isRet_e (x := e) (K := fun e => chkO C y e) (M := fun e => WF G A Γ (exec e Γ.env) Q σ) h fun e p h frz s r => by
  cases e with
  | none =>
    obtain ⟨v, σ', a, b, c, d⟩ := soundO_none h w r
    exact wpAny_Return_none ⟨.ret v, σ', .ret a, b, c, d⟩
  | some e => exact wpAny_Return_some (((soundX y).e Γ C X e h _ _ w).then r fun cv v σ₁ s₁ a1 r1 t1 w1 => ⟨.ret v, σ₁, .ret a1, r1, t1, w1⟩)
theorem sd_brk : SS G A P .brk := fun Γ C X e h Q σ w => isBrk_e (x := e) (K := fun _ => true) (M := fun e => WF G A Γ (exec e Γ.env) Q σ) h fun p _ frz s r =>
  w_eq (arm_exec_Break _ _) (wpAny_bind (wpAny_standAt (wpAny_pure ⟨.brk, σ, .brk, r, .refl _, w⟩)))
theorem sb_nil : SB G A P [] := fun Γ C X es h Q σ w frz s r => by
  cases chkSs_nil h
  exact w_eq (arm_execs_nil _) (wpAny_pure ⟨.next, σ, .next, r, .refl _, w⟩)
theorem sb_cons {x : Sm} {xs : List Sm} (ix : SS G A P x) (is : SB G A P xs) : SB G A P (x :: xs) := fun Γ C X es h Q σ w frz s r => by
  rcases chkSs_cons h with rfl | ⟨e, es, rfl, h1, h2⟩
  · exact False.elim w
  refine w_eq (arm_execs_cons _ _ _) (wpAny_bind ((ix Γ C X e h1 _ _ w).then r fun cf f σ₁ s₁ a1 r1 t1 w1 => ?_))
  cases a1 with
  | next => exact w_mono (is Γ C X es h2 _ _ w1 frz s₁ r1) fun f s₂ p => p.after t1
  | brk => exact wpAny_pure ⟨_, σ₁, .brk, r1, t1, w1⟩
  | cont => exact wpAny_pure ⟨_, σ₁, .cont, r1, t1, w1⟩
  | ret q => exact wpAny_pure ⟨_, σ₁, .ret q, r1, t1, w1⟩
theorem soundB : (xs : List Sm) → SB G A P xs := Sm.rec_1 (motive_1 := SS G A P) (motive_2 := SB G A P)
  (fun _ => sd_expr) (fun _ _ => sd_assign) (fun _ _ _ => sd_aug) (fun _ _ => sd_del) (fun _ _ _ ia ib => sd_ife ia ib) (fun _ _ ib => sd_whl ib) (fun _ _ _ ib => sd_fr ib) (fun _ => sd_ret) sd_brk
  (fun _ _ _ _ h => absurd h Bool.false_ne_true) sb_nil (fun _ _ ix is => sb_cons ix is)
end
noncomputable def retV : Fl → V
  | .ret v => v
  | _ => .none
theorem bindL_other {k : Str → Option NameKind} : ∀ {ps : List Str} {cs : List Value} {m : Str → Option Value} {x : Str}, x ∉ ps → bindL k (ps.zip cs) m x = m x
  | [], _, _, _, _ => by dsimp [bindL]
  | _ :: _, [], _, _, _ => by rfl
  | p :: ps, c :: cs, m, x, h => by
    simp only [ List.zip_cons_cons ]; unfold bindL
    rw [bindL_other (fun q => h (List.mem_cons_of_mem _ q))]
    split
    · exact if_neg (fun q => h (by subst q; simp))
    · rfl
theorem bindL_get {k : Str → Option NameKind} : ∀ {ps : List Str} {cs : List Value} {m : Str → Option Value} {i : Nat} {x : Str} {c : Value}, ps.Nodup → ps[i]? = some x → cs[i]? = some c → k x = some .local → bindL k (ps.zip cs) m x = some c
  | [], _, _, _, _, _, _, h, _, _ => by trivial
  | _ :: _, [], _, _, _, _, _, _, h, _ => by trivial
  | p :: ps, d :: cs, m, 0, x, c, hn, h1, h2, hk => by
    simp only [List.getElem?_cons_zero, Option.some.injEq] at h1 h2
    subst h1; subst h2
    rw [List.nodup_cons] at hn
    simp only [ List.zip_cons_cons ]; unfold bindL
    rw [bindL_other hn.1, if_pos hk, if_pos rfl]
  | p :: ps, d :: cs, m, i + 1, x, c, hn, h1, h2, hk => by
    rw [List.nodup_cons] at hn
    simp only [ List.zip_cons_cons ]; unfold bindL
    exact bindL_get hn.2 (by simpa using h1) (by simpa using h2) hk
theorem bindC_other {k : Str → Option NameKind} : ∀ {ps : List Str} {cs : List Value} {m : Str → Option Value} {x : Str}, x ∉ ps → bindC k (ps.zip cs) m x = m x
  | [], _, _, _, _ => by dsimp [bindC]
  | _ :: _, [], _, _, _ => by rfl
  | p :: ps, c :: cs, m, x, h => by
    simp only [ List.zip_cons_cons ]; unfold bindC
    rw [bindC_other (fun q => h (List.mem_cons_of_mem _ q))]
    split
    · rfl
    · exact if_neg (fun q => h (by subst q; simp))
theorem bindC_get {k : Str → Option NameKind} : ∀ {ps : List Str} {cs : List Value} {m : Str → Option Value} {i : Nat} {x : Str} {c : Value}, ps.Nodup → ps[i]? = some x → cs[i]? = some c → ¬ k x = some .local → bindC k (ps.zip cs) m x = some c
  | [], _, _, _, _, _, _, h, _, _ => by trivial
  | _ :: _, [], _, _, _, _, _, _, h, _ => by trivial
  | p :: ps, d :: cs, m, 0, x, c, hn, h1, h2, hk => by
    simp only [List.getElem?_cons_zero, Option.some.injEq] at h1 h2
    subst h1; subst h2
    rw [List.nodup_cons] at hn
    simp only [ List.zip_cons_cons ]; unfold bindC
    rw [bindC_other hn.1, if_neg hk, if_pos rfl]
  | p :: ps, d :: cs, m, i + 1, x, c, hn, h1, h2, hk => by
    rw [List.nodup_cons] at hn
    simp only [ List.zip_cons_cons ]; unfold bindC
    exact bindC_get hn.2 (by simpa using h1) (by simpa using h2) hk
theorem w_ifneg {α : Type} {M : Model} {A : Around} {E : Value → Shared → Prop} {s : Shared} {c : Prop} [Decidable c] {x y : Sem α} {Q : α → Shared → Prop} (h : ¬ c) (k : wpAny M A y Q E s) : wpAny M A (if c then x else y) Q E s := by rw [if_neg h]; exact k
noncomputable def parOk (p : Arguments) (ps : List Str) : Bool :=
  p.posonlyargs.isEmpty && (p.vararg.isNone && (p.kwonlyargs.isEmpty && (p.kwarg.isNone && p.args.map Arg.arg == ps)))
noncomputable def Dflt (h : Heap) (v : Value) (ds : List Value) : Prop := (v = .none ∧ ds = []) ∨ ∃ T o arr n, v = .ref T ∧ h.get? T = some o ∧ o.data = .seq arr n ∧ arr.toList = ds
theorem w_dflt {M : Model} {A : Around} {E : Value → Shared → Prop} {s : Shared} {v : Value} {ds : List Value} {Q : Option (Array Value) → Shared → Prop} (h : Dflt s.heap v ds) (q : ∀ d : Option (Array Value), (d.getD #[]).toList = ds → Q d s) : wpAny M A (seqItems? v) Q E s := by
  rcases h with ⟨rfl, rfl⟩ | ⟨T, o, arr, n, rfl, h1, h2, h3⟩
  · exact wpAny_bind (wpAny_of_eq (a := ()) rfl (wpAny_pure (q none rfl)))
  · exact wpAny_seqItems h1 h2 (q _ h3)
noncomputable def fill (s l : List (Str × Value)) : List (Str × Value) := l.foldl (fun s x => if (s.lookup x.1).isNone = true then s ++ [(x.1, x.2)] else s) s
theorem lookup_app {x : Str} : ∀ (s l : List (Str × Value)), (s ++ l).lookup x = (s.lookup x).or (l.lookup x)
  | [], _ => rfl
  | (y, v) :: s, l => by
    (dsimp only [List.cons_append, List.lookup_cons, List.lookup_cons]; rw [ lookup_app s l ])
    cases x == y <;> rfl
theorem fill_look {x : Str} : ∀ (l s : List (Str × Value)), (fill s l).lookup x = (s.lookup x).or (l.lookup x)
  | [], s => (Option.or_none).symm
  | (y, v) :: l, s => by
    show (fill (if (s.lookup y).isNone = true then s ++ [(y, v)] else s) l).lookup x = _
    rw [fill_look l, List.lookup_cons]
    by_cases q : x = y
    · subst q
      rw [beq_self_eq_true]
      by_cases e : (s.lookup x).isNone = true
      · rw [if_pos e, lookup_app, List.lookup_cons, beq_self_eq_true, Option.isNone_iff_eq_none.mp e]; rfl
      · rw [if_neg e]
        cases z : List.lookup x s with
        | none => rw [z] at e; exact absurd rfl e
        | some u => rfl
    · rw [beq_eq_false_iff_ne.mpr q]
      by_cases e : (s.lookup y).isNone = true
      · rw [if_pos e, lookup_app, List.lookup_cons, beq_eq_false_iff_ne.mpr q]; show ((s.lookup x).or none).or _ = _; rw [Option.or_none]
      · rw [if_neg e]
theorem w_fill {M : Model} {A : Around} {E : Value → Shared → Prop} {s : Shared} {Q : List (Str × Value) → Shared → Prop} : ∀ (l t : List (Str × Value)), Q (fill t l) s →
    wpAny M A (forIn l t fun (x : Str × Value) (t : List (Str × Value)) => if (t.lookup x.1).isNone = true then pure (ForInStep.yield (t ++ [(x.1, x.2)])) else pure (ForInStep.yield t)) Q E s
  | [], t, q => wpAny_pure q
  | x :: l, t, q => by
    rw [List.forIn_cons]
    refine wpAny_bind ?_
    split
    · exact wpAny_pure (w_fill l _ (by unfold fill at q; rw [List.foldl_cons, if_pos (by assumption)] at q; exact q))
    · exact wpAny_pure (w_fill l _ (by unfold fill at q; rw [List.foldl_cons, if_neg (by assumption)] at q; exact q))
theorem fm_zip {L : Str → Option Value} : ∀ {ps : List Str} {cs : List Value}, ps.length = cs.length → (∀ (i : Nat) x v, ps[i]? = some x → cs[i]? = some v → L x = some v) → ps.filterMap (fun n => (L n).map (n, ·)) = ps.zip cs
  | [], _, _, _ => rfl
  | _ :: _, [], h, _ => nomatch h
  | p :: ps, c :: cs, h, k => by
    simp only [ List.filterMap_cons, k 0 p c rfl rfl, List.zip_cons_cons, ← fm_zip (Nat.succ.inj h) fun i x v a b => k (i + 1) x v a b ]; rfl
theorem zip_look : ∀ {ps : List Str} {cs : List Value}, ps.Nodup → ∀ {i : Nat} {x : Str}, ps[i]? = some x → (ps.zip cs).lookup x = cs[i]?
  | [], _, _, _, _, h => nomatch h
  | _ :: _, [], _, _, _, _ => rfl
  | p :: ps, c :: cs, hn, 0, x, h => by cases h; (dsimp only [List.zip_cons_cons, List.lookup_cons]; rw [beq_self_eq_true]); rfl
  | p :: ps, c :: cs, hn, i + 1, x, h => by
    rw [List.nodup_cons] at hn
    have h : ps[i]? = some x := h
    have ne : x ≠ p := fun q => hn.1 (by rw [ ← q ]; exact List.mem_of_getElem? h)
    (dsimp only [List.zip_cons_cons, List.lookup_cons]; rw [ beq_eq_false_iff_ne.mpr ne ]); exact zip_look hn.2 h
theorem args_eq {p : Arguments} (h1 : p.posonlyargs = []) (h2 : p.vararg = none) (h3 : p.kwonlyargs = []) (h4 : p.kwarg = none) : p = ⟨[], p.args, none, [], p.kw_defaults, none, p.defaults⟩ := by
  cases p; cases h1; cases h2; cases h3; cases h4; rfl
theorem parOk_inv {p : Arguments} {ps : List Str} (h : parOk p ps = true) : p = ⟨[], p.args, none, [], p.kw_defaults, none, p.defaults⟩ ∧ p.args.map Arg.arg = ps :=
  have h2 := (and_e h).2
  have h3 := (and_e h2).2
  have h4 := (and_e h3).2
  ⟨args_eq (List.isEmpty_iff.mp (and_e h).1) (Option.isNone_iff_eq_none.mp (and_e h2).1) (List.isEmpty_iff.mp (and_e h3).1) (Option.isNone_iff_eq_none.mp (and_e h4).1), beq_iff_eq.mp (and_e h4).2⟩
theorem bind_look {ps : List Str} {cs ds : List Value} {c j : Nat} (hn : ps.Nodup) (hc : cs.length = j + c) (hp : ps.length = c + ds.length) (hj : j ≤ ds.length) :
    ps.filterMap (fun n => ((fill (ps.zip cs) ((ps.drop (ps.length - ds.length)).zip ds)).lookup n).map (n, ·)) = ps.zip (cs ++ ds.drop j) := by
  refine fm_zip (by simp only [ List.length_append, List.length_drop, hc, hp, Nat.add_comm j c, Nat.add_assoc, Nat.add_sub_cancel' hj ]) fun i x v h1 h2 => ?_
  rw [fill_look, zip_look hn h1, hp, Nat.add_sub_cancel]
  by_cases q : i < cs.length
  · rw [List.getElem?_append_left q] at h2
    rw [ h2 ]; rfl
  · have q := Nat.le_of_not_lt q
    rw [List.getElem?_append_right q, List.getElem?_drop, hc] at h2
    rw [ List.getElem?_eq_none q ]
    obtain ⟨i, rfl⟩ := Nat.exists_eq_add_of_le (hc ▸ q)
    rw [Nat.add_sub_cancel_left] at h2
    have e : (ps.drop c)[j + i]? = some x := by rw [ List.getElem?_drop, ← h1, ← Nat.add_assoc, Nat.add_comm c j ]
    show ((ps.drop c).zip ds).lookup x = _
    rw [ zip_look (hn.sublist (List.drop_sublist _ _)) e, h2 ]
theorem bind_miss {ps : List Str} {cs : List Value} {k : Nat} (hn : ps.Nodup) (hk : k ≤ cs.length) : ((ps.take k).filter fun n => ((ps.zip cs).lookup n).isNone).isEmpty = true := by
  rw [List.isEmpty_iff, List.filter_eq_nil_iff]
  intro n hm
  obtain ⟨i, hi⟩ := List.getElem?_of_mem hm
  rw [List.getElem?_take] at hi
  split at hi
  · rename_i hik
    rw [zip_look hn hi, List.getElem?_eq_getElem (Nat.lt_of_lt_of_le hik hk)]
    exact Bool.false_ne_true
  · exact (Option.some_ne_none _ hi.symm).elim
theorem bind_core {s : Shared} {f : FuncData} {ar : List Arg} {kd : List (Option Expr)} {de : List Expr} {cs ds : List Value} {c j : Nat} (hf : f.params = ⟨[], ar, none, [], kd, none, de⟩) (hd : Dflt s.heap f.defaults ds) (hn : (ar.map Arg.arg).Nodup)
    (hc : cs.length = j + c) (hp : (ar.map Arg.arg).length = c + ds.length) (hj : j ≤ ds.length) : BindsTo s f ⟨cs, []⟩ ((ar.map Arg.arg).zip (cs ++ ds.drop j)) := by
  obtain ⟨_, _, _, _, _, _, _, dv, _, _, _, _, _, _⟩ := f
  cases hf
  rw [← bind_look hn hc hp hj]
  intro M A E Q q
  unfold bindArgs
  refine wpAny_bind (wpAny_pure (wpAny_bind (w_dflt hd fun d hds => ?_)))
  subst hds
  have e : (d.getD #[]).toList.drop ((d.getD #[]).toList.length - (ar.map Arg.arg).length) = (d.getD #[]).toList := by rw [hp, Nat.sub_eq_zero_of_le (Nat.le_add_left ..)]; rfl
  have m := bind_miss (cs := cs) (k := (ar.map Arg.arg).length - ((d.getD #[]).toList.drop ((d.getD #[]).toList.length - (ar.map Arg.arg).length)).length) hn (by rw [e, hp, hc, Nat.add_sub_cancel]; exact Nat.le_add_left ..)
  have q' : Q ((ar.map Arg.arg ++ []).filterMap (fun n => ((fill ((ar.map Arg.arg).zip cs) (((ar.map Arg.arg).drop ((ar.map Arg.arg).length - ((d.getD #[]).toList.drop ((d.getD #[]).toList.length - (ar.map Arg.arg).length)).length)).zip ((d.getD #[]).toList.drop ((d.getD #[]).toList.length - (ar.map Arg.arg).length)))).lookup n).map (n, ·))) s := by
    rw [e, List.append_nil]; exact q
  have hl : cs.length ≤ (ar.map Arg.arg).length := by rw [hc, hp, Nat.add_comm]; exact Nat.add_le_add_left hj c
  exact w_ifneg (fun h => absurd (of_decide_eq_true (and_e h).1) (Nat.not_lt.mpr hl)) (w_ifneg (fun h => Bool.noConfusion (m.symm.trans ((Bool.not_eq_true' _).mp h))) (wpAny_bind (w_fill _ _ (wpAny_bind (wpAny_pure (w_ifneg Bool.false_ne_true (wpAny_pure q')))))))
theorem bind_simple {s : Shared} {fd : FuncData} {ps : List Str} {cs ds : List Value} {c j : Nat} (hp : parOk fd.params ps = true) (hd : Dflt s.heap fd.defaults ds) (hn : ps.Nodup) (hc : cs.length = j + c) (hpl : ps.length = c + ds.length) (hj : j ≤ ds.length) :
    BindsTo s fd ⟨cs, []⟩ (ps.zip (cs ++ ds.drop j)) := by
  obtain ⟨e, rfl⟩ := parOk_inv hp
  exact bind_core e hd hn hc hpl hj
noncomputable def fdAt (o : Obj) : Option FuncData := match o.data with
  | .func fd => some fd
  | _ => none
noncomputable def fnOf (K : Frag) (f : Addr) : Option FuncData := (K.lookup f).bind fdAt
theorem fnOf_inv {K : Frag} {f : Addr} {fd : FuncData} (h : fnOf K f = some fd) : ∃ o, K.lookup f = some o ∧ o.data = .func fd := by
  obtain ⟨o, e1, e2⟩ := Option.bind_eq_some_iff.mp h
  refine ⟨o, e1, ?_⟩
  unfold fdAt at e2
  generalize o.data = d at e2
  cases d <;> cases e2
  rfl
noncomputable def bodyOf (fd : FuncData) : List Stmt := match fd.body with
  | .stmts b => b
  | _ => []
noncomputable def isStmts (fd : FuncData) : Bool := match fd.body with
  | .stmts _ => true
  | _ => false
theorem lookup_mem' {α β : Type} [BEq α] [LawfulBEq α] {x : α} {k : β} : ∀ {l : List (α × β)}, l.lookup x = some k → (x, k) ∈ l
  | [], h => by cases h
  | (y, d) :: l, h => by
    rw [List.lookup_cons] at h
    split at h
    · rename_i e; rw [beq_iff_eq] at e; subst e; cases h; simp
    · exact List.mem_cons_of_mem _ (lookup_mem' h)
theorem cells_more {x : Str} : ∀ (names : List (Str × NameKind)) (n : Nat) (acc : List (Str × Addr)), (acc.lookup x).isSome = true → ((cellsFrom n names acc).lookup x).isSome = true
  | [], _, _, h => h
  | (y, k) :: r, n, acc, h => by
    unfold cellsFrom
    split
    · refine cells_more r _ _ ?_
      simp only [ List.lookup_cons ]
      split
      · rfl
      · exact h
    · exact cells_more r _ _ h
theorem cells_some {x : Str} : ∀ (names : List (Str × NameKind)) (n : Nat) (acc : List (Str × Addr)), names.lookup x = some .cell → ((cellsFrom n names acc).lookup x).isSome = true
  | [], _, _, h => by exact (Option.some_ne_none _ h.symm).elim
  | (y, k) :: r, n, acc, h => by
    simp only [ List.lookup_cons ] at h
    unfold cellsFrom
    split at h
    · rename_i e
      cases h
      rw [if_pos (by decide)]
      refine cells_more r _ _ ?_
      rw [List.lookup_cons, e]; rfl
    · split <;> exact cells_some r _ _ h
noncomputable def fnVars (fd : FuncData) (L : Addr) (xs : List Str) : List (Str × VK) :=
  xs.map fun x => (x, if fd.scope.names.lookup x = some .cell then .own (((cellsFrom (L + 1) fd.scope.names []).lookup x).getD 0) else .loc)
noncomputable def fnFE (fd : FuncData) (L f : Addr) (xs : List Str) : FE := ⟨callEnvC fd L f, fnVars fd L xs⟩
noncomputable def locOk (fd : FuncData) (xs : List Str) : Bool :=
  nodupS xs && xs.all fun x => (fd.scope.names.lookup x == some .local || fd.scope.names.lookup x == some .cell) && !(x == ("__debug__" : Str)) && !(x == ("__classdict__" : Str))
noncomputable def namesOk (fd : FuncData) (C : SC) : Bool := (C.names.all fun p => fd.scope.names.lookup p.1 == some p.2) && C.cells.all fun x => fd.scope.names.lookup x == some .cell
noncomputable def locSC (ps rest : List Str) (names : List (Str × NameKind)) (fns meths : List String) (cells : List Str) : SC := ⟨(ps ++ rest).map (·, false), names, fns, meths, cells⟩
noncomputable def selfOk (v : V) (c : Value) : Bool := match v with
  | .none => c == .none
  | .bool b => c == .bool b
  | _ => false
theorem selfOk_rv {v : V} {c : Value} (h : selfOk v c = true) (hh : Heap) : RV hh c v := by
  cases v <;> first | exact absurd h Bool.false_ne_true | (cases beq_iff_eq.mp h; constructor)
noncomputable def selfsOk : List V → List Value → Bool
  | [], cs => cs.isEmpty
  | v :: vs, cs => cs.head?.any fun c => selfOk v c && selfsOk vs cs.tail
theorem selfsOk_rv {h : Heap} : ∀ {vs : List V} {cs : List Value}, selfsOk vs cs = true → RVs h cs vs
  | [], cs, q => by cases List.isEmpty_iff.mp q; exact .nil
  | v :: vs, cs, q => by
    cases cs with
    | nil => cases q
    | cons c cs => exact .cons (selfOk_rv (and_e q).1 h) (selfsOk_rv (and_e q).2)
noncomputable def seqOf (o : Obj) : List Value := match o.data with
  | .seq arr _ => arr.toList
  | _ => []
noncomputable def isSeq (o : Obj) : Bool := match o.data with
  | .seq _ _ => true
  | _ => false
theorem isSeq_inv {o : Obj} (h : isSeq o = true) : ∃ arr n, o.data = .seq arr n := by
  unfold isSeq at h
  generalize o.data = d at h
  cases d <;> first | exact absurd h Bool.false_ne_true | exact ⟨_, _, rfl⟩
noncomputable def refA (v : Value) : Option Addr := match v with
  | .ref T => some T
  | _ => none
theorem refA_inv {v : Value} {T : Addr} (h : refA v = some T) : v = .ref T := by cases v <;> cases h; rfl
noncomputable def dfltOk (K : Frag) (v : Value) (ds : List V) : Bool := (v == .none && ds.isEmpty) || (refA v).any fun T => (K.lookup T).any fun o => isSeq o && selfsOk ds (seqOf o)
theorem any_inv {α : Type} {o : Option α} {f : α → Bool} (h : o.any f = true) : ∃ a, o = some a ∧ f a = true := by
  cases o with
  | none => cases h
  | some a => exact ⟨a, rfl, h⟩
theorem dfltOk_of {K : Frag} {v : Value} {ds : List V} {h : Heap} (X : K.In h) (q : dfltOk K v ds = true) : ∃ cs, Dflt h v cs ∧ RVs h cs ds := by
  rcases (Bool.or_eq_true _ _).mp q with q | q
  · have q2 := List.isEmpty_iff.mp (and_e q).2
    exact ⟨[], .inl ⟨beq_iff_eq.mp (and_e q).1, rfl⟩, q2 ▸ .nil⟩
  · obtain ⟨T, eT, q⟩ := any_inv q
    obtain ⟨o, eo, q⟩ := any_inv q
    obtain ⟨q1, q2⟩ := and_e q
    obtain ⟨arr, n, e⟩ := isSeq_inv q1
    refine ⟨_, .inr ⟨_, _, _, _, refA_inv eT, X _ _ eo, e, rfl⟩, ?_⟩
    unfold seqOf at q2
    rw [e] at q2
    exact selfsOk_rv q2
noncomputable def fdOk (K : Frag) (fd : FuncData) (ps : List Str) : Bool :=
  codeIn K fd.code fd.qualname && (fd.globals == mainGlobals && (fd.builtins == builtinsNs && (parOk fd.params ps && (!fd.scope.isCoroutine && (!fd.scope.isGenerator && fd.scope.kind == .function)))))
structure FdOk (K : Frag) (fd : FuncData) (ps : List Str) : Prop where
  code : codeIn K fd.code fd.qualname = true
  glb : fd.globals = mainGlobals
  bui : fd.builtins = builtinsNs
  par : parOk fd.params ps = true
  co : fd.scope.isCoroutine = false
  ge : fd.scope.isGenerator = false
  fn : fd.scope.kind = .function
theorem fdOk_of {K : Frag} {fd : FuncData} {ps : List Str} (h : fdOk K fd ps = true) : FdOk K fd ps :=
  have h2 := (and_e h).2
  have h3 := (and_e h2).2
  have h4 := (and_e h3).2
  have h5 := (and_e h4).2
  have h6 := (and_e h5).2
  ⟨(and_e h).1, beq_iff_eq.mp (and_e h2).1, beq_iff_eq.mp (and_e h3).1, (and_e h4).1, (Bool.not_eq_true' _).mp (and_e h5).1, (Bool.not_eq_true' _).mp (and_e h6).1, beq_iff_eq.mp (and_e h6).2⟩
noncomputable def fnChkD (K : Frag) (f : Addr) (ds : List V) (ps rest : List Str) (C : SC) (mine : List Sm) : Bool :=
  (fnOf K f).any fun fd => fdOk K fd ps && (dfltOk K fd.defaults ds && (namesOk fd C && (locOk fd (ps ++ rest) && (fd.closure.isEmpty && (isStmts fd && chkSs C mine (bodyOf fd))))))
noncomputable def fnChk (K : Frag) (f : Addr) (ps rest : List Str) (C : SC) (mine : List Sm) : Bool := fnChkD K f [] ps rest C mine
theorem fnVars_get {fd : FuncData} {L : Addr} {xs : List Str} {i : Nat} {x : Str} {k : VK} (h : (fnVars fd L xs)[i]? = some (x, k)) :
    xs[i]? = some x ∧ k = if fd.scope.names.lookup x = some .cell then .own (((cellsFrom (L + 1) fd.scope.names []).lookup x).getD 0) else .loc := by
  unfold fnVars at h
  rw [List.getElem?_map, Option.map_eq_some_iff] at h
  obtain ⟨y, a, b⟩ := h
  cases b
  exact ⟨a, rfl⟩
theorem apart_eq {x y : Str} {c : Addr} : ∀ {l : List (Str × Addr)}, (l.Pairwise fun x y => x.2 ≠ y.2) → (x, c) ∈ l → (y, c) ∈ l → x = y
  | [], _, h, _ => by cases h
  | (z, d) :: l, ap, h1, h2 => by
    rw [List.pairwise_cons] at ap
    rcases List.mem_cons.mp h1 with e1 | e1 <;> rcases List.mem_cons.mp h2 with e2 | e2
    · cases e1; cases e2; rfl
    · cases e1; exact absurd rfl (ap.1 (y, c) e2)
    · cases e2; exact absurd rfl (ap.1 (x, c) e1)
    · exact apart_eq ap.2 e1 e2
section
variable {G : GS} {A : Around}
theorem locOk_of {fd : FuncData} {xs : List Str} (h : locOk fd xs = true) : xs.Nodup ∧ ∀ x ∈ xs, (fd.scope.names.lookup x = some .local ∨ fd.scope.names.lookup x = some .cell) ∧ (x == ("__debug__" : Str)) = false ∧ (x == ("__classdict__" : Str)) = false := by
  unfold locOk at h
  simp only [Bool.and_eq_true, List.all_eq_true, Bool.not_eq_true', beq_iff_eq, Bool.or_eq_true] at h
  exact ⟨nodupS_of h.1, fun x hx => ⟨(h.2 x hx).1.1, (h.2 x hx).1.2, (h.2 x hx).2⟩⟩
theorem fn_ok {fd : FuncData} {L f : Addr} {xs : List Str} (h : locOk fd xs = true) (h2 : fd.scope.kind = .function) (h3 : fd.globals = mainGlobals) (h4 : fd.builtins = builtinsNs)
    (ab : ∀ n c, (n, c) ∈ cellsFrom (L + 1) fd.scope.names [] → L < c) (ap : (cellsFrom (L + 1) fd.scope.names []).Pairwise fun x y => x.2 ≠ y.2) : (fnFE fd L f xs).ok := by
  obtain ⟨nd, hl⟩ := locOk_of h
  have cl : ∀ {x : Str} {c : Addr}, VK.own c = (if fd.scope.names.lookup x = some .cell then VK.own (((cellsFrom (L + 1) fd.scope.names []).lookup x).getD 0) else .loc) →
      fd.scope.names.lookup x = some .cell ∧ (cellsFrom (L + 1) fd.scope.names []).lookup x = some c := fun {x c} e => by
    split at e
    · rename_i q
      cases e
      obtain ⟨c, hc⟩ := Option.isSome_iff_exists.mp (cells_some fd.scope.names (L + 1) [] q)
      exact ⟨q, by rw [ hc ]; rfl⟩
    · cases e
  have same : ∀ (i j : Nat) x k k', (fnVars fd L xs)[i]? = some (x, k) → (fnVars fd L xs)[j]? = some (x, k') → i = j := fun i j x k k' hx hy => by
    have hx := (fnVars_get hx).1
    have hy := (fnVars_get hy).1
    obtain ⟨hi, _⟩ := List.getElem?_eq_some_iff.mp hx
    exact (List.getElem?_inj hi nd).mp (hx.trans hy.symm)
  refine ⟨h2, h3, h4, ?_, ?_, ?_, same, ?_, ?_⟩
  · intro i x hx
    obtain ⟨a, b⟩ := fnVars_get hx
    rcases (hl x (List.mem_of_getElem? a)).1 with q | q
    · exact q
    · rw [if_pos q] at b; cases b
  · intro i x c hx
    obtain ⟨a, b⟩ := fnVars_get hx
    obtain ⟨b1, b2⟩ := cl b
    exact ⟨b1, b2, Nat.ne_of_gt (ab x c (mem_of_lookup b2))⟩
  · intro i x c hx
    have b := (fnVars_get hx).2
    split at b <;> cases b
  · intro i j x y c hx hy
    have hx' := (cl (fnVars_get hx).2).2
    have hy' := (cl (fnVars_get hy).2).2
    cases apart_eq ap (mem_of_lookup hx') (mem_of_lookup hy')
    exact same i j x _ _ hx hy
  · intro i x k hx
    exact (hl x (List.mem_of_getElem? (fnVars_get hx).1)).2
theorem sc_ok {fd : FuncData} {L f : Addr} {ps rest : List Str} {names : List (Str × NameKind)} {fns meths : List String} {cells : List Str} (h : namesOk fd (locSC ps rest names fns meths cells) = true)
    (hf : ∀ n, n ∈ fns → n ∈ G.fns) (hm : ∀ n, n ∈ meths → n ∈ G.meths) : (locSC ps rest names fns meths cells).ok G (fnFE fd L f (ps ++ rest)) := by
  unfold namesOk at h
  rw [Bool.and_eq_true] at h
  refine ⟨?_, hf, hm, ?_, ?_⟩
  · intro i x hx e
    have q : fd.scope.names.lookup x = some .cell := beq_iff_eq.mp (List.all_eq_true.mp h.2 x hx)
    have b := (fnVars_get e).2
    rw [if_pos q] at b; cases b
  · intro i x r hx
    replace hx : ((ps ++ rest).map (·, false))[i]? = some (x, r) := hx
    rw [List.getElem?_map, Option.map_eq_some_iff] at hx
    obtain ⟨y, a, b⟩ := hx
    cases b
    refine ⟨_, by show (fnVars fd L (ps ++ rest))[i]? = _; unfold fnVars; rw [List.getElem?_map, a]; rfl, fun _ c q => ?_⟩
    split at q <;> cases q
  · intro x hx
    exact beq_iff_eq.mp (List.all_eq_true.mp h.1 _ (lookup_mem' hx))
noncomputable def CallC (G : GS) (A : Around) (f : Value) (vs : List V) (Q : V → Mem → Prop) (m : Mem) : Prop :=
  ∀ frz s cvs, Rp G frz m s → RVs s.heap cvs vs → codeAny (model G.prog G.w) A (.call f ⟨cvs, []⟩)
    (fun r s' => match r with
      | .ok (.ret v) => PR G frz s Q v s'
      | .ok _ => False
      | .error e => NoE e s') s
theorem CallC.toS {f : Value} {vs : List V} {Q : V → Mem → Prop} {m : Mem} (h : CallC G A f vs Q m) : CallS G A f vs Q m :=
  .of fun frz s cvs r hv => wpAny_call (h frz s cvs r hv)
theorem Rp.none_of_ge {frz : Frz} {m : Mem} {s : Shared} (r : Rp G frz m s) {a : Addr} (h : s.heap.objs.size ≤ a) : m a = none ∧ frz a = none := by
  constructor
  · cases e : m a with
    | none => rfl
    | some o => exact absurd (r.hmem _ _ e).lt (Nat.not_lt.mpr h)
  · cases e : frz a with
    | none => rfl
    | some o => exact absurd (Heap.lt_size (r.hfrz _ _ e)) (Nat.not_lt.mpr h)
theorem enter_rep {fd : FuncData} {f : Addr} {ps rest : List Str} {vs : List V} {cvs : List Value} {frz : Frz} {m : Mem} {s : Shared} {h₁ : Heap} {tk : Nat} (r : Rp G frz m s) (hv : RVs s.heap cvs vs) (hl : vs.length = ps.length) (hloc : locOk fd (ps ++ rest) = true)
    (x : InCallC s (callEnvC fd s.heap.objs.size f).locals (bindL (callEnvC fd s.heap.objs.size f).kindOf (ps.zip cvs) fun _ => none) (callEnvC fd s.heap.objs.size f).cells (bindC (callEnvC fd s.heap.objs.size f).kindOf (ps.zip cvs) fun _ => none) { s with heap := h₁, toks := tk }) :
    Rep G (fnFE fd s.heap.objs.size f (ps ++ rest)) frz ⟨vs.map some ++ List.replicate rest.length none, m⟩ { s with heap := h₁, toks := tk } ∧ TK s.heap h₁ := by
  obtain ⟨nd, hlk⟩ := locOk_of hloc
  have hkeep := x.toInCall.keep
  have tk0 : TK s.heap h₁ := .of hkeep
  have ndp := (List.nodup_append.mp nd).1
  have ge : ∀ {y : Str} {c : Addr}, (cellsFrom (s.heap.objs.size + 1) fd.scope.names []).lookup y = some c → s.heap.objs.size ≤ c := fun e => Nat.le_of_lt (x.above _ _ (mem_of_lookup e))
  have val : ∀ {i : Nat} {y : Str} {v : V}, (ps ++ rest)[i]? = some y → (vs.map some ++ List.replicate rest.length none)[i]? = some (some v) → ∃ cv, ps[i]? = some y ∧ cvs[i]? = some cv ∧ RV s.heap cv v := fun {i y v} h1 h2 => by
    by_cases hi : i < ps.length
    · rw [List.getElem?_append_left hi] at h1
      rw [List.getElem?_append_left (by rw [List.length_map]; lia), List.getElem?_map, Option.map_eq_some_iff] at h2
      obtain ⟨u, hu, e2⟩ := h2
      cases e2
      obtain ⟨cv, a, b⟩ := hv.get hu
      exact ⟨cv, h1, a, b⟩
    · rw [List.getElem?_append_right (by rw [List.length_map]; lia), List.getElem?_replicate] at h2
      split at h2 <;> cases h2
  refine ⟨⟨let ⟨_, _, e⟩ := r.same; ⟨h₁, tk, by rw [ e ]⟩, r.hbase, r.hkeep, fun b o e => hkeep b o (r.hfrz b o e), fun a o e => (r.hmem a o e).keep tk0 (hkeep a), r.hmemF, r.hsz, (r.none_of_ge (Nat.le_refl _)).2, (r.none_of_ge (Nat.le_refl _)).1, ?_, ?_, ?_⟩, tk0⟩
  · refine ⟨_, x.toInCall.ns, fun i y v hx hv' => ?_⟩
    obtain ⟨a, b⟩ := fnVars_get hx
    obtain ⟨cv, c1, c2, c3⟩ := val a hv'
    refine ⟨cv, bindL_get ndp c1 c2 ?_, c3.tk tk0⟩
    rcases (hlk y (List.mem_of_getElem? a)).1 with q | q
    · exact q
    · rw [if_pos q] at b; cases b
  · intro i y c hx
    obtain ⟨a, b⟩ := fnVars_get hx
    split at b
    · rename_i q
      cases b
      obtain ⟨c, hc⟩ := Option.isSome_iff_exists.mp (cells_some fd.scope.names (s.heap.objs.size + 1) [] q)
      rw [ hc ]
      have g := ge hc
      obtain ⟨co, g1, g2⟩ := x.cell y c hc
      refine ⟨(r.none_of_ge g).2, (r.none_of_ge g).1, co, _, g1, g2, fun v hv' => ?_⟩
      obtain ⟨cv, c1, c2, c3⟩ := val a hv'
      refine ⟨cv, bindC_get ndp c1 c2 ?_, c3.tk tk0⟩
      show ¬ fd.scope.names.lookup y = _
      rw [ q ]; decide
    · cases b
  · intro i y c hx
    have b := (fnVars_get hx).2
    split at b <;> cases b
theorem retV_rv {h : Heap} {cf : Flow} {fl : Fl} : RF h cf fl → RV h (match cf with | .ret v => v | _ => .none) (retV fl) := by
  intro a
  cases a with
  | ret q => exact q
  | next => exact .none
  | brk => exact .none
  | cont => exact .none
theorem isStmts_of {fd : FuncData} (h : isStmts fd = true) : fd.body = .stmts (bodyOf fd) := by
  obtain ⟨_, _, _, b, _, _, _, _, _, _, _, _, _, _⟩ := fd
  cases b <;> first | rfl | cases h
theorem call_fnD {f : Addr} {ds : List V} {c j : Nat} {ps rest : List Str} {names : List (Str × NameKind)} {fns meths : List String} {cells : List Str} {mine : List Sm} {P : PC} {vs : List V} {m : Mem} {Q : V → Mem → Prop}
    (gok : G.ok) (gbi : G.bi) (h : fnChkD G.K f ds ps rest (locSC ps rest names fns meths cells) mine = true) (hd : A.depth < recursionLimit) (hA : ∀ env, Rm (A.deeper env)) (hP : ∀ env, P.run G (A.deeper env))
    (hf : ∀ n, n ∈ fns → n ∈ G.fns) (hm : ∀ n, n ∈ meths → n ∈ G.meths) (hl : vs.length = j + c) (hpl : ps.length = c + ds.length) (hj : j ≤ ds.length)
    (w : wpSs P mine (fun fl σ' => Q (retV fl) σ'.mem) ⟨(vs ++ ds.drop j).map some ++ List.replicate rest.length none, m⟩) : CallC G A (.ref f) vs Q m := by
  obtain ⟨fd, hfd, h⟩ := any_inv h
  obtain ⟨o, hK, hdt⟩ := fnOf_inv hfd
  obtain ⟨h0, h⟩ := and_e h
  obtain ⟨h1, h⟩ := and_e h
  obtain ⟨h2, h⟩ := and_e h
  obtain ⟨h3, h⟩ := and_e h
  obtain ⟨h4, h⟩ := and_e h
  obtain ⟨h5, h6⟩ := and_e h
  have F := fdOk_of h0
  have nd := locOk_of h3
  intro frz s cvs r hv
  have kin : G.K.In s.heap := fun a o e => r.hfrz _ _ (r.hbase _ _ (gok.k a o e))
  have hlim : s.heap.NoLimit := gok.lim.keeps fun b o e => r.hfrz _ _ (r.hbase _ _ e)
  obtain ⟨dvs, hdv, rdv⟩ := dfltOk_of kin h1
  have hz := hv.length
  have hdz := rdv.length
  have rall := hv.append (rdv.drop j)
  refine codeAny_call_function hd (kin _ _ hK) hdt F.co F.ge (isStmts_of h5) (codeRec_of kin F.code) ?_
  refine bind_simple (c := c) (j := j) F.par hdv (List.nodup_append.mp nd.1).1 (hz.trans hl) (hdz ▸ hpl) (hdz ▸ hj) _ _ _ _ ?_
  rw [ List.isEmpty_iff.mp h4 ]
  refine wpAny_newFunctionEnv_cells F.fn ?_ fun env he s₁ x => ?_
  · intro y hy
    rcases (nd.2 y.1 (List.mem_append_left _ (List.of_mem_zip hy).1)).1 with q | q
    · exact .inl q
    · exact .inr ⟨q, cells_some _ _ _ q⟩
  · subst he
    refine ⟨hlim.keeps x.toInCall.keep, codeAny_func ?_⟩
    obtain ⟨h₁, tk, rfl, _⟩ := x.done
    obtain ⟨r0, t0⟩ := enter_rep (rest := rest) r rall (by simp only [ List.length_append, List.length_drop, hl, hpl, Nat.add_comm j c, Nat.add_assoc, Nat.add_sub_cancel' hj ]) h3 x
    have ok : (fnFE fd s.heap.objs.size f (ps ++ rest)).ok := fn_ok h3 F.fn F.glb F.bui (fun n c hm => x.above n c hm) x.apart
    exact (soundB mine _ _ ⟨gok, gbi, hA _, hP _, ok, sc_ok h2 hf hm⟩ (bodyOf fd) h6 _ _ w).then r0 fun cf fl σ₁ s₁ a1 r1 t1 w1 => ⟨retV fl, _, retV_rv a1, r1.rp, t0.trans t1, w1⟩
theorem call_fn {f : Addr} {ps rest : List Str} {names : List (Str × NameKind)} {fns meths : List String} {cells : List Str} {mine : List Sm} {P : PC} {vs : List V} {m : Mem} {Q : V → Mem → Prop}
    (gok : G.ok) (gbi : G.bi) (h : fnChk G.K f ps rest (locSC ps rest names fns meths cells) mine = true) (hd : A.depth < recursionLimit) (hA : ∀ env, Rm (A.deeper env)) (hP : ∀ env, P.run G (A.deeper env))
    (hf : ∀ n, n ∈ fns → n ∈ G.fns) (hm : ∀ n, n ∈ meths → n ∈ G.meths) (hl : vs.length = ps.length)
    (w : wpSs P mine (fun fl σ' => Q (retV fl) σ'.mem) ⟨vs.map some ++ List.replicate rest.length none, m⟩) : CallC G A (.ref f) vs Q m :=
  call_fnD (ds := []) (c := ps.length) (j := 0) gok gbi h hd hA hP hf hm (hl.trans (Nat.zero_add _).symm) rfl (Nat.le_refl _) (by rw [ show vs ++ List.drop 0 ([] : List V) = vs from List.append_nil vs ]; exact w)
end
section
variable {G : GS} {A : Around} {Γ : FE} {frz : Frz} {σ : St} {s : Shared}
theorem call_class {C fI : Addr} {Q : V → Mem → Prop} {m : Mem} (gok : G.ok) (hm : makesIn G.K C = true) (hi : findIn G.K (.ref C) "__init__" = some (some (.ref fI))) (hf : typeIn G.K (.ref fI) = some (.type "function"))
    (h : ∀ x d, m x = none → m d = none → x ≠ d → CallC G (A.under (.builtin "type.__call__" ⟨[.ref C], []⟩)) (.ref fI) [.obj x] (fun r m' => r = .none ∧ Q (.obj x) m') (upd (upd m d (.dict [])) x (.inst C d))) : CallS G A (.ref C) [] Q m := by
  intro Γ frz σ s cvs ok r hmem hv
  refine wpAny_call ?_
  cases hv
  obtain ⟨mm, nm, _⟩ := r.hns
  refine make_K (r.fr nm) (r.rest []) (r.kin gok) hm hi hf fun x d h' F' N' hlt hdx => ?_
  have N2 : News G.base Γ.env.locals h' (restOf G Γ.env.locals s.heap []) := fun p hp => N' p (List.mem_cons_of_mem _ (List.mem_cons_of_mem _ hp))
  have gx := N' _ (List.mem_cons_self)
  have gd := N' _ (List.mem_cons_of_mem _ (List.mem_cons_self))
  have keepL : ∀ b o, b ≠ Γ.env.locals → s.heap.get? b = some o → h'.get? b = some o := fun b o hb e => r.keep_of_rest F' N2 b o (by simp) hb e
  have kp : Kp Γ.env.locals s.heap h' := ⟨keepL, fun m' n' => ns_uniq nm n' ▸ F'.ns⟩
  have new : ∀ b, b ≠ Γ.env.locals → G.base.get? b = none → d ≤ b → s.heap.get? b = none := fun b hb hbase hle => by
    cases q : s.heap.get? b with
    | none => rfl
    | some o => exact absurd (hlt (b, o) (restOf_mem.mpr ⟨hb, by simp, hbase, q⟩)) (by simp; omega)
  have sd := new d gd.2.1 gd.2.2 (Nat.le_refl _)
  have sx := new x gx.2.1 gx.2.2 (Nat.le_of_lt hdx)
  have none_of : ∀ b, s.heap.get? b = none → σ.mem b = none ∧ frz b = none ∧ (∀ (i : Nat) y c, Γ.vars[i]? = some (y, .own c) → c ≠ b) := fun b hb => by
    refine ⟨?_, ?_, ?_⟩
    · cases e : σ.mem b with
      | none => rfl
      | some o => obtain ⟨y, ey, _⟩ := (r.hmem _ _ e).obj; rw [hb] at ey; cases ey
    · cases e : frz b with
      | none => rfl
      | some o => have := r.hfrz _ _ e; rw [hb] at this; cases this
    · intro i y c e q
      obtain ⟨_, _, o, _, g, _⟩ := r.hown i y c e
      rw [q, hb] at g; exact (Option.some_ne_none _ g.symm).elim
  have r1 := r.growL ok (tk := s.toks) kp
  obtain ⟨d1, d2, d3⟩ := none_of d sd
  obtain ⟨x1, x2, x3⟩ := none_of x sx
  have hne : x ≠ d := Nat.ne_of_gt hdx
  have r2 := r1.join (a := d) (o := .dict []) d1 d2 gd.2.1 d3 (.dict (n := 0) (es := []) gd.1 trivial)
  have r3 := r2.join (a := x) (o := .inst C d) (by show upd _ _ _ _ = _; rw [upn _ _ hne]; exact x1) x2 gx.2.1 x3 (.inst gx.1)
  have t1 : TK s.heap h' := r.kp_tk kp
  subst hmem
  refine codeAny_mono (h x d x1 d1 hne _ _ [.ref x] r3.inn (.cons (.obj x) .nil)) fun rr s' p => ?_
  rcases rr with e | (_ | _ | _ | v)
  · exact p.elim
  · exact p.elim
  · exact p.elim
  · exact p.elim
  · obtain ⟨v', m', a, b, c, rfl, q⟩ := p
    cases a
    exact ⟨rfl, .obj x, m', .obj x, Rep.back r3 rfl b (fun _ _ q _ e => frzIn_some.mpr ⟨q, e⟩) c, t1.trans c, q⟩
end
structure Lv (A : Around) (k : Nat) : Prop where
  hd : A.handled = none
  dp : A.depth + k < recursionLimit
  un : A.units + 4 * k + 80 < cLine
theorem Lv.deeper {A : Around} {k : Nat} (h : Lv A (k + 1)) (env : Env) : Lv (A.deeper env) k :=
  ⟨h.hd, by have := h.dp; show A.depth + 1 + k < _; lia, by have := h.un; show A.units + 3 + 4 * k + 80 < _; lia⟩
theorem Lv.rm {A : Around} {k : Nat} (h : Lv A k) : Rm A := ⟨h.hd, by have := h.un; grind⟩
theorem Lv.less {A : Around} {k j : Nat} (h : Lv A k) (e : j ≤ k) : Lv A j := ⟨h.hd, by have := h.dp; grind, by have := h.un; grind⟩
theorem Lv.room {A : Around} {k : Nat} (h : Lv A k) : A.depth < recursionLimit := by have := h.dp; grind
noncomputable def fnV (K : Frag) (n : String) : Value := match nsIn K mainGlobals (Str.ofString n) with
  | some (some f) => f
  | _ => .none
noncomputable def fnsOk (K : Frag) (fns : List String) : Bool := fns.all fun n => match nsIn K mainGlobals (Str.ofString n) with
  | some (some f) => keepIn K f
  | _ => false
noncomputable def meA (K : Frag) (C : Addr) (n : String) : Addr := match findIn K (.ref C) (Str.ofString n) with
  | some (some (.ref f)) => f
  | _ => 0
noncomputable def methsOk (K : Frag) (C : Addr) (ms : List String) : Bool := ms.all fun n => match findIn K (.ref C) (Str.ofString n) with
  | some (some (.ref f)) => isFn K (.ref f) && plainGet K C (Str.ofString n) && keepIn K (.ref f)
  | _ => false
structure Base (G : GS) (P : PC) : Prop where
  gok : G.ok
  gbi : G.bi
  pc : P.ok G
  fns : fnsOk G.K G.fns = true
  meths : methsOk G.K P.cls G.meths = true
theorem run_mk {G : GS} {A : Around} {P : PC} (b : Base G P) (hcall : ∀ n, n ∈ G.fns → ∀ vs Q m, P.call n vs Q m → CallS G A (fnV G.K n) vs Q m) (hmeth : ∀ n, n ∈ G.meths → ∀ vs Q m, P.meth n vs Q m → CallS G A (.ref (meA G.K P.cls n)) vs Q m)
    (hloc : ∀ v vs Q m, P.loc v vs Q m → ∃ a fo fd, v = .obj a ∧ m a = some (.raw fo) ∧ fo.data = .func fd ∧ CallS G A (.ref a) vs Q m) : P.run G A where
  ok := b.pc
  call := fun n hn => by
    have h := List.all_eq_true.mp b.fns n hn
    have hc := hcall n hn
    unfold fnV at hc
    split at h
    · rename_i f e
      rw [e] at hc
      exact ⟨f, e, h, hc⟩
    · cases h
  meth := fun n hn => by
    have h := List.all_eq_true.mp b.meths n hn
    have hc := hmeth n hn
    unfold meA at hc
    split at h
    · rename_i f e
      rw [e] at hc
      simp only [Bool.and_eq_true] at h
      exact ⟨f, e, h.1.1, h.1.2, h.2, hc⟩
    · cases h
  loc := hloc
noncomputable def pcOf (cls : Addr) : PC where
  cls := cls
  fld := fun n => ["Diff_Timeout", "Diff_EditCost", "Match_Threshold", "Match_Distance", "Patch_DeleteThreshold", "Patch_Margin", "Match_MaxBits"].contains n
  cc := fun n => if n = "DIFF_DELETE" then some (.int (-1)) else if n = "DIFF_INSERT" then some (.int 1) else if n = "DIFF_EQUAL" then some (.int 0) else none
  call := fun _ _ _ _ => False
  meth := fun _ _ _ _ => False
  loc := fun _ _ _ _ => False
theorem Base.swap {G : GS} {P P' : PC} (b : Base G P) (h1 : P'.cls = P.cls) (h2 : P'.fld = P.fld) (h3 : P'.cc = P.cc) : Base G P' := by
  refine ⟨b.gok, b.gbi, ⟨?_, ?_, ?_, ?_, ?_⟩, b.fns, ?_⟩
  · rw [ h1 ]; exact b.pc.hd
  · rw [ h1, h2 ]; exact b.pc.get
  · rw [ h1, h3 ]; exact b.pc.cc
  · rw [ h1 ]; exact b.pc.set
  · rw [ h1 ]; exact b.pc.over
  · rw [ h1 ]; exact b.meths
theorem run0 {G : GS} {A : Around} {cls : Addr} (b : Base G (pcOf cls)) : (pcOf cls).run G A :=
  run_mk b (fun _ _ _ _ _ h => h.elim) (fun _ _ _ _ _ h => h.elim) (fun _ _ _ _ h => h.elim)
noncomputable def vA : Value → Addr
  | .ref a => a
  | _ => 0
noncomputable def fnA (K : Frag) (n : String) : Addr := vA (fnV K n)
noncomputable def clsA (K : Frag) : Addr := fnA K "diff_match_patch"
noncomputable def toolList : List String := ["Diff_Timeout", "Diff_EditCost", "Match_Threshold", "Match_Distance", "Patch_DeleteThreshold", "Patch_Margin", "Match_MaxBits"]
noncomputable def ccOk (K : Frag) (cls : Addr) (n : String) (k : Int) : Bool := plainGet K cls (Str.ofString n) && !copiedNames.contains (Str.ofString n) &&
  match findIn K (.ref cls) (Str.ofString n) with
  | some (some (.int i t)) => i == k && specialIn K (.int i t) "__get__" == some none
  | _ => false
noncomputable def pcChk (K : Frag) (cls : Addr) : Bool :=
  hasDictIn K cls && toolList.all (fun n => plainGet K cls (Str.ofString n) && findIn K (.ref cls) (Str.ofString n) == some none && takerIn K cls (Str.ofString n) == some none) &&
  findIn K (.ref cls) "__setattr__" == some (some (.builtin "object.__setattr__")) && plainOver K cls && ccOk K cls "DIFF_DELETE" (-1) && ccOk K cls "DIFF_INSERT" 1 && ccOk K cls "DIFF_EQUAL" 0
noncomputable def noList (K : Frag) : Bool := K.all fun p => !(p.2.cls == .type "list")
noncomputable def biChk (K : Frag) : Bool := ["len", "min", "max", "sum", "range", "list", "chr", "ord"].all fun n => nsIn K mainGlobals (Str.ofString n) == some none
theorem ccOk_of {K : Frag} {cls : Addr} {n : String} {k : Int} (h : ccOk K cls n k = true) : plainGet K cls (Str.ofString n) = true ∧ copiedNames.contains (Str.ofString n) = false ∧
    ∃ a, findIn K (.ref cls) (Str.ofString n) = some (some a) ∧ specialIn K a "__get__" = some none ∧ handedIn a = true ∧ ∀ h, RV h a (.int k) := by
  unfold ccOk at h
  simp only [Bool.and_eq_true, Bool.not_eq_true'] at h
  obtain ⟨⟨h1, h2⟩, h3⟩ := h
  refine ⟨h1, h2, ?_⟩
  split at h3
  · rename_i i t e
    simp only [Bool.and_eq_true, beq_iff_eq] at h3
    obtain ⟨rfl, h3⟩ := h3
    exact ⟨_, e, h3, rfl, fun _ => .int _ _⟩
  · cases h3
theorem pc_ok {G : GS} (h : pcChk G.K (clsA G.K) = true) : (pcOf (clsA G.K)).ok G := by
  unfold pcChk at h
  simp only [Bool.and_eq_true, beq_iff_eq, List.all_eq_true] at h
  obtain ⟨⟨⟨⟨⟨⟨h1, h2⟩, h3⟩, h4⟩, h5⟩, h6⟩, h7⟩ := h
  constructor
  · exact h1
  · intro n hn
    have := h2 n (List.contains_iff_mem.mp hn)
    exact ⟨this.1.1, this.1.2, this.2⟩
  · intro n v hv
    replace hv : (if n = "DIFF_DELETE" then some (V.int (-1)) else if n = "DIFF_INSERT" then some (.int 1) else if n = "DIFF_EQUAL" then some (.int 0) else none) = some v := hv
    split at hv
    · rename_i e; subst e; cases hv; exact ccOk_of h5
    · split at hv
      · rename_i e; subst e; cases hv; exact ccOk_of h6
      · split at hv
        · rename_i e; subst e; cases hv; exact ccOk_of h7
        · cases hv
  · exact h3
  · exact h4
theorem bi_boot (b : Bi) : bootBuiltins (Str.ofString b.name) = some b.val := by
  cases b
  · show bootBuiltins "len" = some (.builtin "len"); boot_by_name
  · show bootBuiltins "min" = some (.builtin "min"); boot_by_name
  · show bootBuiltins "max" = some (.builtin "max"); boot_by_name
  · show bootBuiltins "sum" = some (.builtin "sum"); boot_by_name
  · show bootBuiltins "range" = some (.type "range"); boot_by_name
  · show bootBuiltins "list" = some (.type "list"); boot_by_name
  · show bootBuiltins "chr" = some (.builtin "chr"); boot_by_name
  · show bootBuiltins "ord" = some (.builtin "ord"); boot_by_name
noncomputable def mem0 (sc : Addr) (o : Obj) (ns : List Int) : Mem := fun a => if a = sc then some (.ro o (ns.map V.int)) else none
theorem mem0_inv {sc a : Addr} {ol : Obj} {ns : List Int} {o : O} (e : mem0 sc ol ns a = some o) : a = sc ∧ O.ro ol (ns.map V.int) = o := by
  unfold mem0 at e
  split at e
  · rename_i q; exact ⟨q, Option.some.inj e⟩
  · cases e
theorem rvs_ints {h : Heap} {vs : List Value} {ns : List Int} (r : IntsAre vs ns) : RVs h vs (ns.map V.int) := by
  induction r with
  | nil => exact .nil
  | cons n t _ ih => exact .cons (.int n t) ih
theorem hide_one {g : Heap} {sc b : Addr} {o ol : Obj} {xs : Array Value} {n : Nat} (gl : g.get? sc = some ol) (dl : ol.data = .seq xs n) (e : g.get? b = some o) (hd : ∀ xs n, o.data ≠ .seq xs n) : (hideAll g [sc]).get? b = some o :=
  hideAll_get _ e fun q => by
    obtain rfl := List.mem_singleton.mp q
    obtain rfl := Option.some.inj (gl.symm.trans e)
    exact hd _ _ dl
theorem hide_K {g : Heap} {K : Frag} {sc : Addr} {ol : Obj} (X : K.In g) (hnl : noList K = true) (gl : g.get? sc = some ol) (cl : ol.cls = .type "list") : K.In (hideAll g [sc]) := fun a o e => hideAll_get _ (X a o e) fun q => by
  obtain rfl := List.mem_singleton.mp q
  have h2 := List.all_eq_true.mp hnl _ (mem_of_lookupK e)
  obtain rfl := Option.some.inj (gl.symm.trans (X _ _ e))
  simp [cl] at h2
theorem hide_Ns {g : Heap} {sc : Addr} {ol : Obj} {xs : Array Value} {n : Nat} (gl : g.get? sc = some ol) (dl : ol.data = .seq xs n) {a : Addr} {m : Str → Option Value} (h : g.Ns a m) : (hideAll g [sc]).Ns a m := by
  obtain ⟨o, es, ep, e, d, r⟩ := h
  exact ⟨o, es, ep, hide_one gl dl e (fun xs n q => by rw [d] at q; cases q), d, r⟩
theorem bi_in (b : Bi) : b.name ∈ ["len", "min", "max", "sum", "range", "list", "chr", "ord"] := by cases b <;> decide +kernel
theorem law_top {prog : Program} {w : World} {p : Program} {loose : List Str} {mean : ExcName → Option Value} {mg mb : Str → Option Value} {K : Frag} {sc fa : Addr} {s : Shared}
    {vals : List Value} {ns : List Int} {R : Result → Shared → Prop} {fns meths : List String}
    (X : K.In (ghostOf s.heap [])) (T : Top p loose mean mg mb (ghostOf s.heap [])) (hl : s.heap.IsList sc vals.toArray) (hI : IntsAre vals ns)
    (hbi : biChk K = true) (hnl : noList K = true)
    (go : ∀ (ol : Obj) (G : GS), G.prog = prog → G.w = w → G.K = K → G.fns = fns → G.meths = meths → G.ok → G.bi → CallC G callerA (.ref fa) [.obj sc] (fun r m => r = .bool true ∧ m sc = some (.ro ol (ns.map V.int))) (mem0 sc ol ns))
    (hpost : ∀ s' : Shared, (∃ h tk, s' = { s with heap := h, toks := tk }) → (∀ b o, (ghostOf s.heap []).get? b = some o → s'.heap.get? b = some o) → R (.ok (.ret (.bool true))) s') :
    codeAny (model prog w) callerA (.call (.ref fa) ⟨[.ref sc], []⟩) R s := by
  obtain ⟨ol, gl, cl, nl, dl⟩ := ghost_list (tabs := []) (fun _ h => nomatch h) hl
  generalize hg : ghostOf s.heap [] = g at X T gl hpost
  have kg : ∀ b o, g.get? b = some o → s.heap.get? b = some o := fun b o e => of_hideAll _ (hg ▸ e)
  have hsc : (hideAll g [sc]).get? sc = none := hideAll_none _ (List.mem_singleton.mpr rfl)
  let G : GS := ⟨prog, w, s, hideAll g [sc], (hideAll g [sc]).get?, mg, mb, K, fns, meths⟩
  have gok : G.ok := ⟨hide_Ns gl dl T.g, hide_Ns gl dl T.b, let ⟨mc, a, r⟩ := T.nolimit; ⟨mc, hide_Ns gl dl a, r⟩, hide_K X hnl gl cl⟩
  have gbi : G.bi := ⟨fun b => ⟨mg_none_of X T.g (beq_iff_eq.mp (List.all_eq_true.mp hbi b.name (bi_in b))), (T.builtins _ (by cases b <;> decide +kernel)).trans (bi_boot b)⟩⟩
  have rp : Rp G (hideAll g [sc]).get? (mem0 sc ol ns) s := by
    refine ⟨⟨s.heap, s.toks, rfl⟩, fun _ _ e => e, fun _ _ e => e, fun b o e => kg _ _ (of_hideAll _ e), fun a o e => ?_, fun a o e => ?_, ?_⟩
    · obtain ⟨rfl, rfl⟩ := mem0_inv e
      exact .ro (kg _ _ gl) cl dl (rvs_ints hI)
    · obtain ⟨rfl, rfl⟩ := mem0_inv e
      exact hsc
    · show (hideAll g [sc]).objs.size ≤ _
      rw [hideAll_size, ← hg, hideAll_size]; exact Nat.le_refl _
  refine codeAny_mono (go ol G rfl rfl rfl rfl rfl gok gbi _ s [.ref sc] rp (.cons (.obj sc) .nil)) fun r s' h => ?_
  rcases r with e | (_ | _ | _ | v)
  · exact h.elim
  · exact h.elim
  · exact h.elim
  · exact h.elim
  · obtain ⟨v', m', a, r1, t1, rfl, hS⟩ := h
    cases a
    refine hpost s' r1.same fun b o e => ?_
    by_cases hb : b = sc
    · subst hb
      obtain rfl := Option.some.inj (gl.symm.trans e)
      cases r1.hmem _ _ hS with
      | ro g' _ _ _ => exact g'
    · exact r1.hfrz b o (hideAll_get _ e (fun q => hb (List.mem_singleton.mp q)))
theorem callerLv : Lv callerA 500 := ⟨rfl, by show 301 + 500 < 1000; lia, by show callerA.units + 4 * 500 + 80 < cLine; decide⟩
noncomputable def fragAt (as : List Addr) (h : Heap) : Frag := as.filterMap fun a => (h.get? a).map fun o => (a, o)
theorem fragAt_in {as : List Addr} {h : Heap} : (fragAt as h).In h := fun a o e => by
  have := mem_of_lookupK e
  unfold fragAt at this
  rw [List.mem_filterMap] at this
  obtain ⟨b, _, e⟩ := this
  rw [Option.map_eq_some_iff] at e
  obtain ⟨x, e1, e2⟩ := e
  cases e2
  exact e1
noncomputable def myHook (chk : Frag → Bool) (as ts : List Addr) : Hook where
  α := Bool × List (Option Obj)
  obs := fun s => (chk (fragAt as s.heap), ts.map s.heap.get?)
  val := fun _ => (true, ts.map fun _ => some (tabObj #[]))
  says := fun _ h => (∃ K : Frag, K.In h ∧ chk K = true) ∧ ∀ P, P ∈ ts → h.get? P = some (tabObj #[])
  of := fun _ _ x => ⟨⟨_, fragAt_in, (Prod.mk.inj x).1⟩, List.map_inj_left.mp (Prod.mk.inj x).2⟩
  keeps := fun _ _ _ x k => ⟨let ⟨K, a, b⟩ := x.1; ⟨K, fun p o e => k _ _ (a p o e), b⟩, fun P hP => k _ _ (x.2 P hP)⟩
theorem left_boot {p q : Program} {loose : List Str} {Xt : Shared → Bool} {α : Type} {Yf : Shared → α} {Ya : World → α} {N : Nat} {g0 : Bool}
    (hb : ∀ w : World, (fencedOpening treeTable p w N).map (fun s => (s.heap, s.gens, s.drawn, s.toks)) = some (boot_heap w.params, Array.mk [], boot_drawn, boot_toks))
    (h : ∀ (w : World) (os : OsState), (topFrom treeTable p w N ⟨boot_heap w.params, Array.mk [], boot_drawn, boot_toks, os⟩).map (fun s => (openSeen q loose (importedModules p.main.body) Xt g0 s, Yf s)) = some (openGood q loose, Ya w)) :
    LeftO p q loose Xt Yf Ya N g0 := fun w => by
  refine bc fun z9 => ?_
  obtain ⟨⟨h0, gs, d, k, os⟩, e, e'⟩ := Option.map_eq_some_iff.mp (hb w)
  refine z9 ?_
  cases e'
  unfold openEnds
  rw [e]
  exact h w os
section
variable {P : PC} {m : Mem} {σ : St}
theorem r_lit {v : V} {Q : V → St → Prop} : wpE P (.lit v) Q σ = Q v σ := rfl
theorem r_var {i : Nat} {Q : V → St → Prop} : wpE P (.var i) Q σ = (match σ.loc[i]? with | some (some v) => Q v σ | _ => False) := rfl
theorem r_bin {op : Operator} {a b : Ex} {Q : V → St → Prop} : wpE P (.bin op a b) Q σ = wpE P a (fun v σ₁ => wpE P b (fun u σ₂ => wpBin σ₂.mem op v u fun r m => Q r { σ₂ with mem := m }) σ₁) σ := rfl
theorem r_neg {a : Ex} {Q : V → St → Prop} : wpE P (.neg a) Q σ = wpE P a (fun v σ₁ => match v with | .int i => Q (.int (-i)) σ₁ | _ => False) σ := rfl
theorem r_not {a : Ex} {Q : V → St → Prop} : wpE P (.not a) Q σ = wpE P a (fun v σ₁ => wpTruth σ₁.mem v fun b => Q (.bool (!b)) σ₁) σ := rfl
theorem r_list {es : List Ex} {Q : V → St → Prop} : wpE P (.list es) Q σ = wpEs P es (fun vs σ₁ => ∀ a, σ₁.mem a = none → Q (.obj a) { σ₁ with mem := upd σ₁.mem a (.list vs) }) σ := rfl
theorem r_tup {es : List Ex} {Q : V → St → Prop} : wpE P (.tup es) Q σ = wpEs P es (fun vs σ₁ => Q (.tup vs) σ₁) σ := rfl
theorem r_cmp {a : Ex} {ops : List CmpOp} {es : List Ex} {Q : V → St → Prop} : wpE P (.cmp a ops es) Q σ = wpE P a (fun v σ₁ => wpCh P ops es v (fun b σ₂ => Q (.bool b) σ₂) σ₁) σ := rfl
theorem r_band {es : List Ex} {Q : V → St → Prop} : wpE P (.band es) Q σ = wpBo P true es Q σ := rfl
theorem r_bor {es : List Ex} {Q : V → St → Prop} : wpE P (.bor es) Q σ = wpBo P false es Q σ := rfl
theorem r_idx {a i : Ex} {Q : V → St → Prop} : wpE P (.idx a i) Q σ = wpE P a (fun v σ₁ => wpE P i (fun u σ₂ => wpIdx σ₂.mem v u fun r => Q r σ₂) σ₁) σ := rfl
theorem r_slc {a lo hi st : Ex} {Q : V → St → Prop} : wpE P (.slc a lo hi st) Q σ = wpE P a (fun v σ₁ => wpE P lo (fun l σ₂ => wpE P hi (fun h σ₃ => wpE P st (fun s σ₄ => wpSlc σ₄.mem v l h s fun r m => Q r { σ₄ with mem := m }) σ₃) σ₂) σ₁) σ := rfl
theorem r_attr {o : Ex} {n : String} {Q : V → St → Prop} : wpE P (.attr o n) Q σ = wpE P o (fun v σ₁ => wpAttr P σ₁.mem v n fun r => Q r σ₁) σ := rfl
theorem r_bi {b : Bi} {args : List Ex} {Q : V → St → Prop} : wpE P (.bi b args) Q σ = wpEs P args (fun vs σ₁ => wpBi σ₁.mem b vs fun r m => Q r { σ₁ with mem := m }) σ := rfl
theorem r_call {f : String} {args : List Ex} {Q : V → St → Prop} : wpE P (.call f args) Q σ = wpEs P args (fun vs σ₁ => P.call f vs (fun r m => Q r { σ₁ with mem := m }) σ₁.mem) σ := rfl
theorem r_me {o : Ex} {m : Me} {args : List Ex} {Q : V → St → Prop} : wpE P (.me o m args) Q σ = wpE P o (fun v σ₁ => meOk σ₁.mem v m ∧ wpEs P args (fun vs σ₂ => wpMe σ₂.mem v m vs fun r m' => Q r { σ₂ with mem := m' }) σ₁) σ := rfl
theorem r_imeth {o : Ex} {n : String} {args : List Ex} {Q : V → St → Prop} : wpE P (.imeth o n args) Q σ = wpE P o (fun v σ₁ => (∃ a d fs, v = .obj a ∧ σ₁.mem a = some (.inst P.cls d) ∧ σ₁.mem d = some (.dict fs) ∧ lookF n fs = none) ∧ wpEs P args (fun vs σ₂ => P.meth n (v :: vs) (fun r m => Q r { σ₂ with mem := m }) σ₂.mem) σ₁) σ := rfl
theorem r_comp {elt : Ex} {one : Bool} {is : List Nat} {it : Ex} {cs : List Ex} {n : Nat} {caps : List Nat} {Q : V → St → Prop} : wpE P (.comp elt one is it cs n caps) Q σ = wpE P it (fun v σ₁ => wpItems σ₁.mem v fun vs g => sma vs.length ∧ wpComp (bindIs one is) (wpTs P true cs) (wpE P elt) g (fun us σ' => ∀ a, σ'.mem a = none → Q (.obj a) { σ₁ with mem := upd σ'.mem a (.list us) }) vs [] (compSt σ₁ n caps)) σ := rfl
theorem r_comp2 {elt : Ex} {one : Bool} {is : List Nat} {it iti : Ex} {j n : Nat} {caps : List Nat} {Q : V → St → Prop} : wpE P (.comp2 elt one is it iti j n caps) Q σ = wpE P it (fun v σ₁ => wpItems σ₁.mem v fun vs g => sma vs.length ∧ wpComp2 (bindIs one is) (wpE P iti) (bindIs true [j]) (fun k σ => k true σ) (wpE P elt) g (fun us σ' => ∀ a, σ'.mem a = none → Q (.obj a) { σ₁ with mem := upd σ'.mem a (.list us) }) vs [] (compSt σ₁ n caps)) σ := rfl
theorem r_es0 {Q : List V → St → Prop} : wpEs P [] Q σ = Q [] σ := rfl
theorem r_es1 {e : Ex} {es : List Ex} {Q : List V → St → Prop} : wpEs P (e :: es) Q σ = wpE P e (fun v σ₁ => wpEs P es (fun vs σ₂ => Q (v :: vs) σ₂) σ₁) σ := rfl
theorem r_ch1 {op : CmpOp} {e : Ex} {v : V} {Q : Bool → St → Prop} : wpCh P [op] [e] v Q σ = wpE P e (fun u σ₁ => wpCmp σ₁.mem op v u fun b => Q b σ₁) σ := rfl
theorem r_ch2 {op op' : CmpOp} {e : Ex} {ops : List CmpOp} {es : List Ex} {v : V} {Q : Bool → St → Prop} : wpCh P (op :: op' :: ops) (e :: es) v Q σ = wpE P e (fun u σ₁ => wpCmp σ₁.mem op v u fun b => if b then wpCh P (op' :: ops) es u Q σ₁ else Q false σ₁) σ := rfl
theorem r_ite {c a b : Ex} {Q : V → St → Prop} : wpE P (.ite c a b) Q σ = wpT P c (wpE P c) (fun t σ₁ => if t then wpE P a Q σ₁ else wpE P b Q σ₁) σ := rfl
theorem r_bo1 {k : Bool} {e : Ex} {Q : V → St → Prop} : wpBo P k [e] Q σ = wpE P e Q σ := rfl
theorem r_bo2 {k : Bool} {e d : Ex} {es : List Ex} {Q : V → St → Prop} : wpBo P k (e :: d :: es) Q σ = wpE P e (fun v σ₁ => wpTruth σ₁.mem v fun b => if b = k then wpBo P k (d :: es) Q σ₁ else Q v σ₁) σ := rfl
theorem r_tnot {a : Ex} {w : (V → St → Prop) → St → Prop} {Q : Bool → St → Prop} : wpT P (.not a) w Q σ = wpT P a (wpE P a) (fun b σ₁ => Q (!b) σ₁) σ := rfl
theorem r_tband {es : List Ex} {w : (V → St → Prop) → St → Prop} {Q : Bool → St → Prop} : wpT P (.band es) w Q σ = wpTs P true es Q σ := rfl
theorem r_tbor {es : List Ex} {w : (V → St → Prop) → St → Prop} {Q : Bool → St → Prop} : wpT P (.bor es) w Q σ = wpTs P false es Q σ := rfl
theorem r_tcmp {a : Ex} {ops : List CmpOp} {es : List Ex} {w : (V → St → Prop) → St → Prop} {Q : Bool → St → Prop} : wpT P (.cmp a ops es) w Q σ = wpE P a (fun v σ₁ => wpCh P ops es v Q σ₁) σ := rfl
theorem r_tvar {i : Nat} {w : (V → St → Prop) → St → Prop} {Q : Bool → St → Prop} : wpT P (.var i) w Q σ = w (fun v σ₁ => wpTruth σ₁.mem v fun b => Q b σ₁) σ := rfl
theorem r_tcall {f : String} {args : List Ex} {w : (V → St → Prop) → St → Prop} {Q : Bool → St → Prop} : wpT P (.call f args) w Q σ = w (fun v σ₁ => wpTruth σ₁.mem v fun b => Q b σ₁) σ := rfl
theorem r_tme {o : Ex} {m : Me} {args : List Ex} {w : (V → St → Prop) → St → Prop} {Q : Bool → St → Prop} : wpT P (.me o m args) w Q σ = w (fun v σ₁ => wpTruth σ₁.mem v fun b => Q b σ₁) σ := rfl
theorem r_tidx {a i : Ex} {w : (V → St → Prop) → St → Prop} {Q : Bool → St → Prop} : wpT P (.idx a i) w Q σ = w (fun v σ₁ => wpTruth σ₁.mem v fun b => Q b σ₁) σ := rfl
theorem r_tbi {b : Bi} {args : List Ex} {w : (V → St → Prop) → St → Prop} {Q : Bool → St → Prop} : wpT P (.bi b args) w Q σ = w (fun v σ₁ => wpTruth σ₁.mem v fun b => Q b σ₁) σ := rfl
theorem r_ts0 {k : Bool} {Q : Bool → St → Prop} : wpTs P k [] Q σ = Q k σ := rfl
theorem r_ts1 {k : Bool} {e : Ex} {es : List Ex} {Q : Bool → St → Prop} : wpTs P k (e :: es) Q σ = wpT P e (wpE P e) (fun b σ₁ => if b = k then wpTs P k es Q σ₁ else Q (!k) σ₁) σ := rfl
theorem r_tgs0 {v : V} {Q : St → Prop} : wpTgs P [] v Q σ = Q σ := rfl
theorem r_tgs1 {t : Tg} {ts : List Tg} {v : V} {Q : St → Prop} : wpTgs P (t :: ts) v Q σ = wpTg P t v (fun σ₁ => wpTgs P ts v Q σ₁) σ := rfl
theorem r_sexpr {e : Ex} {Q : Fl → St → Prop} : wpS P (.expr e) Q σ = wpE P e (fun _ σ₁ => Q .next σ₁) σ := rfl
theorem r_sassign {ts : List Tg} {e : Ex} {Q : Fl → St → Prop} : wpS P (.assign ts e) Q σ = wpE P e (fun v σ₁ => wpTgs P ts v (fun σ₂ => Q .next σ₂) σ₁) σ := rfl
theorem r_saug {i : Nat} {op : Operator} {e : Ex} {Q : Fl → St → Prop} : wpS P (.aug i op e) Q σ = (match σ.loc[i]? with | some (some v) => wpE P e (fun u σ₁ => wpAug σ₁.mem op v u fun r => Q .next (σ₁.set i r)) σ | _ => False) := rfl
theorem r_sdel {o i : Ex} {Q : Fl → St → Prop} : wpS P (.del o i) Q σ = wpE P o (fun ov σ₁ => wpE P i (fun iv σ₂ => ∃ a k vs j, ov = .obj a ∧ iv = .int k ∧ tiny k ∧ σ₂.mem a = some (.list vs) ∧ pyIx vs.length k = some j ∧ sma vs.length ∧ Q .next { σ₂ with mem := upd σ₂.mem a (.list (vs.eraseIdx j)) }) σ₁) σ := rfl
theorem r_sife {c : Ex} {a b : List Sm} {Q : Fl → St → Prop} : wpS P (.ife c a b) Q σ = wpT P c (wpE P c) (fun t σ₁ => if t then wpSs P a Q σ₁ else wpSs P b Q σ₁) σ := rfl
theorem r_swhl {c : Ex} {b : List Sm} {Q : Fl → St → Prop} : wpS P (.whl c b) Q σ = wpWhile (wpT P c (wpE P c)) (wpSs P b) Q σ := rfl
theorem r_sfr {t : Tg} {it : Ex} {b : List Sm} {Q : Fl → St → Prop} : wpS P (.fr t it b) Q σ = wpE P it (fun v σ₁ => wpItems σ₁.mem v fun vs g => wpLoop (wpTg P t) (wpSs P b) g Q vs σ₁) σ := rfl
theorem r_sret {e : Ex} {Q : Fl → St → Prop} : wpS P (.ret e) Q σ = wpE P e (fun v σ₁ => Q (.ret v) σ₁) σ := rfl
theorem r_ss0 {Q : Fl → St → Prop} : wpSs P [] Q σ = Q .next σ := rfl
theorem r_ss1 {s : Sm} {ss : List Sm} {Q : Fl → St → Prop} : wpSs P (s :: ss) Q σ = wpS P s (fun fl σ₁ => match fl with | .next => wpSs P ss Q σ₁ | .brk => Q .brk σ₁ | .cont => Q .cont σ₁ | .ret r => Q (.ret r) σ₁) σ := rfl
theorem bin_add {a b : Int} {Q : V → Mem → Prop} : wpBin m .Add (.int a) (.int b) Q = Q (.int (a + b)) m := rfl
theorem bin_sub {a b : Int} {Q : V → Mem → Prop} : wpBin m .Sub (.int a) (.int b) Q = Q (.int (a - b)) m := rfl
theorem bin_mul {a b : Int} {Q : V → Mem → Prop} : wpBin m .Mult (.int a) (.int b) Q = (tiny a ∧ Q (.int (a * b)) m) := rfl
theorem bin_div {a b : Int} {Q : V → Mem → Prop} : wpBin m .FloorDiv (.int a) (.int b) Q = (0 < b ∧ tiny b ∧ Q (.int (a / b)) m) := rfl
theorem bin_mod {a b : Int} {Q : V → Mem → Prop} : wpBin m .Mod (.int a) (.int b) Q = (0 < b ∧ Q (.int (a % b)) m) := rfl
theorem bin_cat {a b : Tx} {Q : V → Mem → Prop} : wpBin m .Add (.str a) (.str b) Q = (sma a.length ∧ sma b.length ∧ Q (.str (a ++ b)) m) := rfl
theorem bin_rep {a : Addr} {k : Int} {Q : V → Mem → Prop} : wpBin m .Mult (.obj a) (.int k) Q = (∃ x, m a = some (.list [x]) ∧ tiny k ∧ sma k.toNat ∧ ∀ c, m c = none → Q (.obj c) (upd m c (.list (List.replicate k.toNat x)))) := rfl
theorem cmp_eqi {a b : Int} {Q : Bool → Prop} : wpCmp m .Eq (.int a) (.int b) Q = Q (decide (a = b)) := rfl
theorem cmp_eqs {a b : Tx} {Q : Bool → Prop} : wpCmp m .Eq (.str a) (.str b) Q = Q (decide (a = b)) := rfl
theorem cmp_nei {a b : Int} {Q : Bool → Prop} : wpCmp m .NotEq (.int a) (.int b) Q = Q (!decide (a = b)) := rfl
theorem cmp_nes {a b : Tx} {Q : Bool → Prop} : wpCmp m .NotEq (.str a) (.str b) Q = Q (!decide (a = b)) := rfl
theorem cmp_lt {a b : Int} {Q : Bool → Prop} : wpCmp m .Lt (.int a) (.int b) Q = Q (decide (a < b)) := rfl
theorem cmp_le {a b : Int} {Q : Bool → Prop} : wpCmp m .LtE (.int a) (.int b) Q = Q (decide (a ≤ b)) := rfl
theorem cmp_gt {a b : Int} {Q : Bool → Prop} : wpCmp m .Gt (.int a) (.int b) Q = Q (decide (b < a)) := rfl
theorem cmp_ge {a b : Int} {Q : Bool → Prop} : wpCmp m .GtE (.int a) (.int b) Q = Q (decide (b ≤ a)) := rfl
theorem cmp_isn {Q : Bool → Prop} : wpCmp m .Is .none .none Q = Q true := rfl
theorem cmp_ist {vs : List V} {Q : Bool → Prop} : wpCmp m .Is (.tup vs) .none Q = Q false := rfl
theorem cmp_notn {Q : Bool → Prop} : wpCmp m .IsNot .none .none Q = Q false := rfl
theorem cmp_nott {vs : List V} {Q : Bool → Prop} : wpCmp m .IsNot (.tup vs) .none Q = Q true := rfl
theorem cmp_eqo {a b : Addr} {Q : Bool → Prop} : wpCmp m .Eq (.obj a) (.obj b) Q = ∃ d e, rd 8 m (.obj a) = some d ∧ rd 8 m (.obj b) = some e ∧ Q (PyData.eqv d e) := rfl
theorem cmp_neo {a b : Addr} {Q : Bool → Prop} : wpCmp m .NotEq (.obj a) (.obj b) Q = ∃ d e, rd 8 m (.obj a) = some d ∧ rd 8 m (.obj b) = some e ∧ Q (!PyData.eqv d e) := rfl
theorem tr_none {Q : Bool → Prop} : wpTruth m .none Q = Q false := rfl
theorem tr_bool {b : Bool} {Q : Bool → Prop} : wpTruth m (.bool b) Q = Q b := rfl
theorem tr_int {i : Int} {Q : Bool → Prop} : wpTruth m (.int i) Q = Q (i != 0) := rfl
theorem tr_str {x : Tx} {Q : Bool → Prop} : wpTruth m (.str x) Q = (sma x.length ∧ Q (!x.isEmpty)) := rfl
theorem tr_tup {vs : List V} {Q : Bool → Prop} : wpTruth m (.tup vs) Q = (sma vs.length ∧ Q (!vs.isEmpty)) := rfl
theorem ix_str {x : Tx} {i : Int} {Q : V → Prop} : wpIdx m (.str x) (.int i) Q = (tiny i ∧ ∃ c, pyGet x i = some c ∧ Q (.str [c])) := rfl
theorem ix_tup {vs : List V} {i : Int} {Q : V → Prop} : wpIdx m (.tup vs) (.int i) Q = (tiny i ∧ ∃ v, pyGet vs i = some v ∧ Q v) := rfl
theorem ix_lst {a : Addr} {i : Int} {Q : V → Prop} : wpIdx m (.obj a) (.int i) Q = (tiny i ∧ ∃ vs v, m a = some (.list vs) ∧ pyGet vs i = some v ∧ Q v) := rfl
theorem sl_ii {x : Tx} {a b : Int} {Q : V → Mem → Prop} : wpSlc m (.str x) (.int a) (.int b) .none Q = (sma x.length ∧ Q (.str (pySl x (some a) (some b))) m) := rfl
theorem sl_in {x : Tx} {a : Int} {Q : V → Mem → Prop} : wpSlc m (.str x) (.int a) .none .none Q = (sma x.length ∧ Q (.str (pySl x (some a) none)) m) := rfl
theorem sl_ni {x : Tx} {b : Int} {Q : V → Mem → Prop} : wpSlc m (.str x) .none (.int b) .none Q = (sma x.length ∧ Q (.str (pySl x none (some b))) m) := rfl
theorem sl_lni {l : Addr} {b : Int} {Q : V → Mem → Prop} : wpSlc m (.obj l) .none (.int b) .none Q = (∃ vs, (m l = some (.list vs) ∨ ∃ o, m l = some (.ro o vs)) ∧ sma vs.length ∧ ∀ c, m c = none → Q (.obj c) (upd m c (.list (pySl vs none (some b))))) := rfl
theorem bi_lens {x : Tx} {Q : V → Mem → Prop} : wpBi m .len [.str x] Q = (sma x.length ∧ Q (.int x.length) m) := rfl
theorem bi_lent {vs : List V} {Q : V → Mem → Prop} : wpBi m .len [.tup vs] Q = (sma vs.length ∧ Q (.int vs.length) m) := rfl
theorem bi_leno {a : Addr} {Q : V → Mem → Prop} : wpBi m .len [.obj a] Q = (∃ vs, (m a = some (.list vs) ∨ ∃ o, m a = some (.ro o vs)) ∧ sma vs.length ∧ Q (.int vs.length) m) := rfl
theorem bi_min {a b : Int} {Q : V → Mem → Prop} : wpBi m .min [.int a, .int b] Q = Q (.int (if b < a then b else a)) m := rfl
theorem bi_max {a b : Int} {Q : V → Mem → Prop} : wpBi m .max [.int a, .int b] Q = Q (.int (if a < b then b else a)) m := rfl
theorem bi_maxl {a : Addr} {Q : V → Mem → Prop} : wpBi m .max [.obj a] Q = (∃ ns : List Int, m a = some (.list (ns.map V.int)) ∧ 0 < ns.length ∧ ∀ M : Int, M ∈ ns → (∀ a, a ∈ ns → a ≤ M) → Q (.int M) m) := rfl
theorem bi_rng {a : Int} {Q : V → Mem → Prop} : wpBi m .range [.int a] Q = (tiny a ∧ Q (.rng 0 a 1) m) := rfl
theorem bi_min3 {a b c : Int} {Q : V → Mem → Prop} : wpBi m .min [.int a, .int b, .int c] Q = Q (.int (min (min a b) c)) m := rfl
theorem bi_chr {i : Int} {Q : V → Mem → Prop} : wpBi m .chr [.int i] Q = ∃ c : Char, i = c.toNat ∧ Q (.str [c]) m := rfl
theorem bi_ord {x : Tx} {Q : V → Mem → Prop} : wpBi m .ord [.str x] Q = ∃ c, x = [c] ∧ Q (.int c.toNat) m := rfl
theorem bi_lst {n : Int} {Q : V → Mem → Prop} : wpBi m .list [.rng 0 n 1] Q = ∃ k : Nat, (0 : Int) = 0 ∧ n = k ∧ (1 : Int) = 1 ∧ sma k ∧ ∀ c, m c = none → Q (.obj c) (upd m c (.list ((List.range' 0 k).map fun j : Nat => V.int j))) := rfl
theorem bi_rng2 {a b : Int} {Q : V → Mem → Prop} : wpBi m .range [.int a, .int b] Q = (tiny a ∧ tiny b ∧ Q (.rng a b 1) m) := rfl
theorem bi_lstt {vs : List V} {Q : V → Mem → Prop} : wpBi m .list [.tup vs] Q = (sma vs.length ∧ ∀ c, m c = none → Q (.obj c) (upd m c (.list vs))) := rfl
theorem me_find {x t : Tx} {Q : V → Mem → Prop} : wpMe m (.str x) .find [.str t] Q = (sma x.length ∧ sma t.length ∧ ∀ r, FindIs x t 0 r → Q (.int r) m) := rfl
theorem me_find2 {x t : Tx} {i : Int} {Q : V → Mem → Prop} : wpMe m (.str x) .find [.str t, .int i] Q = (sma x.length ∧ sma t.length ∧ 0 ≤ i ∧ ∀ r, FindIs x t i.toNat r → Q (.int r) m) := rfl
theorem me_app {a : Addr} {v : V} {Q : V → Mem → Prop} : wpMe m (.obj a) .append [v] Q = (∃ vs, m a = some (.list vs) ∧ sma vs.length ∧ Q .none (upd m a (.list (vs ++ [v])))) := rfl
theorem ok_find {x : Tx} : meOk m (.str x) .find = True := rfl
theorem ok_app {a : Addr} : meOk m (.obj a) .append = ∃ l, m a = some (.list l) := rfl
theorem aug_addi {a b : Int} {Q : V → Prop} : wpAug m .Add (.int a) (.int b) Q = Q (.int (a + b)) := rfl
theorem aug_adds {a b : Tx} {Q : V → Prop} : wpAug m .Add (.str a) (.str b) Q = (sma a.length ∧ sma b.length ∧ Q (.str (a ++ b))) := rfl
theorem aug_subi {a b : Int} {Q : V → Prop} : wpAug m .Sub (.int a) (.int b) Q = Q (.int (a - b)) := rfl
theorem tg_idx {o i : Ex} {v : V} {Q : St → Prop} : wpTg P (.idx o i) v Q σ = wpE P o (fun ov σ₁ => wpE P i (fun iv σ₂ => ∃ a k vs j, ov = .obj a ∧ iv = .int k ∧ tiny k ∧ σ₂.mem a = some (.list vs) ∧ pyIx vs.length k = some j ∧ Q { σ₂ with mem := upd σ₂.mem a (.list (vs.set j v)) }) σ₁) σ := rfl
theorem tg_slc {o lo hi : Ex} {v : V} {Q : St → Prop} : wpTg P (.slc o lo hi) v Q σ = wpE P o (fun ov σ₁ => wpE P lo (fun l σ₂ => wpE P hi (fun h σ₃ => ∃ a b ia ib xs ys, ov = .obj a ∧ v = .obj b ∧ slPart l = some ia ∧ slPart h = some ib ∧ a ≠ b ∧
      σ₃.mem a = some (.list xs) ∧ σ₃.mem b = some (.list ys) ∧ sma xs.length ∧ sma ys.length ∧
      Q { σ₃ with mem := upd σ₃.mem a (.list (xs.take (slLo xs.length ia) ++ ys ++ xs.drop (max (slLo xs.length ia) (slHi xs.length ib)))) }) σ₂) σ₁) σ := rfl
theorem tg_tup {is : List Nat} {vs : List V} {Q : St → Prop} : wpTg P (.tup is) (.tup vs) Q σ = (vs.length = is.length ∧ Q (σ.setAll is vs)) := rfl
theorem tg_var {i : Nat} {v : V} {Q : St → Prop} : wpTg P (.var i) v Q σ = Q (σ.set i v) := rfl
theorem it_str {x : Tx} {K : List V → (Mem → Prop) → Prop} : wpItems m (.str x) K = (sma x.length ∧ K (x.map fun c => .str [c]) fun _ => True) := rfl
theorem it_rng {a b c : Int} {K : List V → (Mem → Prop) → Prop} : wpItems m (.rng a b c) K = (tiny a ∧ tiny b ∧ tiny c ∧ 0 < c ∧ K (rngL a b c) fun _ => True) := rfl
theorem it_lst {a : Addr} {K : List V → (Mem → Prop) → Prop} : wpItems m (.obj a) K = (∃ vs, m a = some (.list vs) ∧ sma vs.length ∧ K vs fun m' => m' a = some (.list vs)) := rfl
theorem neg_int {i : Int} {Q : V → St → Prop} : (match V.int i with | .int i => Q (.int (-i)) σ | _ => False) = Q (.int (-i)) σ := rfl
theorem me_ins {a : Addr} {k : Int} {v : V} {Q : V → Mem → Prop} : wpMe m (.obj a) .insert [.int k, v] Q = (0 ≤ k ∧ tiny k ∧ ∃ vs, m a = some (.list vs) ∧ sma vs.length ∧ Q .none (upd m a (.list (vs.take k.toNat ++ v :: vs.drop k.toNat)))) := rfl
theorem me_pop {a : Addr} {Q : V → Mem → Prop} : wpMe m (.obj a) .pop [] Q = ([] = ([] : List V) ∧ ∃ vs v, m a = some (.list (vs ++ [v])) ∧ sma vs.length ∧ Q v (upd m a (.list vs))) := rfl
theorem me_join {a : Addr} {Q : V → Mem → Prop} : wpMe m (.str []) .join [.obj a] Q = (([] : Tx) = [] ∧ ∃ xs : List Tx, m a = some (.list (xs.map V.str)) ∧ xs.length ≤ 500000 ∧ xs.flatten.length ≤ 500000 ∧ Q (.str xs.flatten) m) := rfl
theorem me_ends {x y : Tx} {Q : V → Mem → Prop} : wpMe m (.str x) .endswith [.str y] Q = Q (.bool (decide (y.length ≤ x.length ∧ x.drop (x.length - y.length) = y))) m := rfl
theorem me_starts {x y : Tx} {Q : V → Mem → Prop} : wpMe m (.str x) .startswith [.str y] Q = Q (.bool (decide (x.take y.length = y))) m := rfl
theorem ok_ins {a : Addr} : meOk m (.obj a) .insert = ∃ l, m a = some (.list l) := rfl
theorem ok_pop {a : Addr} : meOk m (.obj a) .pop = ∃ l, m a = some (.list l) := rfl
theorem ok_join {x : Tx} : meOk m (.str x) .join = True := rfl
theorem ok_ends {x : Tx} : meOk m (.str x) .endswith = True := rfl
theorem ok_starts {x : Tx} : meOk m (.str x) .startswith = True := rfl
theorem ssx {s : Sm} {ss : List Sm} {Q : Fl → St → Prop} (h : ∀ Q' : Fl → St → Prop, (∀ σ', wpSs P ss Q σ' → Q' .next σ') → wpS P s Q' σ) : wpSs P (s :: ss) Q σ := h _ fun _ q => q
theorem ss_ret {s : Sm} {ss : List Sm} {Q : Fl → St → Prop} (h : ∀ Q' : Fl → St → Prop, (∀ σ', wpSs P ss Q σ' → Q' .next σ') → (∀ v σ', Q (.ret v) σ' → Q' (.ret v) σ') → wpS P s Q' σ) : wpSs P (s :: ss) Q σ := h _ (fun _ q => q) fun _ _ q => q
theorem ss_nil {Q : Fl → St → Prop} (h : Q .next σ) : wpSs P [] Q σ := h
theorem s_ife {c : Ex} {a b : List Sm} {Q : Fl → St → Prop} (h : ∀ K : Bool → St → Prop, (∀ σ', wpSs P a Q σ' → K true σ') → (∀ σ', wpSs P b Q σ' → K false σ') → wpT P c (wpE P c) K σ) : wpS P (.ife c a b) Q σ :=
  h _ (fun _ q => q) fun _ q => q
theorem if_yes {p : Prop} [Decidable p] {X Y : Prop} (hp : p) (x : X) : if decide p = true then X else Y := by rw [if_pos (decide_eq_true hp)]; exact x
theorem if_no {p : Prop} [Decidable p] {X Y : Prop} (hp : ¬ p) (y : Y) : if decide p = true then X else Y := by rw [if_neg (by simpa using hp)]; exact y
theorem if_not_yes {p : Prop} [Decidable p] {X Y : Prop} (hp : p) (y : Y) : if (!decide p) = true then X else Y := by rw [if_neg (by simpa using hp)]; exact y
theorem if_not_no {p : Prop} [Decidable p] {X Y : Prop} (hp : ¬ p) (x : X) : if (!decide p) = true then X else Y := by rw [if_pos (by simpa using hp)]; exact x
end
theorem tiny_n {k : Nat} (h : k ≤ 1000000) : tiny (k : Int) := ⟨Int.lt_of_lt_of_le (by decide) (Int.natCast_nonneg k), Int.lt_of_le_of_lt (Int.ofNat_le.mpr h) (by decide)⟩
end Mine.Internal
local macro_rules
  | `(tactic| walk_at $s) => do
    let t := s.getString
    if t == "t" then return ← `(tactic| first | (unfold Mine.Internal.tiny; decide) | exact Mine.Internal.tiny_n (by lia) | (unfold Mine.Internal.tiny; first | lia | grind))
    if t != "D" && t != "E" then Lean.Macro.throwUnsupported
    let l := ("r_lit r_var r_bin r_neg r_not r_list r_tup r_cmp r_band r_bor r_idx r_slc r_attr r_bi r_call r_me r_imeth r_ite r_ch2 r_es0 r_es1 r_ch1 r_bo1 r_bo2 r_tnot r_tband r_tbor r_tcmp r_tvar r_tcall r_tme r_tidx r_tbi r_ts0 r_ts1 r_tgs0 r_tgs1 r_sexpr r_sassign r_saug r_sdel r_sife r_swhl r_sfr r_sret r_ss0 r_ss1 tg_var tg_tup tg_idx tg_slc bin_add bin_sub bin_mul bin_div bin_mod bin_cat cmp_eqi cmp_eqs cmp_nei cmp_nes cmp_lt cmp_le cmp_gt cmp_ge cmp_isn cmp_ist cmp_notn cmp_nott tr_none tr_bool tr_int tr_str tr_tup ix_str ix_tup sl_ii sl_in sl_ni bi_lens bi_lent bi_min bi_max bi_rng bi_rng2 me_find me_find2 ok_find me_app ok_app me_ins me_pop me_join me_ends me_starts ok_ins ok_pop ok_join ok_ends ok_starts it_str it_rng neg_int aug_addi aug_adds aug_subi St.set St.setAll List.map_cons List.map_nil List.replicate List.cons_append List.nil_append List.getElem?_cons_succ List.getElem?_cons_zero List.set_cons_succ List.set_cons_zero List.length_cons List.length_nil dreduceIte retV" ++ (if t == "D" then " r_comp r_comp2" else "")).splitOn " "
    let l : Lean.Syntax.TSepArray `Lean.Parser.Tactic.simpLemma "," := .ofElems (l.toArray.map fun s => ⟨.node .none `Lean.Parser.Tactic.simpLemma #[Lean.mkNullNode, Lean.mkNullNode, Lean.mkIdent s.toName]⟩)
    `(tactic| dsimp only [$l,*])

namespace Mine.Internal
noncomputable def lcp : Tx → Tx → Nat
  | a :: as, b :: bs => if a = b then lcp as bs + 1 else 0
  | _, _ => 0
theorem lcp_le : ∀ (a b : Tx), lcp a b ≤ a.length ∧ lcp a b ≤ b.length
  | [], _ => by simp [lcp]
  | _ :: _, [] => by simp [lcp]
  | a :: as, b :: bs => by
    unfold lcp
    have := lcp_le as bs
    split <;> simp <;> omega
theorem lcp_iff : ∀ (k : Nat) (a b : Tx), k ≤ a.length → k ≤ b.length → (k ≤ lcp a b ↔ a.take k = b.take k)
  | 0, _, _, _, _ => by simp
  | k + 1, [], _, h, _ => by simp at h
  | k + 1, _ :: _, [], _, h => by simp at h
  | k + 1, a :: as, b :: bs, h1, h2 => by
    unfold lcp
    have ih := lcp_iff k as bs (by simpa using h1) (by simpa using h2)
    by_cases e : a = b
    · subst e; simp [ih]
    · simp [e]
noncomputable def lcs (a b : Tx) : Nat := lcp a.reverse b.reverse
theorem lcs_le (a b : Tx) : lcs a b ≤ a.length ∧ lcs a b ≤ b.length := by
  have := lcp_le a.reverse b.reverse
  simpa [lcs] using this
abbrev Part := Int × Tx
abbrev Row := List Part
noncomputable def cnt (k : Int) (r : Row) : Nat := (r.filter fun p => decide (p.1 = k)).length
noncomputable def cat (k : Int) (r : Row) : Tx := ((r.filter fun p => decide (p.1 = k)).map (·.2)).flatten
noncomputable def phi (r : Row) : Nat := (r.map fun p => p.2.length + 1).sum
noncomputable def addLast : Row → Tx → Row
  | [], x => [(0, x)]
  | [(k, u)], x => [(k, u ++ x)]
  | a :: b :: r, x => a :: addLast (b :: r) x
theorem addLast_cat (dn : Row) (k : Int) (u x : Tx) : addLast (dn ++ [(k, u)]) x = dn ++ [(k, u ++ x)] := by
  induction dn with
  | nil => rfl
  | cons a dn ih =>
    cases dn with
    | nil => rfl
    | cons b dn => exact congrArg (a :: ·) ih
theorem phi_nil : phi [] = 0 := rfl
theorem phi_cons (p : Part) (r : Row) : phi (p :: r) = p.2.length + 1 + phi r := by rfl
theorem pha (a b : Row) : phi (a ++ b) = phi a + phi b := by simp [phi]
theorem llp (r : Row) : r.length ≤ phi r := by
  induction r with
  | nil => simp [phi]
  | cons p r ih => rw [phi_cons]; simp; grind
theorem txt_le_phi {r : Row} {p : Part} (h : p ∈ r) : p.2.length < phi r := by
  induction r with
  | nil => cases h
  | cons q r ih =>
    rw [phi_cons]
    rcases List.mem_cons.mp h with rfl | h
    · grind
    · have := ih h; grind
theorem cat_append (k : Int) (a b : Row) : cat k (a ++ b) = cat k a ++ cat k b := by simp [cat]
theorem cnt_append (k : Int) (a b : Row) : cnt k (a ++ b) = cnt k a + cnt k b := by simp [cnt]
theorem cat_one (k : Int) (p : Part) : cat k [p] = if p.1 = k then p.2 else [] := by
  unfold cat; by_cases h : p.1 = k <;> simp [h]
theorem cnt_one (k : Int) (p : Part) : cnt k [p] = if p.1 = k then 1 else 0 := by
  unfold cnt; by_cases h : p.1 = k <;> simp [h]
theorem cat_cons (k : Int) (p : Part) (r : Row) : cat k (p :: r) = (if p.1 = k then p.2 else []) ++ cat k r := by
  rw [← cat_one, ← cat_append]; rfl
theorem cnt_cons (k : Int) (p : Part) (r : Row) : cnt k (p :: r) = (if p.1 = k then 1 else 0) + cnt k r := by
  rw [← cnt_one, ← cnt_append]; rfl
noncomputable def Run (r : Row) : Prop := ∀ p ∈ r, p.1 = -1 ∨ p.1 = 1
theorem run_cnt {r : Row} (h : Run r) : cnt (-1) r + cnt 1 r = r.length := by
  induction r with
  | nil => rfl
  | cons p r ih =>
    have := ih fun q hq => h q (List.mem_cons_of_mem _ hq)
    simp only [ cnt_cons, cnt_cons, List.length_cons ]
    rcases h p (List.mem_cons_self) with e | e <;> rw [e] <;> simp <;> grind
theorem cat_phi (r : Row) : (cat (-1) r).length + (cat 1 r).length + r.length ≤ phi r := by
  induction r with
  | nil => trivial
  | cons p r ih =>
    rw [cat_cons, cat_cons, phi_cons]
    simp only [List.length_append, List.length_cons]
    by_cases h1 : p.1 = -1
    · rw [if_pos h1, if_neg (by lia)]; simp; lia
    · rw [if_neg h1]
      by_cases h2 : p.1 = 1
      · rw [if_pos h2]; simp; lia
      · rw [if_neg h2]; simp; grind
structure Trim where
  done : Row
  td : Tx
  ti : Tx
  t : Tx
noncomputable def trimA (q : Trim) : Trim := if lcp q.ti q.td = 0 then q else ⟨addLast q.done (q.ti.take (lcp q.ti q.td)), q.td.drop (lcp q.ti q.td), q.ti.drop (lcp q.ti q.td), q.t⟩
noncomputable def trimB (q : Trim) : Trim := if lcs q.ti q.td = 0 then q else ⟨q.done, q.td.take (q.td.length - lcs q.ti q.td), q.ti.take (q.ti.length - lcs q.ti q.td), q.ti.drop (q.ti.length - lcs q.ti q.td) ++ q.t⟩
noncomputable def trim (q : Trim) : Trim := trimB (trimA q)
noncomputable def ops (td ti : Tx) : Row := (if td = [] then [] else [(-1, td)]) ++ (if ti = [] then [] else [(1, ti)])
noncomputable def trimR (done run : Row) (t : Tx) : Trim :=
  if cnt (-1) run ≠ 0 ∧ cnt 1 run ≠ 0 then trim ⟨done, cat (-1) run, cat 1 run, t⟩ else ⟨done, cat (-1) run, cat 1 run, t⟩
noncomputable def endR (q : Trim) : Row := q.done ++ ops q.td q.ti ++ [(0, q.t)]
noncomputable def eqStep (done run : Row) (t : Tx) : Row :=
  if 1 < run.length then endR (trimR done run t)
  else if run = [] ∧ done ≠ [] then addLast done t else done ++ run ++ [(0, t)]
noncomputable def mergeGo : Row → Row → Row → Row
  | done, run, [] => done ++ run
  | done, run, (k, t) :: r => if k = 0 then mergeGo (eqStep done run t) [] r else mergeGo done (run ++ [(k, t)]) r
noncomputable def merge (r : Row) : Row := mergeGo [] [] (r ++ [(0, [])])
noncomputable def popE : Row → Row
  | [] => []
  | [p] => if p.2 = [] then [] else [p]
  | p :: q :: r => p :: popE (q :: r)
theorem popE_cat (dn : Row) (p : Part) : popE (dn ++ [p]) = if p.2 = [] then dn else dn ++ [p] := by
  induction dn with
  | nil => rfl
  | cons a dn ih =>
    cases dn with
    | nil => show a :: popE [p] = _; rw [popE]; split <;> rfl
    | cons b dn =>
      show a :: popE (b :: dn ++ [p]) = _
      rw [ih]; split <;> rfl
noncomputable def sgo : Part → Row → Row × Bool
  | a, b :: c :: C =>
    if a.1 = 0 ∧ c.1 = 0 then
      if a.2.length ≤ b.2.length ∧ b.2.drop (b.2.length - a.2.length) = a.2 then ((b.1, a.2 ++ b.2.take (b.2.length - a.2.length)) :: (sgo (c.1, a.2 ++ c.2) C).1, true)
      else if b.2.take c.2.length = c.2 then ((a.1, a.2 ++ c.2) :: (sgo (b.1, b.2.drop c.2.length ++ c.2) C).1, true)
      else (a :: (sgo b (c :: C)).1, (sgo b (c :: C)).2)
    else (a :: (sgo b (c :: C)).1, (sgo b (c :: C)).2)
  | a, [b] => ([a, b], false)
  | a, [] => ([a], false)
noncomputable def slide : Row → Row × Bool
  | [] => ([], false)
  | a :: r => sgo a r
noncomputable def cleanN : Nat → Row → Row
  | 0, r => r
  | n + 1, r => if (slide (popE (merge r))).2 then cleanN n (slide (popE (merge r))).1 else (slide (popE (merge r))).1
noncomputable def Dn (done : Row) : Prop := done = [] ∨ ∃ dn u, done = dn ++ [((0 : Int), u)]
theorem addLast_dn {done : Row} (h : Dn done) (x : Tx) : ∃ dn u, addLast done x = dn ++ [((0 : Int), u)] := by
  rcases h with rfl | ⟨dn, u, rfl⟩
  · exact ⟨[], x, rfl⟩
  · exact ⟨dn, u ++ x, addLast_cat _ _ _ _⟩
theorem eqStep_dn {done run : Row} (h : Dn done) (t : Tx) : ∃ dn u, eqStep done run t = dn ++ [((0 : Int), u)] := by
  unfold eqStep
  split
  · exact ⟨_, _, rfl⟩
  · split
    · exact addLast_dn h t
    · exact ⟨_, _, rfl⟩
theorem phi_addLast {done : Row} (h : Dn done) (x : Tx) : phi (addLast done x) ≤ phi done + x.length + (if done = [] then 1 else 0) := by
  rcases h with rfl | ⟨dn, u, rfl⟩
  · simp [addLast, phi]
  · rw [addLast_cat, pha, pha]; simp [phi]; grind
theorem phi_ops (td ti : Tx) : phi (ops td ti) ≤ td.length + ti.length + 2 := by
  unfold ops
  rw [pha]
  split <;> split <;> simp [phi] <;> grind
noncomputable def tw (q : Trim) : Nat := phi q.done + q.td.length + q.ti.length + q.t.length
theorem trimA_w (q : Trim) (h : Dn q.done) : tw (trimA q) ≤ tw q ∧ Dn (trimA q).done := by
  unfold trimA
  split
  · exact ⟨Nat.le_refl _, h⟩
  · rename_i hp
    have l := lcp_le q.ti q.td
    have w := phi_addLast h (q.ti.take (lcp q.ti q.td))
    refine ⟨?_, .inr (addLast_dn h _)⟩
    unfold tw
    dsimp only
    rw [List.length_take] at w
    rw [ List.length_drop, List.length_drop ]
    split at w <;> grind
theorem trimB_w (q : Trim) : tw (trimB q) ≤ tw q ∧ (trimB q).done = q.done := by
  unfold trimB
  split
  · exact ⟨Nat.le_refl _, rfl⟩
  · have l := lcs_le q.ti q.td
    refine ⟨?_, rfl⟩
    unfold tw
    dsimp only
    rw [ List.length_append, List.length_drop, List.length_take, List.length_take, Nat.min_eq_left (Nat.sub_le _ _), Nat.min_eq_left (Nat.sub_le _ _) ]
    generalize lcs q.ti q.td = k at *
    generalize q.ti.length = i at *
    generalize q.td.length = j at *
    rw [ Nat.sub_sub_self (by first | exact l.1 | exact l.2) ]
    obtain ⟨u, rfl⟩ : ∃ u, i = k + u := ⟨i - k, by lia⟩
    obtain ⟨v, rfl⟩ : ∃ v, j = k + v := ⟨j - k, by lia⟩
    rw [Nat.add_sub_cancel_left, Nat.add_sub_cancel_left]
    clear l
    lia
theorem trim_w (q : Trim) (h : Dn q.done) : tw (trim q) ≤ tw q ∧ Dn (trim q).done := by
  obtain ⟨a, b⟩ := trimA_w q h
  obtain ⟨c, d⟩ := trimB_w (trimA q)
  exact ⟨Nat.le_trans c a, by unfold trim; rw [d]; exact b⟩
theorem phi_endR (q : Trim) : phi (endR q) ≤ tw q + 3 := by
  unfold endR tw
  rw [pha, pha]
  have := phi_ops q.td q.ti
  simp only [phi_cons, phi_nil]; lia
theorem phi_eqStep {done run : Row} (h : Dn done) (t : Tx) : phi (eqStep done run t) ≤ phi done + phi run + (t.length + 1) := by
  unfold eqStep
  split
  · rename_i hr
    have c := cat_phi run
    have e := phi_endR (trimR done run t)
    have w : tw (trimR done run t) ≤ phi done + (cat (-1) run).length + (cat 1 run).length + t.length := by
      unfold trimR
      split
      · exact (trim_w _ h).1
      · exact Nat.le_refl _
    grind
  · split
    · rename_i hr
      have w := phi_addLast h t
      rw [if_neg hr.2] at w
      grind
    · rw [pha, pha]; simp [phi]
noncomputable def Kind (k : Int) : Prop := k = -1 ∨ k = 0 ∨ k = 1
noncomputable def Kinds (r : Row) : Prop := ∀ q ∈ r, Kind q.1
theorem Kinds.nil : Kinds [] := fun _ h => by cases h
theorem Kinds.cons {p : Part} {r : Row} (h : Kind p.1) (k : Kinds r) : Kinds (p :: r) := fun q hq => by
  rcases List.mem_cons.mp hq with rfl | hq
  · exact h
  · exact k q hq
theorem Kinds.tail {p : Part} {r : Row} (k : Kinds (p :: r)) : Kinds r := fun q hq => k q (List.mem_cons_of_mem _ hq)
theorem Kinds.head {p : Part} {r : Row} (k : Kinds (p :: r)) : Kind p.1 := k p List.mem_cons_self
theorem Kinds.append {a b : Row} (h : Kinds a) (k : Kinds b) : Kinds (a ++ b) := fun q hq => by
  rcases List.mem_append.mp hq with hq | hq
  · exact h q hq
  · exact k q hq
theorem kinds_addLast {done : Row} (h : Kinds done) (x : Tx) : Kinds (addLast done x) := by
  induction done with
  | nil => exact .cons (.inr (.inl rfl)) .nil
  | cons a r ih =>
    cases r with
    | nil => obtain ⟨k, u⟩ := a; exact .cons (h.head) .nil
    | cons b r => exact .cons h.head (ih h.tail)
theorem kinds_ops (td ti : Tx) : Kinds (ops td ti) := by
  unfold ops
  refine .append ?_ ?_
  · split
    · exact .nil
    · exact .cons (.inl rfl) .nil
  · split
    · exact .nil
    · exact .cons (.inr (.inr rfl)) .nil
theorem kinds_trim {q : Trim} (h : Kinds q.done) : Kinds (trim q).done := by
  unfold trim
  rw [(trimB_w _).2]
  unfold trimA
  split
  · exact h
  · exact kinds_addLast h _
theorem kinds_eqStep {done run : Row} (h : Kinds done) (hr : Kinds run) (t : Tx) : Kinds (eqStep done run t) := by
  unfold eqStep
  split
  · unfold endR
    refine .append (.append ?_ (kinds_ops _ _)) (.cons (.inr (.inl rfl)) .nil)
    unfold trimR
    split
    · exact kinds_trim h
    · exact h
  · split
    · exact kinds_addLast h _
    · exact (h.append hr).append (.cons (.inr (.inl rfl)) .nil)
theorem kinds_mergeGo : ∀ (todo done run : Row), Kinds done → Kinds run → Kinds todo → Kinds (mergeGo done run todo)
  | [], done, run, h, hr, _ => h.append hr
  | (k, t) :: r, done, run, h, hr, ht => by
    unfold mergeGo
    split
    · exact kinds_mergeGo r _ _ (kinds_eqStep h hr t) .nil ht.tail
    · exact kinds_mergeGo r _ _ h (hr.append (.cons ht.head .nil)) ht.tail
theorem kinds_popE : ∀ (r : Row), Kinds r → Kinds (popE r)
  | [], _ => .nil
  | [p], h => by unfold popE; split <;> first | exact .nil | exact h
  | p :: q :: r, h => .cons h.head (kinds_popE (q :: r) h.tail)
theorem kinds_slideGo : ∀ (r : Row) (a : Part), Kind a.1 → Kinds r → Kinds (sgo a r).1
  | [], a, h, _ => .cons h .nil
  | [b], a, h, hr => .cons h hr
  | b :: c :: C, a, h, hr => by
    have hb := hr.head
    have hc := hr.tail.head
    have hC := hr.tail.tail
    have i1 := kinds_slideGo (c :: C) b hb hr.tail
    simp only [ sgo ]
    split
    · split
      · exact .cons hb (kinds_slideGo C _ hc hC)
      · split
        · exact .cons h (kinds_slideGo C _ hb hC)
        · exact .cons h i1
    · exact .cons h i1
theorem kinds_slide {r : Row} (h : Kinds r) : Kinds (slide r).1 := by
  cases r with
  | nil => exact .nil
  | cons a r => exact kinds_slideGo r a h.head h.tail
theorem phi_slideGo : ∀ (r : Row) (a : Part), phi (sgo a r).1 + (if (sgo a r).2 then 1 else 0) ≤ phi (a :: r)
  | [], a => by simp [sgo]
  | [b], a => by simp [sgo]
  | b :: c :: C, a => by
    have i1 := phi_slideGo (c :: C) b
    simp only [ sgo ]
    split
    · split
      · rename_i h
        have i2 := phi_slideGo C (c.1, a.2 ++ c.2)
        have z : ∀ x : Bool, (if x = true then 1 else 0) ≤ 1 := fun x => by cases x <;> trivial
        have := z (sgo (c.1, a.2 ++ c.2) C).2
        simp only [phi_cons, List.length_append, List.length_take, if_true] at i2 ⊢
        have h1 := h.1
        rw [Nat.min_eq_left (by grind)]; grind
      · split
        · rename_i h
          have i2 := phi_slideGo C (b.1, b.2.drop c.2.length ++ c.2)
          have he : c.2.length ≤ b.2.length := by
            have := congrArg List.length h
            rw [List.length_take] at this; grind
          simp only [phi_cons, List.length_append, List.length_drop, if_true] at i2 ⊢
          grind
        · simp only [phi_cons] at i1 ⊢; grind
    · simp only [phi_cons] at i1 ⊢; grind
theorem phi_slide (r : Row) : phi (slide r).1 + (if (slide r).2 then 1 else 0) ≤ phi r := by
  cases r with
  | nil => simp [slide]
  | cons a r => exact phi_slideGo r a
theorem mergeGo_end (x : Tx) : ∀ (todo done run : Row), Dn done → ∃ done' run', Dn done' ∧ mergeGo done run (todo ++ [(0, x)]) = eqStep done' run' x ∧ phi done' + phi run' ≤ phi done + phi run + phi todo
  | [], done, run, hd => ⟨done, run, hd, by show mergeGo done run [(0, x)] = _; rw [mergeGo, if_pos rfl]; simp [mergeGo], by simp [phi_nil]⟩
  | (k, t) :: r, done, run, hd => by
    simp only [ List.cons_append ]
    by_cases hk : k = 0
    · obtain ⟨d', r', a, b, c⟩ := mergeGo_end x r (eqStep done run t) [] (.inr (eqStep_dn hd t))
      refine ⟨d', r', a, by rw [mergeGo, if_pos hk]; exact b, ?_⟩
      have := phi_eqStep (run := run) hd t
      simp only [ phi_nil ] at c
      rw [phi_cons]; dsimp only; grind
    · obtain ⟨d', r', a, b, c⟩ := mergeGo_end x r done (run ++ [(k, t)]) hd
      refine ⟨d', r', a, by rw [mergeGo, if_neg hk]; exact b, ?_⟩
      rw [pha, phi_cons, phi_nil] at c
      rw [phi_cons]; dsimp only at c ⊢; grind
theorem mergeGo_dn (x : Tx) : ∀ (todo done run : Row), Dn done → ∃ dn u, mergeGo done run (todo ++ [(0, x)]) = dn ++ [((0 : Int), u)]
  | [], done, run, h => by
    obtain ⟨dn, u, e⟩ := eqStep_dn (run := run) h x
    refine ⟨dn, u, ?_⟩
    show mergeGo done run [(0, x)] = _
    rw [mergeGo, if_pos rfl, e]; simp [mergeGo]
  | (k, t) :: r, done, run, h => by
    rw [List.cons_append]
    unfold mergeGo
    split
    · exact mergeGo_dn x r _ _ (.inr (eqStep_dn h t))
    · exact mergeGo_dn x r _ _ h
theorem trim_last {q : Trim} (hd : Dn q.done) (ht : q.t = []) : (trim q).t = [] ∨ phi (trim q).done + (trim q).td.length + (trim q).ti.length + (trim q).t.length + 1 ≤ phi q.done + q.td.length + q.ti.length := by
  have e : (trimA q).t = [] := by unfold trimA; split <;> exact ht
  have w := (trimA_w q hd).1
  unfold tw at w
  rw [e, ht] at w
  unfold trim
  generalize trimA q = p at *
  have l := lcs_le p.ti p.td
  unfold trimB
  by_cases hz : lcs p.ti p.td = 0
  · rw [ if_pos hz ]; exact .inl e
  · rw [ if_neg hz ]; right
    dsimp only
    rw [ List.length_append, List.length_drop, List.length_take, List.length_take, e, Nat.min_eq_left (Nat.sub_le _ _), Nat.min_eq_left (Nat.sub_le _ _) ]
    refine Nat.le_trans ?_ w
    generalize lcs p.ti p.td = k at *
    generalize p.ti.length = i at *
    generalize p.td.length = j at *
    rw [ Nat.sub_sub_self (by first | exact l.1 | exact l.2) ]
    obtain ⟨u, rfl⟩ : ∃ u, i = k + u := ⟨i - k, by lia⟩
    obtain ⟨v, rfl⟩ : ∃ v, j = k + v := ⟨j - k, by lia⟩
    rw [Nat.add_sub_cancel_left, Nat.add_sub_cancel_left]
    clear l w
    show phi p.done + v + u + (k + 0) + 1 ≤ phi p.done + (k + v) + (k + u) + 0
    lia
theorem eqStep_last {done run : Row} (hd : Dn done) : (∃ dn, eqStep done run [] = dn ++ [((0 : Int), ([] : Tx))]) ∨ phi (eqStep done run []) ≤ phi done + phi run := by
  unfold eqStep
  by_cases hr : 1 < run.length
  · rw [ if_pos hr ]
    have c := cat_phi run
    unfold trimR
    by_cases hb : cnt (-1) run ≠ 0 ∧ cnt 1 run ≠ 0
    · rw [ if_pos hb ]
      rcases trim_last (q := ⟨done, cat (-1) run, cat 1 run, []⟩) hd rfl with h | h
      · left; exact ⟨_, by unfold endR; rw [h]⟩
      · right
        have e := phi_endR (trim ⟨done, cat (-1) run, cat 1 run, []⟩)
        unfold tw at e
        dsimp only at h
        grind
    · rw [ if_neg hb ]; left; exact ⟨_, rfl⟩
  · rw [ if_neg hr ]
    by_cases h : run = [] ∧ done ≠ []
    · rw [ if_pos h ]
      right
      have w := phi_addLast hd []
      rw [if_neg h.2] at w
      simp at w; grind
    · rw [ if_neg h ]; left; exact ⟨_, rfl⟩
theorem phi_merge (r : Row) : phi (popE (merge r)) ≤ phi r := by
  unfold merge
  obtain ⟨d', r', a, b, c⟩ := mergeGo_end [] r [] [] (.inl rfl)
  rw [ b ]
  have hp := phi_eqStep (run := r') a []
  simp only [ phi_nil ] at c
  rcases eqStep_last (run := r') a with ⟨dn, h⟩ | h
  · rw [h, popE_cat, if_pos rfl]
    rw [h, pha, phi_cons, phi_nil] at hp
    simp only [List.length_nil] at hp
    grind
  · obtain ⟨dn, u, e⟩ := eqStep_dn (run := r') a []
    rw [e] at h ⊢
    rw [popE_cat]
    rw [pha, phi_cons, phi_nil] at h
    split
    · grind
    · rw [pha, phi_cons, phi_nil]; grind
noncomputable def NE (r : Row) : Prop := ∀ p ∈ r, p.2 ≠ []
noncomputable def ne (r : Row) : Row := r.filter fun p => decide (p.2 ≠ [])
theorem NE.nil : NE [] := fun _ h => by cases h
theorem NE.cons {p : Part} {r : Row} (h : p.2 ≠ []) (k : NE r) : NE (p :: r) := fun q hq => by
  rcases List.mem_cons.mp hq with rfl | hq
  · exact h
  · exact k q hq
theorem NE.tail {p : Part} {r : Row} (k : NE (p :: r)) : NE r := fun q hq => k q (List.mem_cons_of_mem _ hq)
theorem NE.head {p : Part} {r : Row} (k : NE (p :: r)) : p.2 ≠ [] := k p List.mem_cons_self
theorem NE.append {a b : Row} (h : NE a) (k : NE b) : NE (a ++ b) := fun q hq => by
  rcases List.mem_append.mp hq with hq | hq
  · exact h q hq
  · exact k q hq
theorem ne_ne (r : Row) : NE (ne r) := fun p hp => of_decide_eq_true (List.mem_filter.mp hp).2
theorem ne_cons (p : Part) (r : Row) : ne (p :: r) = (if p.2 = [] then [] else [p]) ++ ne r := by
  unfold ne; rw [List.filter_cons]
  by_cases h : p.2 = [] <;> simp [h]
theorem ne_ops (o n : Tx) (r : Row) : ne ((-1, o) :: (1, n) :: r) = ops o n ++ ne r := by
  rw [ne_cons, ne_cons, ← List.append_assoc]; rfl
theorem ne_four (k o n : Tx) (r : Row) : ne ((0, k) :: (-1, o) :: (1, n) :: r) = ne [(0, k)] ++ (ops o n ++ ne r) := by
  rw [← ne_ops, ne_cons, ne_cons (0, k) []]
  simp [ne]
theorem Run.nil : Run [] := fun _ h => by cases h
theorem Run.snoc {r : Row} {p : Part} (h : Run r) (k : p.1 = -1 ∨ p.1 = 1) : Run (r ++ [p]) := fun q hq => by
  rcases List.mem_append.mp hq with hq | hq
  · exact h q hq
  · rw [List.mem_singleton] at hq; subst hq; exact k
theorem kind_run {k : Int} (h : Kind k) (h0 : k ≠ 0) : k = -1 ∨ k = 1 := by
  rcases h with h | h | h
  · exact .inl h
  · exact absurd h h0
  · exact .inr h
noncomputable def pre (o n : Tx) : Tx := n.take (lcp n o)
noncomputable def mo (o n : Tx) : Tx := o.drop (lcp n o)
noncomputable def mn (o n : Tx) : Tx := n.drop (lcp n o)
noncomputable def ms (o n : Tx) : Nat := lcs (mn o n) (mo o n)
noncomputable def ro (o n : Tx) : Tx := (mo o n).take ((mo o n).length - ms o n)
noncomputable def rn (o n : Tx) : Tx := (mn o n).take ((mn o n).length - ms o n)
noncomputable def su (o n : Tx) : Tx := (mn o n).drop ((mn o n).length - ms o n)
theorem lcp_nil_l (x : Tx) : lcp [] x = 0 := by simp [lcp]
theorem lcp_nil_r (x : Tx) : lcp x [] = 0 := by cases x <;> simp [lcp]
structure NT (o n : Tx) : Prop where
  p : pre o n = []
  eo : ro o n = o
  en : rn o n = n
  s : su o n = []
theorem nt_of {o n : Tx} (h : lcp n o = 0) (h2 : lcs n o = 0) : NT o n := by
  have a : mo o n = o := by unfold mo; rw [ h ]; rfl
  have b : mn o n = n := by unfold mn; rw [ h ]; rfl
  have c : ms o n = 0 := by unfold ms; rw [ a, b, h2 ]
  refine ⟨by unfold pre; rw [ h ]; rfl, by unfold ro; rw [ a, c ]; simp, by unfold rn; rw [ b, c ]; simp, by unfold su; rw [ b, c ]; simp⟩
theorem nt_empty {o n : Tx} (h : o = [] ∨ n = []) : NT o n := by
  rcases h with rfl | rfl
  · exact nt_of (lcp_nil_r _) (by unfold lcs; exact lcp_nil_r _)
  · exact nt_of (lcp_nil_l _) (by unfold lcs; exact lcp_nil_l _)
noncomputable def addPre (done : Row) (p : Tx) : Row := if p = [] then done else addLast done p
theorem trim_eq (done : Row) (o n t : Tx) : trim ⟨done, o, n, t⟩ = ⟨addPre done (pre o n), ro o n, rn o n, su o n ++ t⟩ := by
  have e : trimA ⟨done, o, n, t⟩ = ⟨addPre done (pre o n), mo o n, mn o n, t⟩ := by
    unfold trimA addPre
    dsimp only
    have l := lcp_le n o
    by_cases h : lcp n o = 0
    · rw [if_pos h, if_pos (by unfold pre; rw [h]; rfl)]
      unfold mo mn; rw [h]; rfl
    · have : pre o n ≠ [] := fun q => h (by have := congrArg List.length q; unfold pre at this; rw [List.length_take, List.length_nil] at this; grind)
      rw [if_neg h, if_neg this]; rfl
  unfold trim
  rw [e]
  unfold trimB
  dsimp only
  by_cases h : lcs (mn o n) (mo o n) = 0
  · rw [if_pos h]
    have c : ms o n = 0 := h
    unfold ro rn su
    rw [c]; simp
  · rw [if_neg h]; rfl
theorem cat_none {k : Int} {r : Row} (h : cnt k r = 0) : cat k r = [] := by
  induction r with
  | nil => rfl
  | cons p r ih =>
    rw [cnt_cons] at h
    rw [cat_cons, ih (by grind)]
    split at h
    · grind
    · rename_i q; rw [if_neg q]; rfl
theorem eqStep_run {done run : Row} {t : Tx} (hr : Run run) (hn : NE run) (h0 : run ≠ []) :
    eqStep done run t = addPre done (pre (cat (-1) run) (cat 1 run)) ++ ops (ro (cat (-1) run) (cat 1 run)) (rn (cat (-1) run) (cat 1 run)) ++ [(0, su (cat (-1) run) (cat 1 run) ++ t)] := by
  unfold eqStep
  by_cases hl : 1 < run.length
  · rw [ if_pos hl ]
    unfold trimR
    by_cases hb : cnt (-1) run ≠ 0 ∧ cnt 1 run ≠ 0
    · rw [if_pos hb, trim_eq]; rfl
    · rw [ if_neg hb ]
      have z : cat (-1) run = [] ∨ cat 1 run = [] := by
        by_cases q : cnt (-1) run = 0
        · exact .inl (cat_none q)
        · by_cases q2 : cnt 1 run = 0
          · exact .inr (cat_none q2)
          · exact absurd ⟨q, q2⟩ hb
      have n := nt_empty z
      rw [ n.p, n.eo, n.en, n.s ]; rfl
  · rw [if_neg hl, if_neg (fun q => h0 q.1)]
    match run, hl, hr, hn, h0 with
    | [], _, _, _, h0 => exact absurd rfl h0
    | _ :: _ :: _, hl, _, _, _ => exact absurd (by simp) hl
    | [p], _, hr, hn, _ =>
      have hp := hn p (List.mem_singleton.mpr rfl)
      rcases hr p (List.mem_singleton.mpr rfl) with e | e
      · have c1 : cat (-1) [p] = p.2 := by rw [cat_one, if_pos e]
        have c2 : cat 1 [p] = [] := by rw [cat_one, if_neg (by rw [e]; decide)]
        rw [ c1, c2 ]
        have n := nt_empty (o := p.2) (n := []) (.inr rfl)
        rw [ n.p, n.eo, n.en, n.s ]
        unfold ops addPre
        rw [ if_neg hp, ← e ]; rfl
      · have c1 : cat (-1) [p] = [] := by rw [cat_one, if_neg (by rw [e]; decide)]
        have c2 : cat 1 [p] = p.2 := by rw [cat_one, if_pos e]
        rw [ c1, c2 ]
        have n := nt_empty (o := []) (n := p.2) (.inl rfl)
        rw [ n.p, n.eo, n.en, n.s ]
        unfold ops addPre
        rw [ if_neg hp, ← e ]; rfl
abbrev Seg := Tx × Tx × Tx
noncomputable def segs : Tx → Row → Row → Tx × List Seg
  | k, run, [] => if run = [] then (k, []) else (k, [(cat (-1) run, cat 1 run, [])])
  | k, run, (j, t) :: r => if j = 0 then (if run = [] then segs (k ++ t) [] r else (k, (cat (-1) run, cat 1 run, (segs t [] r).1) :: (segs t [] r).2)) else segs k (run ++ [(j, t)]) r
noncomputable def plainGo : Tx → List Seg → Row × Bool
  | k, [] => ([(0, k)], false)
  | k, (o, n, k') :: l => ((0, k ++ pre o n) :: (-1, ro o n) :: (1, rn o n) :: (plainGo (su o n ++ k') l).1, decide (ro o n = rn o n) || (plainGo (su o n ++ k') l).2)
theorem segs_shift (s : Tx) : ∀ (r run : Row) (k : Tx), segs (s ++ k) run r = (s ++ (segs k run r).1, (segs k run r).2)
  | [], run, k => by unfold segs; split <;> rfl
  | (j, t) :: r, run, k => by
    unfold segs
    split
    · split
      · rw [List.append_assoc]; exact segs_shift s r _ _
      · rfl
    · exact segs_shift s r _ _
noncomputable def Rel (done D : Row) (k : Tx) : Prop := (k = [] ∧ done = [] ∧ D = []) ∨ (k ≠ [] ∧ done = D ++ [((0 : Int), k)])
theorem rel_pre {done D : Row} {k : Tx} (h : Rel done D k) (p : Tx) : addPre done p = D ++ ne [(0, k ++ p)] := by
  unfold addPre
  rw [ne_cons]
  rcases h with ⟨rfl, rfl, rfl⟩ | ⟨h, rfl⟩
  · by_cases hp : p = []
    · subst hp; rfl
    · rw [if_neg hp, if_neg (by simpa using hp)]; rfl
  · by_cases hp : p = []
    · subst hp; rw [if_pos rfl, if_neg (by simpa using h), List.append_nil]; rfl
    · rw [if_neg hp, addLast_cat, if_neg (by simp [h])]; rfl
theorem rel_keep {done D : Row} {k t : Tx} (h : Rel done D k) (ht : t ≠ []) : Rel (eqStep done [] t) D (k ++ t) := by
  right
  refine ⟨by simp [ht], ?_⟩
  rcases h with ⟨rfl, rfl, rfl⟩ | ⟨h, rfl⟩
  · rfl
  · unfold eqStep
    rw [if_neg (by simp), if_pos ⟨rfl, by simp⟩, addLast_cat]
theorem merge_plain : ∀ (todo done D run : Row) (k : Tx), NE todo → Kinds todo → NE run → Run run → Rel done D k →
    popE (mergeGo done run (todo ++ [(0, [])])) = D ++ ne (plainGo (segs k run todo).1 (segs k run todo).2).1
  | [], done, D, run, k, _, _, hn, hr, hR => by
    (dsimp only [List.nil_append]; rw [mergeGo, if_pos rfl])
    rw [show mergeGo (eqStep done run []) [] [] = eqStep done run [] ++ [] from by rw [mergeGo], List.append_nil]
    unfold segs
    by_cases h0 : run = []
    · subst h0
      rw [ if_pos rfl ]
      show _ = D ++ ne [(0, k)]
      rw [ne_cons]
      rcases hR with ⟨rfl, rfl, rfl⟩ | ⟨h, rfl⟩
      · rfl
      · unfold eqStep
        rw [if_neg (by simp), if_pos ⟨rfl, by simp⟩, addLast_cat, List.append_nil, popE_cat, if_neg h, if_neg h]; rfl
    · rw [if_neg h0, eqStep_run hr hn h0, popE_cat, rel_pre hR]
      unfold plainGo plainGo
      dsimp only
      rw [ne_four]
      by_cases hs : su (cat (-1) run) (cat 1 run) = []
      · rw [if_pos (by simp [hs]), hs]; simp [ne]
      · rw [if_neg (by simp [hs])]; simp [ne, hs]
  | (j, t) :: r, done, D, run, k, hN, hK, hn, hr, hR => by
    have ht : t ≠ [] := hN.head
    (dsimp only [List.cons_append, mergeGo]; try with_reducible rfl)
    unfold segs
    by_cases hj : j = 0
    · rw [ if_pos hj, if_pos hj ]
      by_cases h0 : run = []
      · subst h0
        rw [ if_pos rfl ]
        exact merge_plain r _ D [] _ hN.tail hK.tail .nil .nil (rel_keep hR ht)
      · rw [ if_neg h0, eqStep_run hr hn h0 ]
        have := merge_plain r _ _ [] (su (cat (-1) run) (cat 1 run) ++ t) hN.tail hK.tail .nil .nil (Or.inr ⟨by simp [ht], rfl⟩ : Rel (addPre done (pre (cat (-1) run) (cat 1 run)) ++ ops (ro (cat (-1) run) (cat 1 run)) (rn (cat (-1) run) (cat 1 run)) ++ [(0, su (cat (-1) run) (cat 1 run) ++ t)]) _ _)
        rw [ this, segs_shift, rel_pre hR ]
        dsimp only
        conv => rhs; unfold plainGo
        dsimp only
        rw [ne_four]
        simp
    · rw [ if_neg hj, if_neg hj ]
      exact merge_plain r _ D _ k hN.tail hK.tail (hn.append (.cons ht .nil)) (hr.snoc (kind_run hK.head hj)) hR
noncomputable def plainR (r : Row) : Row := ne (plainGo (segs [] [] r).1 (segs [] [] r).2).1
theorem merge_is_plain {r : Row} (h : NE r) (k : Kinds r) : popE (merge r) = plainR r :=
  merge_plain r [] [] [] [] h k .nil .nil (.inl ⟨rfl, rfl, rfl⟩)
noncomputable def side (k : Int) : Row → Tx
  | [] => []
  | p :: r => (if p.1 = 0 ∨ p.1 = k then p.2 else []) ++ side k r
noncomputable def turned : Row → Nat
  | [] => 0
  | p :: r => (if p.1 = 0 then 0 else p.2.length) + turned r
theorem sda (k : Int) : ∀ (a b : Row), side k (a ++ b) = side k a ++ side k b
  | [], b => rfl
  | p :: a, b => by (dsimp only [List.cons_append, side, side]; rw [sda k a b, List.append_assoc])
theorem turned_append : ∀ (a b : Row), turned (a ++ b) = turned a + turned b
  | [], b => by simp [turned]
  | p :: a, b => by (dsimp only [List.cons_append, turned, turned]; rw [turned_append a b]); lia
theorem side_one (k : Int) (p : Part) : side k [p] = if p.1 = 0 ∨ p.1 = k then p.2 else [] := by
  simp only [ side, side, List.append_nil ]
theorem pre_o (o n : Tx) : pre o n = o.take (lcp n o) := by
  have l := lcp_le n o
  exact (lcp_iff _ n o l.1 l.2).mp (Nat.le_refl _)
theorem drop_rev (x : Tx) (s : Nat) : x.drop (x.length - s) = (x.reverse.take s).reverse := by rw [List.take_reverse, List.reverse_reverse]
theorem take_rev (x : Tx) (s : Nat) : x.take (x.length - s) = (x.reverse.drop s).reverse := by rw [List.drop_reverse, List.reverse_reverse]
theorem su_o (o n : Tx) : su o n = (mo o n).drop ((mo o n).length - ms o n) := by
  unfold su
  rw [drop_rev, drop_rev]
  have l := lcs_le (mn o n) (mo o n)
  have := (lcp_iff (ms o n) (mn o n).reverse (mo o n).reverse (by rw [List.length_reverse]; exact l.1) (by rw [List.length_reverse]; exact l.2)).mp (Nat.le_refl _)
  rw [this]
theorem split_o (o n : Tx) : pre o n ++ ro o n ++ su o n = o := by
  rw [pre_o, su_o]
  unfold ro
  rw [List.append_assoc, List.take_append_drop]
  exact List.take_append_drop _ _
theorem split_n (o n : Tx) : pre o n ++ rn o n ++ su o n = n := by
  unfold pre rn su
  rw [List.append_assoc, List.take_append_drop]
  exact List.take_append_drop _ _
theorem lcp_drop : ∀ (a b : Tx), lcp (a.drop (lcp a b)) (b.drop (lcp a b)) = 0
  | [], _ => by rfl
  | _ :: _, [] => by rfl
  | a :: as, b :: bs => by
    by_cases h : a = b
    · subst h
      rw [show lcp (a :: as) (a :: bs) = lcp as bs + 1 by simp [lcp]]
      exact lcp_drop as bs
    · rw [show lcp (a :: as) (b :: bs) = 0 by simp [lcp, h]]
      simp [lcp, h]
theorem head_ne {a b : Tx} (h : lcp a b = 0) (ha : a ≠ []) (hb : b ≠ []) : b.head? ≠ a.head? := by
  cases a with
  | nil => exact absurd rfl ha
  | cons x a => cases b with
    | nil => exact absurd rfl hb
    | cons y b =>
      intro e
      simp at e
      subst e
      simp [lcp] at h
theorem head_take {x : Tx} {k : Nat} (h : x.take k ≠ []) : (x.take k).head? = x.head? := by
  cases x with
  | nil => simp at h
  | cons a x => cases k with
    | zero => simp at h
    | succ k => rfl
theorem ro_head {o n : Tx} (h : ro o n ≠ []) (h2 : rn o n ≠ []) : (ro o n).head? ≠ (rn o n).head? := by
  unfold ro at h ⊢
  unfold rn at h2 ⊢
  rw [head_take h, head_take h2]
  refine head_ne (lcp_drop n o) ?_ ?_
  · intro q; rw [show mn o n = [] from q] at h2; exact h2 (by simp)
  · intro q; rw [show mo o n = [] from q] at h; exact h (by simp)
theorem ro_last {o n : Tx} (h : ro o n ≠ []) (h2 : rn o n ≠ []) : (ro o n).getLast? ≠ (rn o n).getLast? := by
  have e1 : ro o n = ((mo o n).reverse.drop (ms o n)).reverse := take_rev _ _
  have e2 : rn o n = ((mn o n).reverse.drop (ms o n)).reverse := take_rev _ _
  rw [e1] at h ⊢
  rw [e2] at h2 ⊢
  rw [List.getLast?_reverse, List.getLast?_reverse]
  exact head_ne (lcp_drop (mn o n).reverse (mo o n).reverse) (fun q => h2 (by show (List.drop (ms o n) (mn o n).reverse).reverse = []; rw [show List.drop (ms o n) (mn o n).reverse = [] from q]; rfl)) (fun q => h (by show (List.drop (ms o n) (mo o n).reverse).reverse = []; rw [show List.drop (ms o n) (mo o n).reverse = [] from q]; rfl))
theorem side_run {k : Int} (hk : k = -1 ∨ k = 1) {r : Row} (h : Run r) : side k r = cat k r := by
  induction r with
  | nil => rfl
  | cons p r ih =>
    simp only [ side, cat_cons, ih fun q hq => h q (List.mem_cons_of_mem _ hq) ]
    have : p.1 ≠ 0 := by rcases h p List.mem_cons_self with e | e <;> rw [e] <;> decide
    simp [this]
theorem side_ops_m (o n : Tx) : side (-1) (ops o n) = o := by
  unfold ops
  rw [sda]
  by_cases h : o = [] <;> by_cases h2 : n = [] <;> simp [h, h2, side]
theorem side_ops_p (o n : Tx) : side 1 (ops o n) = n := by
  unfold ops
  rw [sda]
  by_cases h : o = [] <;> by_cases h2 : n = [] <;> simp [h, h2, side]
theorem side_addLast {done : Row} (h : Dn done) (k : Int) (x : Tx) : side k (addLast done x) = side k done ++ x := by
  rcases h with rfl | ⟨dn, u, rfl⟩
  · simp [addLast, side]
  · rw [addLast_cat, sda, sda, side_one, side_one]; simp
theorem side_addPre {done : Row} (h : Dn done) (k : Int) (x : Tx) : side k (addPre done x) = side k done ++ x := by
  unfold addPre
  split
  · rename_i e; rw [e, List.append_nil]
  · exact side_addLast h k x
theorem side_endR {done : Row} (h : Dn done) {k : Int} (hk : k = -1 ∨ k = 1) (o n t : Tx) (b : Prop) [Decidable b] :
    side k (endR (if b then trim ⟨done, o, n, t⟩ else ⟨done, o, n, t⟩)) = side k done ++ (if k = -1 then o else n) ++ t := by
  have kept : ∀ x : Tx, side k [((0 : Int), x)] = x := fun x => by rw [side_one]; exact if_pos (.inl rfl)
  unfold endR
  rw [sda, sda, kept]
  have so := split_o o n
  have sn := split_n o n
  by_cases hb : b
  · rw [if_pos hb, trim_eq]
    dsimp only
    rw [side_addPre h]
    rcases hk with rfl | rfl
    · rw [side_ops_m, if_pos rfl]
      conv => rhs; rw [← so]
      simp only [List.append_assoc]
    · rw [side_ops_p, if_neg (by decide)]
      conv => rhs; rw [← sn]
      simp only [List.append_assoc]
  · rw [if_neg hb]
    dsimp only
    rcases hk with rfl | rfl
    · rw [side_ops_m, if_pos rfl]
    · rw [side_ops_p, if_neg (by decide)]
theorem side_eqStep {done run : Row} (h : Dn done) (hr : Run run) {k : Int} (hk : k = -1 ∨ k = 1) (t : Tx) : side k (eqStep done run t) = side k done ++ side k run ++ t := by
  unfold eqStep
  split
  · unfold trimR
    rw [side_endR h hk, side_run hk hr]
    rcases hk with rfl | rfl
    · rfl
    · rfl
  · split
    · rename_i q
      rw [side_addLast h, q.1]; simp [side]
    · rw [sda, sda, side_one]; dsimp
theorem side_mergeGo {k : Int} (hk : k = -1 ∨ k = 1) : ∀ (todo done run : Row), Dn done → Run run → Kinds todo → side k (mergeGo done run todo) = side k done ++ side k run ++ side k todo
  | [], done, run, h, hr, _ => by simp only [ mergeGo, sda ]; simp [side]
  | (j, t) :: r, done, run, h, hr, hK => by
    simp only [ mergeGo ]
    split
    · rename_i e
      rw [side_mergeGo hk r _ _ (.inr (eqStep_dn h t)) .nil hK.tail, side_eqStep h hr hk]
      simp [side, e]
    · rename_i e
      rw [side_mergeGo hk r _ _ h (hr.snoc (kind_run hK.head e)) hK.tail, sda, side_one, side]; simp
theorem side_popE (k : Int) : ∀ r : Row, side k (popE r) = side k r
  | [] => rfl
  | [p] => by
    unfold popE
    split
    · rename_i e; rw [side_one, e]; simp [side]
    · rfl
  | p :: q :: r => by
    show (if p.1 = 0 ∨ p.1 = k then p.2 else []) ++ side k (popE (q :: r)) = (if p.1 = 0 ∨ p.1 = k then p.2 else []) ++ side k (q :: r)
    rw [side_popE k (q :: r)]
theorem side_merge {k : Int} (hk : k = -1 ∨ k = 1) {r : Row} (hK : Kinds r) : side k (popE (merge r)) = side k r := by
  rw [side_popE]
  unfold merge
  rw [side_mergeGo hk _ _ _ (.inl rfl) .nil (hK.append (.cons (.inr (.inl rfl)) .nil)), sda, side_one]; simp [side]
noncomputable def ends (b a : Tx) : Prop := a.length ≤ b.length ∧ b.drop (b.length - a.length) = a
noncomputable def starts (b c : Tx) : Prop := b.take c.length = c
noncomputable def sc (a b c : Part) : Prop := a.1 = 0 ∧ c.1 = 0 ∧ (ends b.2 a.2 ∨ starts b.2 c.2)
theorem ends_iff {b a : Tx} : ends b a ↔ ∃ w, b = w ++ a := by
  constructor
  · rintro ⟨h, e⟩
    exact ⟨b.take (b.length - a.length), by conv => lhs; rw [← List.take_append_drop (b.length - a.length) b]
                                            rw [e]⟩
  · rintro ⟨w, rfl⟩
    refine ⟨by simp, ?_⟩
    rw [List.length_append, Nat.add_sub_cancel]
    exact List.drop_left' rfl
theorem starts_iff {b c : Tx} : starts b c ↔ ∃ w, b = c ++ w := by
  constructor
  · intro e
    exact ⟨b.drop c.length, by conv => lhs; rw [← List.take_append_drop c.length b]
                               rw [e]⟩
  · rintro ⟨w, rfl⟩
    unfold starts
    exact List.take_left' rfl
theorem sg_l {a b c : Part} {C : Row} (h0 : a.1 = 0) (h1 : c.1 = 0) (h : ends b.2 a.2) :
    sgo a (b :: c :: C) = ((b.1, a.2 ++ b.2.take (b.2.length - a.2.length)) :: (sgo (c.1, a.2 ++ c.2) C).1, true) := by
  rw [sgo, if_pos ⟨h0, h1⟩]; exact if_pos h
theorem sg_r {a b c : Part} {C : Row} (h0 : a.1 = 0) (h1 : c.1 = 0) (h : ¬ ends b.2 a.2) (h2 : starts b.2 c.2) :
    sgo a (b :: c :: C) = ((a.1, a.2 ++ c.2) :: (sgo (b.1, b.2.drop c.2.length ++ c.2) C).1, true) := by
  rw [sgo, if_pos ⟨h0, h1⟩]; exact (if_neg h).trans (if_pos h2)
theorem sg_n {a b c : Part} {C : Row} (h : ¬ sc a b c) :
    sgo a (b :: c :: C) = (a :: (sgo b (c :: C)).1, (sgo b (c :: C)).2) := by
  rw [sgo]
  by_cases g : a.1 = 0 ∧ c.1 = 0
  · rw [if_pos g]; exact (if_neg (fun q => h ⟨g.1, g.2, .inl q⟩)).trans (if_neg (fun q => h ⟨g.1, g.2, .inr q⟩))
  · rw [if_neg g]
noncomputable def noSl : Row → Prop
  | a :: b :: c :: C => ¬ sc a b c ∧ noSl (b :: c :: C)
  | _ => True
theorem slideGo_no : ∀ (r : Row) (a : Part), noSl (a :: r) → sgo a r = (a :: r, false)
  | [], a, _ => by simp [sgo]
  | [b], a, _ => by simp [sgo]
  | b :: c :: C, a, h => by rw [sg_n h.1, slideGo_no (c :: C) b h.2]
theorem slideGo_yes : ∀ (r : Row) (a : Part), ¬ noSl (a :: r) → (sgo a r).2 = true
  | [], a, h => absurd trivial h
  | [b], a, h => absurd trivial h
  | b :: c :: C, a, h => by
    by_cases g : sc a b c
    · obtain ⟨h0, h1, h2⟩ := g
      by_cases hl : ends b.2 a.2
      · rw [sg_l h0 h1 hl]
      · rcases h2 with h2 | h2
        · exact absurd h2 hl
        · rw [sg_r h0 h1 hl h2]
    · rw [sg_n g]
      exact slideGo_yes (c :: C) b fun q => h ⟨g, q⟩
theorem slide_no {r : Row} (h : noSl r) : slide r = (r, false) := by
  cases r with
  | nil => rfl
  | cons a r => exact slideGo_no r a h
theorem slide_yes {r : Row} (h : ¬ noSl r) : (slide r).2 = true := by
  cases r with
  | nil => exact absurd trivial h
  | cons a r => exact slideGo_yes r a h
theorem slideGo_ind {M : Part → Row → Row × Bool → Prop} (h0 : ∀ a, M a [] ([a], false)) (h1 : ∀ a b, M a [b] ([a, b], false))
    (hl : ∀ a b c C x, a.1 = 0 → c.1 = 0 → ends b.2 a.2 → M (c.1, a.2 ++ c.2) C x → M a (b :: c :: C) ((b.1, a.2 ++ b.2.take (b.2.length - a.2.length)) :: x.1, true))
    (hr : ∀ a b c C x, a.1 = 0 → c.1 = 0 → starts b.2 c.2 → M (b.1, b.2.drop c.2.length ++ c.2) C x → M a (b :: c :: C) ((a.1, a.2 ++ c.2) :: x.1, true))
    (hn : ∀ a b c C x, M b (c :: C) x → M a (b :: c :: C) (a :: x.1, x.2)) : ∀ (r : Row) (a : Part), M a r (sgo a r)
  | [], a => by rw [show sgo a [] = ([a], false) by simp [sgo]]; exact h0 a
  | [b], a => by rw [show sgo a [b] = ([a, b], false) by simp [sgo]]; exact h1 a b
  | b :: c :: C, a => by
    by_cases g : sc a b c
    · obtain ⟨g0, g1, g2⟩ := g
      by_cases q : ends b.2 a.2
      · rw [sg_l g0 g1 q]
        exact hl a b c C _ g0 g1 q (slideGo_ind h0 h1 hl hr hn C _)
      · rcases g2 with g2 | g2
        · exact absurd g2 q
        · rw [sg_r g0 g1 q g2]
          exact hr a b c C _ g0 g1 g2 (slideGo_ind h0 h1 hl hr hn C _)
    · rw [sg_n g]
      exact hn a b c C _ (slideGo_ind h0 h1 hl hr hn (c :: C) b)
theorem slide_ind {M : Row → Row × Bool → Prop} (h : M [] ([], false)) (k : ∀ r a, M (a :: r) (sgo a r)) (r : Row) : M r (slide r) := by
  cases r with
  | nil => exact h
  | cons a r => exact k r a
theorem side_slide (k : Int) (r : Row) : side k (slide r).1 = side k r := by
  refine slide_ind (M := fun r x => side k x.1 = side k r) rfl (slideGo_ind (M := fun a r x => side k x.1 = side k (a :: r)) (fun _ => rfl) (fun _ _ => rfl) ?_ ?_ ?_) r
  · rintro ⟨ka, x⟩ ⟨j, y⟩ ⟨kc, z⟩ C X h0 h1 h ih
    dsimp only at h0 h1 h ih ⊢
    subst h0; subst h1
    obtain ⟨w, rfl⟩ := ends_iff.mp h
    rw [side, ih]
    simp only [side]
    rw [List.length_append, Nat.add_sub_cancel, List.take_left' rfl]
    by_cases q : j = 0 ∨ j = k
    · simp [q]
    · simp [q]
  · rintro ⟨ka, x⟩ ⟨j, y⟩ ⟨kc, z⟩ C X h0 h1 h ih
    dsimp only at h0 h1 h ih ⊢
    subst h0; subst h1
    obtain ⟨w, rfl⟩ := starts_iff.mp h
    rw [side, ih]
    simp only [side]
    rw [List.drop_left' rfl]
    by_cases q : j = 0 ∨ j = k
    · simp [q]
    · simp [q]
  · intro a b c C X ih
    show (if a.1 = 0 ∨ a.1 = k then a.2 else []) ++ side k X.1 = (if a.1 = 0 ∨ a.1 = k then a.2 else []) ++ side k (b :: c :: C)
    rw [ih]
theorem turned_slide (r : Row) : turned (slide r).1 = turned r := by
  refine slide_ind (M := fun r x => turned x.1 = turned r) rfl (slideGo_ind (M := fun a r x => turned x.1 = turned (a :: r)) (fun _ => rfl) (fun _ _ => rfl) ?_ ?_ ?_) r
  · rintro ⟨ka, x⟩ ⟨j, y⟩ ⟨kc, z⟩ C X h0 h1 h ih
    dsimp only at h0 h1 h ih ⊢
    subst h0; subst h1
    obtain ⟨w, rfl⟩ := ends_iff.mp h
    rw [turned, ih]
    simp only [turned]
    rw [List.length_append (as := w), Nat.add_sub_cancel, List.take_left' rfl]
    by_cases q : j = 0 <;> simp [q]; exact Nat.add_comm ..
  · rintro ⟨ka, x⟩ ⟨j, y⟩ ⟨kc, z⟩ C X h0 h1 h ih
    dsimp only at h0 h1 h ih ⊢
    subst h0; subst h1
    obtain ⟨w, rfl⟩ := starts_iff.mp h
    rw [turned, ih]
    simp only [turned]
    rw [List.drop_left' rfl]
    by_cases q : j = 0 <;> simp [q]; exact Nat.add_comm ..
  · intro a b c C X ih
    show (if a.1 = 0 then 0 else a.2.length) + turned X.1 = (if a.1 = 0 then 0 else a.2.length) + turned (b :: c :: C)
    rw [ih]
theorem ne_slide {r : Row} (hN : NE r) : NE (slide r).1 := by
  refine slide_ind (M := fun r x => NE r → NE x.1) (fun h => h) (slideGo_ind (M := fun a r x => NE (a :: r) → NE x.1) (fun _ h => h) (fun _ _ h => h) ?_ ?_ ?_) r hN
  · intro a b c C x h0 h1 h ih hN
    have hb : b.2 ≠ [] := hN.tail.head
    have ha : a.2 ≠ [] := hN.head
    exact .cons (by simp [ha]) (ih (.cons (by simp [ha]) hN.tail.tail.tail))
  · intro a b c C x h0 h1 h ih hN
    have hc : c.2 ≠ [] := hN.tail.tail.head
    exact .cons (by simp [hc]) (ih (.cons (by simp [hc]) hN.tail.tail.tail))
  · intro a b c C x ih hN
    exact .cons hN.head (ih hN.tail)
theorem turned_ne : ∀ r : Row, turned (ne r) = turned r
  | [] => rfl
  | p :: r => by
    simp only [ ne_cons, turned_append, turned_ne r, turned ]
    by_cases h : p.2 = []
    · rw [if_pos h, h]; simp [turned]
    · rw [if_neg h, turned]; rfl
noncomputable def wt : List Seg → Nat
  | [] => 0
  | (o, n, _) :: l => o.length + n.length + wt l
theorem turned_run {r : Row} (h : Run r) : turned r = (cat (-1) r).length + (cat 1 r).length := by
  induction r with
  | nil => rfl
  | cons p r ih =>
    simp only [ turned, cat_cons, cat_cons, ih fun q hq => h q (List.mem_cons_of_mem _ hq), List.length_append, List.length_append ]
    rcases h p List.mem_cons_self with e | e <;> rw [e] <;> simp <;> grind
theorem segs_w : ∀ (r run : Row) (k : Tx), Run run → Kinds r → wt (segs k run r).2 = turned run + turned r
  | [], run, k, hr, _ => by
    unfold segs
    by_cases h : run = []
    · subst h; rfl
    · rw [if_neg h, turned_run hr]; rfl
  | (j, t) :: r, run, k, hr, hK => by
    unfold segs
    by_cases hj : j = 0
    · rw [if_pos hj, turned, if_pos hj, Nat.zero_add]
      by_cases h : run = []
      · subst h
        rw [if_pos rfl]
        exact segs_w r [] (k ++ t) .nil hK.tail
      · rw [if_neg h, turned_run hr]
        dsimp only
        simp only [ wt, segs_w r [] t .nil hK.tail, turned, Nat.zero_add ]
    · rw [if_neg hj, segs_w r (run ++ [(j, t)]) k (hr.snoc (kind_run hK.head hj)) hK.tail, turned_append, turned, turned, turned, Nat.add_zero, Nat.add_assoc]
theorem ro_len (o n : Tx) : (ro o n).length + (rn o n).length ≤ o.length + n.length := by
  have a := congrArg List.length (split_o o n)
  have b := congrArg List.length (split_n o n)
  rw [List.length_append, List.length_append] at a b
  lia
theorem plainGo_le : ∀ (l : List Seg) (k : Tx), turned (plainGo k l).1 ≤ wt l
  | [], k => Nat.le_refl _
  | (o, n, k') :: l, k => by
    have e : turned (plainGo k ((o, n, k') :: l)).1 = (ro o n).length + ((rn o n).length + turned (plainGo (su o n ++ k') l).1) := by
      rw [plainGo]; exact Nat.zero_add _
    simp only [ e, wt, ← Nat.add_assoc ]
    exact Nat.add_le_add (ro_len o n) (plainGo_le l _)
theorem plain_le {r : Row} (hK : Kinds r) : turned (plainR r) ≤ turned r := by
  have c := plainGo_le (segs [] [] r).2 (segs [] [] r).1
  rw [segs_w r [] [] .nil hK, turned, Nat.zero_add] at c
  unfold plainR
  rw [turned_ne]
  exact c
theorem clean_side : ∀ (n : Nat) (r : Row), Kinds r → phi r < n → Kinds (cleanN n r) ∧ ∀ k : Int, k = -1 ∨ k = 1 → side k (cleanN n r) = side k r
  | 0, r, _, h => absurd h (Nat.not_lt_zero _)
  | n + 1, r, hK, h => by
    have hM := phi_merge r
    have hk : Kinds (popE (merge r)) := kinds_popE _ (kinds_mergeGo _ _ _ .nil .nil (hK.append (.cons (.inr (.inl rfl)) .nil)))
    have hs := phi_slide (popE (merge r))
    simp only [ cleanN ]
    by_cases g : noSl (popE (merge r))
    · rw [ slide_no g ]
      exact ⟨hk, fun k hk => side_merge hk hK⟩
    · have y := slide_yes g
      rw [ if_pos y ]
      rw [if_pos y] at hs
      obtain ⟨a, e⟩ := clean_side n (slide (popE (merge r))).1 (kinds_slide hk) (Nat.lt_of_lt_of_le hs (Nat.le_trans hM (Nat.le_of_lt_succ h)))
      exact ⟨a, fun k q => by rw [e k q, side_slide, side_merge q hK]⟩
theorem clean_le : ∀ (n : Nat) (r : Row), NE r → Kinds r → phi r < n → NE (cleanN n r) ∧ turned (cleanN n r) ≤ turned (plainR r) ∧ (noSl (plainR r) → cleanN n r = plainR r)
  | 0, r, _, _, h => absurd h (Nat.not_lt_zero _)
  | n + 1, r, hN, hK, h => by
    have hM := phi_merge r
    have hs := phi_slide (popE (merge r))
    have hk : Kinds (popE (merge r)) := kinds_popE _ (kinds_mergeGo _ _ _ .nil .nil (hK.append (.cons (.inr (.inl rfl)) .nil)))
    have e := merge_is_plain hN hK
    rw [e] at hM hs hk
    have hR : NE (plainR r) := ne_ne _
    rw [ cleanN, e ]
    by_cases g : noSl (plainR r)
    · rw [ slide_no g ]
      exact ⟨hR, Nat.le_refl _, fun _ => rfl⟩
    · have y := slide_yes g
      rw [ if_pos y ]
      rw [if_pos y] at hs
      have hK' := kinds_slide hk
      obtain ⟨a, b, _⟩ := clean_le n (slide (plainR r)).1 (ne_slide hR) hK' (Nat.lt_of_lt_of_le hs (Nat.le_trans hM (Nat.le_of_lt_succ h)))
      exact ⟨a, Nat.le_trans b (Nat.le_trans (plain_le hK') (Nat.le_of_eq (turned_slide (plainR r)))), fun q => absurd q g⟩
inductive Ed : Nat → Tx → Tx → Prop
  | nil : Ed 0 [] []
  | eq {d : Nat} {a b : Tx} (c : Char) : Ed d a b → Ed d (c :: a) (c :: b)
  | del {d : Nat} {a b : Tx} (c : Char) : Ed d a b → Ed (d + 1) (c :: a) b
  | ins {d : Nat} {a b : Tx} (c : Char) : Ed d a b → Ed (d + 1) a (c :: b)
theorem Ed.append {d e : Nat} {a b a' b' : Tx} (h : Ed d a b) (k : Ed e a' b') : Ed (d + e) (a ++ a') (b ++ b') := by
  induction h with
  | nil => rw [Nat.zero_add]; exact k
  | eq c _ ih => exact .eq c ih
  | del c _ ih => rw [Nat.add_right_comm]; exact .del c ih
  | ins c _ ih => rw [Nat.add_right_comm]; exact .ins c ih
theorem Ed.rev {d : Nat} {a b : Tx} (h : Ed d a b) : Ed d a.reverse b.reverse := by
  induction h with
  | nil => exact .nil
  | eq c _ ih => rw [List.reverse_cons, List.reverse_cons]; exact ih.append (.eq c .nil)
  | @del d a b c _ ih => rw [List.reverse_cons]; have := ih.append (.del c .nil); rw [List.append_nil] at this; exact this
  | @ins d a b c _ ih => rw [List.reverse_cons]; have := ih.append (.ins c .nil); rw [List.append_nil] at this; exact this
theorem Ed.bound {d : Nat} {a b : Tx} (h : Ed d a b) : a.length ≤ b.length + d ∧ b.length ≤ a.length + d ∧ ∃ t, a.length + b.length = d + 2 * t := by
  induction h with
  | nil => exact ⟨Nat.le_refl _, Nat.le_refl _, 0, rfl⟩
  | eq c _ ih => obtain ⟨h1, h2, t, h3⟩ := ih; refine ⟨?_, ?_, t + 1, ?_⟩ <;> simp only [List.length_cons] <;> grind
  | del c _ ih => obtain ⟨h1, h2, t, h3⟩ := ih; refine ⟨?_, ?_, t, ?_⟩ <;> simp only [List.length_cons] <;> grind
  | ins c _ ih => obtain ⟨h1, h2, t, h3⟩ := ih; refine ⟨?_, ?_, t, ?_⟩ <;> simp only [List.length_cons] <;> grind
noncomputable def distC (a : Char) (f : Tx → Nat) : Tx → Nat
  | [] => f [] + 1
  | b :: bs => if a = b then f bs else min (f (b :: bs)) (distC a f bs) + 1
noncomputable def dist : Tx → Tx → Nat
  | [], b => b.length
  | a :: as, b => distC a (dist as) b
theorem dist_n0 (b : Tx) : dist [] b = b.length := rfl
theorem dist_cc (a b : Char) (as bs : Tx) : dist (a :: as) (b :: bs) = if a = b then dist as bs else min (dist as (b :: bs)) (dist (a :: as) bs) + 1 := rfl
theorem dist_nil : ∀ a : Tx, dist a [] = a.length
  | [] => rfl
  | a :: as => congrArg (· + 1) (dist_nil as)
theorem ed_nil : ∀ a : Tx, Ed a.length a []
  | [] => .nil
  | c :: a => .del c (ed_nil a)
theorem ed_nil' : ∀ a : Tx, Ed a.length [] a
  | [] => .nil
  | c :: a => .ins c (ed_nil' a)
theorem ed_dist : ∀ a b : Tx, Ed (dist a b) a b
  | [], b => ed_nil' b
  | a :: as, [] => by rw [dist_nil]; exact ed_nil (a :: as)
  | a :: as, b :: bs => by
    rw [dist_cc]
    by_cases e : a = b
    · rw [if_pos e, e]; exact .eq b (ed_dist as bs)
    · rw [if_neg e]
      rcases Nat.le_total (dist as (b :: bs)) (dist (a :: as) bs) with h | h
      · rw [Nat.min_eq_left h]; exact .del a (ed_dist as (b :: bs))
      · rw [Nat.min_eq_right h]; exact .ins b (ed_dist (a :: as) bs)
theorem Ed.dropR {d : Nat} {a b : Tx} (h : Ed d a b) : ∀ (c : Char) (bs : Tx), b = c :: bs → ∃ e, e ≤ d + 1 ∧ Ed e a bs := by
  induction h with
  | nil => intro c bs q; cases q
  | eq c h _ => intro c' bs q; cases q; exact ⟨_, Nat.le_refl _, .del c h⟩
  | ins c h _ => intro c' bs q; cases q; exact ⟨_, Nat.le_trans (Nat.le_succ _) (Nat.le_succ _), h⟩
  | del c h ih =>
    intro c' bs q
    obtain ⟨e, he, k⟩ := ih c' bs q
    exact ⟨e + 1, Nat.succ_le_succ he, .del c k⟩
theorem Ed.swap {d : Nat} {a b : Tx} (h : Ed d a b) : Ed d b a := by
  induction h with
  | nil => exact .nil
  | eq c _ ih => exact .eq c ih
  | del c _ ih => exact .ins c ih
  | ins c _ ih => exact .del c ih
theorem Ed.dropL {d : Nat} {c : Char} {as b : Tx} (h : Ed d (c :: as) b) : ∃ e, e ≤ d + 1 ∧ Ed e as b :=
  let ⟨e, he, k⟩ := h.swap.dropR c as rfl; ⟨e, he, k.swap⟩
theorem Ed.diag {d : Nat} {x y : Tx} (h : Ed d x y) : ∀ {a b : Char} {as bs : Tx}, x = a :: as → y = b :: bs → ∃ e, e ≤ d ∧ Ed e as bs := by
  cases h with
  | nil => intro _ _ _ _ q; cases q
  | eq c h => intro _ _ _ _ q1 q2; cases q1; cases q2; exact ⟨_, Nat.le_refl _, h⟩
  | del c h => intro _ _ _ _ q1 q2; cases q1; exact h.dropR _ _ q2
  | ins c h => intro _ _ _ _ q1 q2; cases q2; subst q1; exact h.dropL
theorem dist_le : ∀ (a b : Tx) {d : Nat}, Ed d a b → dist a b ≤ d
  | [], b, d, h => by have := h.bound.2.1; rw [dist_n0]; simpa using this
  | a :: as, [], d, h => by have := h.bound.1; rw [dist_nil]; simpa using this
  | a :: as, b :: bs, d, h => by
    rw [dist_cc]
    by_cases e : a = b
    · rw [if_pos e]
      obtain ⟨e, he, k⟩ := h.diag rfl rfl
      exact Nat.le_trans (dist_le as bs k) he
    · rw [if_neg e]
      cases h with
      | eq c h => exact absurd rfl e
      | del c h => exact Nat.succ_le_succ (Nat.le_trans (Nat.min_le_left ..) (dist_le as (b :: bs) h))
      | ins c h => exact Nat.succ_le_succ (Nat.le_trans (Nat.min_le_right ..) (dist_le (a :: as) bs h))
termination_by a b => a.length + b.length
theorem dist_rev (a b : Tx) : dist a.reverse b.reverse = dist a b := by
  refine Nat.le_antisymm (dist_le _ _ (ed_dist a b).rev) ?_
  have := dist_le _ _ (ed_dist a.reverse b.reverse).rev
  rw [List.reverse_reverse, List.reverse_reverse] at this; exact this
theorem dist_swap (a b : Tx) : dist a b = dist b a := Nat.le_antisymm (dist_le _ _ (ed_dist b a).swap) (dist_le _ _ (ed_dist a b).swap)
theorem dist_append (a b a' b' : Tx) : dist (a ++ a') (b ++ b') ≤ dist a b + dist a' b' := dist_le _ _ ((ed_dist a b).append (ed_dist a' b'))
theorem dist_diag (a b : Char) (as bs : Tx) : dist as bs ≤ dist (a :: as) (b :: bs) := let ⟨_, he, k⟩ := (ed_dist (a :: as) (b :: bs)).diag rfl rfl; Nat.le_trans (dist_le _ _ k) he
theorem dist_self (a : Tx) : dist a a = 0 := by
  induction a with
  | nil => rfl
  | cons c a ih => rw [dist_cc, if_pos rfl]; exact ih
theorem Ed.zero {d : Nat} {a b : Tx} (h : Ed d a b) : d = 0 → a = b := by
  induction h with
  | nil => exact fun _ => rfl
  | eq c _ ih => exact fun q => by rw [ih q]
  | del => exact fun q => nomatch q
  | ins => exact fun q => nomatch q
theorem Ed.split {d : Nat} {a b : Tx} (h : Ed d a b) : ∀ e, e ≤ d → ∃ x y, x ≤ a.length ∧ y ≤ b.length ∧ Ed e (a.take x) (b.take y) ∧ Ed (d - e) (a.drop x) (b.drop y) := by
  induction h with
  | nil => intro e he; cases Nat.le_zero.mp he; exact ⟨0, 0, Nat.le_refl _, Nat.le_refl _, .nil, .nil⟩
  | eq c h ih =>
    intro e he
    refine bc fun z9 => ?_
    obtain ⟨x, y, h1, h2, h3, h4⟩ := ih e he
    refine z9 ?_
    exact ⟨x + 1, y + 1, Nat.succ_le_succ h1, Nat.succ_le_succ h2, .eq c h3, h4⟩
  | del c h ih =>
    intro e he
    cases e with
    | zero => exact ⟨0, 0, Nat.zero_le _, Nat.zero_le _, .nil, .del c h⟩
    | succ e =>
      refine bc fun z9 => ?_
      obtain ⟨x, y, h1, h2, h3, h4⟩ := ih e (Nat.le_of_succ_le_succ he)
      refine z9 ?_
      exact ⟨x + 1, y, Nat.succ_le_succ h1, h2, .del c h3, by rw [Nat.succ_sub_succ]; exact h4⟩
  | ins c h ih =>
    intro e he
    cases e with
    | zero => exact ⟨0, 0, Nat.zero_le _, Nat.zero_le _, .nil, .ins c h⟩
    | succ e =>
      refine bc fun z9 => ?_
      obtain ⟨x, y, h1, h2, h3, h4⟩ := ih e (Nat.le_of_succ_le_succ he)
      refine z9 ?_
      exact ⟨x, y + 1, h1, Nat.succ_le_succ h2, .ins c h3, by rw [Nat.succ_sub_succ]; exact h4⟩
noncomputable def EE (a b : Tx) (x y : Nat) : Nat := dist (a.take x) (b.take y) + (x - a.length) + (y - b.length)
noncomputable def RR (a b : Tx) (x y : Nat) : Nat := dist (a.drop x) (b.drop y)
theorem take_succ {a : Tx} {x : Nat} (h : x < a.length) : a.take (x + 1) = a.take x ++ [a[x]] := by rw [List.take_add_one, List.getElem?_eq_getElem h]; rfl
theorem dist_one_nil (c : Char) : dist [c] [] = 1 := dist_nil [c]
theorem EE_right (a b : Tx) (x y : Nat) : EE a b (x + 1) y ≤ EE a b x y + 1 := by
  unfold EE
  by_cases h : x < a.length
  · have := dist_append (a.take x) (b.take y) [a[x]] []
    rw [← take_succ h, List.append_nil, dist_one_nil] at this
    rw [ Nat.sub_eq_zero_of_le h, Nat.sub_eq_zero_of_le (Nat.le_of_lt h) ]
    clear h
    lia
  · rw [ List.take_of_length_le (Nat.le_succ_of_le (Nat.le_of_not_lt h) : a.length ≤ x + 1), List.take_of_length_le (Nat.le_of_not_lt h), Nat.succ_sub (Nat.le_of_not_lt h) ]
    clear h
    lia
theorem EE_swap (a b : Tx) (x y : Nat) : EE a b x y = EE b a y x := by unfold EE; rw [dist_swap]; lia
theorem EE_down (a b : Tx) (x y : Nat) : EE a b x (y + 1) ≤ EE a b x y + 1 := by rw [EE_swap, EE_swap a b x y]; exact EE_right b a y x
theorem EE_snake {a b : Tx} {x y : Nat} (h1 : x < a.length) (h2 : y < b.length) (e : a[x] = b[y]) : EE a b (x + 1) (y + 1) ≤ EE a b x y := by
  unfold EE
  have := dist_append (a.take x) (b.take y) [a[x]] [b[y]]
  rw [← take_succ h1, ← take_succ h2, e, dist_self] at this
  rw [ Nat.sub_eq_zero_of_le h1, Nat.sub_eq_zero_of_le (Nat.le_of_lt h1), Nat.sub_eq_zero_of_le h2, Nat.sub_eq_zero_of_le (Nat.le_of_lt h2) ]
  exact this
theorem min_sub (x n : Nat) : min x n + (x - n) = x := by lia
theorem EE_par (a b : Tx) (x y : Nat) : ∃ t, x + y = EE a b x y + 2 * t := by
  obtain ⟨_, _, t, h⟩ := (ed_dist (a.take x) (b.take y)).bound
  rw [List.length_take, List.length_take] at h
  refine ⟨t, ?_⟩
  unfold EE
  have p := min_sub x a.length
  have q := min_sub y b.length
  generalize dist (a.take x) (b.take y) = D at *
  generalize min x a.length = i at *
  generalize min y b.length = j at *
  generalize x - a.length = u at *
  generalize y - b.length = v at *
  lia
theorem EE_in {a b : Tx} {x y : Nat} (h1 : x ≤ a.length) (h2 : y ≤ b.length) : EE a b x y = dist (a.take x) (b.take y) := by unfold EE; rw [ Nat.sub_eq_zero_of_le h1, Nat.sub_eq_zero_of_le h2 ]; rfl
theorem EE_diag (a b : Tx) (x y : Nat) : x ≤ y + EE a b x y ∧ y ≤ x + EE a b x y := by
  obtain ⟨h1, h2, _⟩ := (ed_dist (a.take x) (b.take y)).bound
  rw [List.length_take, List.length_take] at h1 h2
  unfold EE
  have p := min_sub x a.length
  have q := min_sub y b.length
  generalize dist (a.take x) (b.take y) = D at *
  generalize min x a.length = i at *
  generalize min y b.length = j at *
  generalize x - a.length = u at *
  generalize y - b.length = v at *
  constructor <;> lia
theorem EE_all (a b : Tx) : EE a b a.length b.length = dist a b := by rw [EE_in (Nat.le_refl _) (Nat.le_refl _), List.take_length, List.take_length]
theorem EE_offR {a b : Tx} {x y : Nat} (h1 : a.length < x) (h2 : y ≤ b.length) : dist a b + x + y ≤ EE a b x y + a.length + b.length := by
  have h := dist_append a (b.take y) [] (b.drop y)
  rw [List.append_nil, List.take_append_drop] at h
  have e : dist [] (b.drop y) = b.length - y := List.length_drop
  rw [e] at h
  unfold EE
  rw [ List.take_of_length_le (Nat.le_of_lt h1) ]
  grind
theorem EE_offB {a b : Tx} {x y : Nat} (h1 : x ≤ a.length) (h2 : b.length < y) : dist a b + x + y ≤ EE a b x y + a.length + b.length := by
  have := EE_offR (a := b) (b := a) h2 h1
  rw [dist_swap, EE_swap] at this; lia
theorem EE_off2 {a b : Tx} {x y : Nat} (h1 : a.length < x) (h2 : b.length < y) : dist a b + 2 ≤ EE a b x y := by
  unfold EE
  rw [List.take_of_length_le (Nat.le_of_lt h1), List.take_of_length_le (Nat.le_of_lt h2)]; lia
theorem tri {a b : Tx} {x y : Nat} (h1 : x ≤ a.length) (h2 : y ≤ b.length) : dist a b ≤ EE a b x y + RR a b x y := by
  have := dist_append (a.take x) (b.take y) (a.drop x) (b.drop y)
  rw [List.take_append_drop, List.take_append_drop] at this
  rw [ EE_in h1 h2 ]; exact this
theorem RR_left {a b : Tx} {x y : Nat} (h : x < a.length) : RR a b x y ≤ RR a b (x + 1) y + 1 := by
  unfold RR
  have := dist_append [a[x]] [] (a.drop (x + 1)) (b.drop y)
  rw [dist_one_nil] at this
  rw [List.drop_eq_getElem_cons h]
  exact Nat.le_trans this (Nat.le_of_eq (Nat.add_comm ..))
theorem RR_swap (a b : Tx) (x y : Nat) : RR a b x y = RR b a y x := dist_swap _ _
theorem RR_up {a b : Tx} {x y : Nat} (h : y < b.length) : RR a b x y ≤ RR a b x (y + 1) + 1 := by rw [RR_swap, RR_swap a b x]; exact RR_left h
theorem RR_back {a b : Tx} {x y : Nat} (h1 : x < a.length) (h2 : y < b.length) (e : a[x] = b[y]) : RR a b x y ≤ RR a b (x + 1) (y + 1) := by
  unfold RR
  have := dist_append [a[x]] [b[y]] (a.drop (x + 1)) (b.drop (y + 1))
  rw [e, dist_self, Nat.zero_add] at this
  rw [List.drop_eq_getElem_cons h1, List.drop_eq_getElem_cons h2, e]
  exact this
theorem RR_fwd (a b : Tx) {x y : Nat} (h1 : x < a.length) (h2 : y < b.length) : RR a b (x + 1) (y + 1) ≤ RR a b x y := by
  unfold RR
  rw [List.drop_eq_getElem_cons h1, List.drop_eq_getElem_cons h2]
  exact dist_diag _ _ _ _
theorem RR_fwds (a b : Tx) {x y : Nat} : ∀ t : Nat, x + t ≤ a.length → y + t ≤ b.length → RR a b (x + t) (y + t) ≤ RR a b x y
  | 0, _, _ => Nat.le_refl _
  | t + 1, h1, h2 => Nat.le_trans (RR_fwd a b (x := x + t) (y := y + t) (by trivial) (by trivial)) (RR_fwds a b t (by exact Nat.le_of_lt ‹_›) (by lia))
theorem RR_bound {a b : Tx} {x y : Nat} (h1 : x ≤ a.length) (h2 : y ≤ b.length) : a.length + y ≤ b.length + x + RR a b x y ∧ b.length + x ≤ a.length + y + RR a b x y := by
  obtain ⟨h3, h4, _⟩ := (ed_dist (a.drop x) (b.drop y)).bound
  rw [List.length_drop, List.length_drop] at h3 h4
  unfold RR
  generalize dist (a.drop x) (b.drop y) = D at *
  obtain ⟨u, hu⟩ : ∃ u, a.length = x + u := ⟨_, (Nat.add_sub_cancel' h1).symm⟩
  obtain ⟨v, hv⟩ : ∃ v, b.length = y + v := ⟨_, (Nat.add_sub_cancel' h2).symm⟩
  rw [hu, hv, Nat.add_sub_cancel_left, Nat.add_sub_cancel_left] at h3 h4
  rw [hu, hv]
  clear hu hv h1 h2
  constructor <;> lia
theorem ed_heads {d : Nat} {c e : Char} {u v : Tx} (k : Ed d (c :: u) (e :: v)) : (c = e ∧ ∃ d', d' ≤ d ∧ Ed d' u v) ∨ (∃ d', d = d' + 1 ∧ Ed d' u (e :: v)) ∨ (∃ d', d = d' + 1 ∧ Ed d' (c :: u) v) := by
  cases k with
  | eq _ k => exact .inl ⟨rfl, _, Nat.le_refl _, k⟩
  | del _ k => exact .inr (.inl ⟨_, rfl, k⟩)
  | ins _ k => exact .inr (.inr ⟨_, rfl, k⟩)
theorem EE_from {a b : Tx} : ∀ {x y : Nat}, x ≤ a.length → y ≤ b.length → (x = 0 ∧ y = 0) ∨
    (∃ x' y', x = x' + 1 ∧ y = y' + 1 ∧ ∃ (h1 : x' < a.length) (h2 : y' < b.length), a[x'] = b[y'] ∧ EE a b x' y' ≤ EE a b x y) ∨ (∃ x', x = x' + 1 ∧ EE a b x' y + 1 ≤ EE a b x y) ∨ (∃ y', y = y' + 1 ∧ EE a b x y' + 1 ≤ EE a b x y)
  | 0, 0, _, _ => .inl ⟨rfl, rfl⟩
  | 0, y + 1, h1, h2 => .inr (.inr (.inr ⟨y, rfl, by
      simp only [ EE_in h1 h2, EE_in h1 (Nat.le_of_succ_le h2), List.take_zero ]
      simp only [ dist_n0, dist_n0, List.length_take, List.length_take ]; lia⟩))
  | x + 1, 0, h1, h2 => .inr (.inr (.inl ⟨x, rfl, by
      simp only [ EE_in h1 h2, EE_in (Nat.le_of_succ_le h1) h2, List.take_zero, dist_nil, dist_nil, List.length_take, List.length_take ]; lia⟩))
  | x + 1, y + 1, h1, h2 => by
    have k := (ed_dist (a.take (x + 1)) (b.take (y + 1))).rev
    rw [← EE_in h1 h2, take_succ h1, take_succ h2, List.reverse_append, List.reverse_append] at k
    replace k : Ed _ (a[x] :: (a.take x).reverse) (b[y] :: (b.take y).reverse) := k
    rcases ed_heads k with ⟨e, d', hd, k⟩ | ⟨d', hd, k⟩ | ⟨d', hd, k⟩
    · refine .inr (.inl ⟨x, y, rfl, rfl, h1, h2, e, ?_⟩)
      have := dist_le _ _ k
      rw [dist_rev] at this
      rw [ EE_in (Nat.le_of_lt h1) (Nat.le_of_lt h2) ]
      exact Nat.le_trans this hd
    · refine .inr (.inr (.inl ⟨x, rfl, ?_⟩))
      have := dist_le _ _ k.rev
      rw [List.reverse_cons, List.reverse_reverse, List.reverse_reverse, ← take_succ h2] at this
      rw [ hd, EE_in (Nat.le_of_lt h1) h2 ]
      exact Nat.succ_le_succ this
    · refine .inr (.inr (.inr ⟨y, rfl, ?_⟩))
      have := dist_le _ _ k.rev
      rw [List.reverse_cons, List.reverse_reverse, List.reverse_reverse, ← take_succ h1] at this
      rw [ hd, EE_in h1 (Nat.le_of_lt h2) ]
      exact Nat.succ_le_succ this
theorem mid {a b : Tx} {e : Nat} (h : e ≤ dist a b) : ∃ x y, x ≤ a.length ∧ y ≤ b.length ∧ EE a b x y ≤ e ∧ RR a b x y ≤ dist a b - e := by
  refine bc fun z9 => ?_
  obtain ⟨x, y, h1, h2, h3, h4⟩ := (ed_dist a b).split e h
  refine z9 ?_
  exact ⟨x, y, h1, h2, by rw [EE_in h1 h2]; exact dist_le _ _ h3, dist_le _ _ h4⟩
theorem EE_rev {a b : Tx} {x y : Nat} (h1 : x ≤ a.length) (h2 : y ≤ b.length) : EE a.reverse b.reverse x y = RR a b (a.length - x) (b.length - y) := by
  rw [EE_in (by rw [List.length_reverse]; exact h1) (by rw [List.length_reverse]; exact h2)]
  unfold RR
  rw [← dist_rev, List.reverse_take, List.reverse_take, List.reverse_reverse, List.reverse_reverse, List.length_reverse, List.length_reverse]
theorem RR_rev {a b : Tx} {x y : Nat} (h1 : x ≤ a.length) (h2 : y ≤ b.length) : RR a.reverse b.reverse x y = EE a b (a.length - x) (b.length - y) := by
  rw [EE_in (Nat.sub_le ..) (Nat.sub_le ..)]
  unfold RR
  rw [List.drop_reverse, List.drop_reverse, dist_rev]
noncomputable def Gd (a b : Tx) (d : Nat) (k v : Int) : Prop := ∃ x y : Nat, v = x ∧ k = (x : Int) - y ∧ EE a b x y ≤ d
theorem Gd.mono {a b : Tx} {d e : Nat} {k v : Int} (h : Gd a b d k v) (q : d ≤ e) : Gd a b e k v := let ⟨x, y, h1, h2, h3⟩ := h; ⟨x, y, h1, h2, Nat.le_trans h3 q⟩
theorem Gd.less {a b : Tx} {d : Nat} {k v : Int} (h : Gd a b (d + 1) k v) (q : (k - d) % 2 = 0) : Gd a b d k v := by
  obtain ⟨x, y, h1, h2, h3⟩ := h
  obtain ⟨t, ht⟩ := EE_par a b x y
  exact ⟨x, y, h1, h2, by grind⟩
noncomputable def Snd (a b : Tx) (d : Nat) (p : Int) (f : Int → Int) : Prop := ∀ k, f k = -1 ∨ Gd a b d k (f k) ∨ (k = 1 ∧ (d = 0 ∨ (d = 1 ∧ p ≤ 1)))
noncomputable def Fu (a b : Tx) (d : Nat) (f : Int → Int) : Prop := ∀ x y : Nat, x ≤ a.length → y ≤ b.length → EE a b x y ≤ d → d + RR a b x y ≤ dist a b → (x : Int) ≤ f ((x : Int) - y)
noncomputable def up (f : Int → Int) (k v : Int) : Int → Int := fun j => if j = k then v else f j
theorem up_self (f : Int → Int) (k v : Int) : up f k v k = v := if_pos rfl
theorem up_ne (f : Int → Int) {k j : Int} (v : Int) (h : j ≠ k) : up f k v j = f j := if_neg h
noncomputable def pick (d : Nat) (k : Int) (f : Int → Int) : Int := if k = -(d : Int) ∨ (k ≠ d ∧ f (k - 1) < f (k + 1)) then f (k + 1) else f (k - 1) + 1
structure Snake (a b : Tx) (x y : Nat) (x1 y1 : Nat) : Prop where
  same : (x1 : Int) - y1 = (x : Int) - y
  le : x ≤ x1
  cost : EE a b x1 y1 ≤ EE a b x y
  stop : ∀ (h1 : x1 < a.length) (h2 : y1 < b.length), a[x1] ≠ b[y1]
theorem pick_good {a b : Tx} {d : Nat} {k : Int} {f : Int → Int} (hk : (k - (d + 1 : Nat)) % 2 = 0) (h1 : k ≠ -(d + 1 : Nat) → f (k - 1) = -1 ∨ Gd a b (d + 1) (k - 1) (f (k - 1))) (h2 : k ≠ (d + 1 : Nat) → f (k + 1) = -1 ∨ Gd a b (d + 1) (k + 1) (f (k + 1)))
    (a1 : k = -(d + 1 : Nat) → f (k + 1) ≠ -1) (a2 : k = (d + 1 : Nat) → f (k - 1) ≠ -1) (a3 : f (k - 1) ≠ -1 ∨ f (k + 1) ≠ -1) :
    ∃ x y : Nat, pick (d + 1) k f = x ∧ k = (x : Int) - y ∧ EE a b x y ≤ d + 1 ∧ (k ≠ -(d + 1 : Nat) → f (k - 1) + 1 ≤ x) ∧ (k ≠ (d + 1 : Nat) → f (k + 1) ≤ x) := by
  have up1 : Gd a b (d + 1) (k + 1) (f (k + 1)) → ∃ x y : Nat, f (k + 1) = x ∧ k = (x : Int) - y ∧ EE a b x y ≤ d + 1 := fun g => by
    refine bc fun z9 => ?_
    obtain ⟨x, y, e1, e2, e3⟩ := g.less (by grind)
    refine z9 ?_
    exact ⟨x, y + 1, e1, by lia, Nat.le_trans (EE_down a b x y) (Nat.succ_le_succ e3)⟩
  have up2 : Gd a b (d + 1) (k - 1) (f (k - 1)) → ∃ x y : Nat, f (k - 1) + 1 = x ∧ k = (x : Int) - y ∧ EE a b x y ≤ d + 1 := fun g => by
    refine bc fun z9 => ?_
    obtain ⟨x, y, e1, e2, e3⟩ := g.less (by lia)
    refine z9 ?_
    exact ⟨x + 1, y, by lia, by lia, Nat.le_trans (EE_right a b x y) (Nat.succ_le_succ e3)⟩
  have nn1 : ∀ {j : Int}, f j = -1 ∨ Gd a b (d + 1) j (f j) → -1 ≤ f j := fun q => by
    rcases q with q | ⟨x, _, e, _⟩ <;> grind
  unfold pick
  by_cases c1 : k = -((d + 1 : Nat) : Int)
  · rw [if_pos (.inl c1)]
    refine bc fun z9 => ?_
    obtain ⟨x, y, e1, e2, e3⟩ := up1 ((h2 (by (clear hk; omega))).resolve_left (a1 c1))
    refine z9 ?_
    exact ⟨x, y, e1, e2, e3, fun q => absurd c1 q, fun _ => by grind⟩
  · by_cases c2 : k = ((d + 1 : Nat) : Int)
    · rw [if_neg (by rintro (q | q); exact c1 q; exact q.1 c2)]
      refine bc fun z9 => ?_
      obtain ⟨x, y, e1, e2, e3⟩ := up2 ((h1 c1).resolve_left (a2 c2))
      refine z9 ?_
      exact ⟨x, y, e1, e2, e3, fun _ => by (clear hk h1 h2 a1 a2 a3 c1 c2 e2 e3; omega), fun q => absurd c2 q⟩
    · have n1 := nn1 (h1 c1)
      have n2 := nn1 (h2 c2)
      by_cases c3 : f (k - 1) < f (k + 1)
      · rw [if_pos (.inr ⟨c2, c3⟩)]
        refine bc fun z9 => ?_
        obtain ⟨x, y, e1, e2, e3⟩ := up1 ((h2 c2).resolve_left (by (clear hk h1 h2 a1 a2 c1 c2 n2; omega)))
        refine z9 ?_
        exact ⟨x, y, e1, e2, e3, fun _ => by (clear hk h1 h2 a1 a2 a3 c1 c2 n1 n2 e2 e3; omega), fun _ => by grind⟩
      · rw [if_neg (by rintro (q | q); exact c1 q; exact c3 q.2)]
        refine bc fun z9 => ?_
        obtain ⟨x, y, e1, e2, e3⟩ := up2 ((h1 c1).resolve_left (by rcases a3 with q | q; exact q; grind))
        refine z9 ?_
        exact ⟨x, y, e1, e2, e3, fun _ => by grind, fun _ => by (clear hk h1 h2 a1 a2 a3 c1 c2 n1 n2 e2 e3; omega)⟩
theorem reachL {a b : Tx} {e x y : Nat} {f : Int → Int} {x1 : Nat} (hf : Fu a b e f) (hx : x + 1 ≤ a.length) (hy : y ≤ b.length) (c : EE a b x y + 1 ≤ EE a b (x + 1) y) (he : EE a b (x + 1) y ≤ e + 1) (hr : e + 1 + RR a b (x + 1) y ≤ dist a b)
    (h : (x : Int) + 1 - y ≠ -((e + 1 : Nat) : Int) → f ((x : Int) - y) + 1 ≤ x1) : x + 1 ≤ x1 := by
  have hR := RR_left (b := b) (y := y) hx
  have c' := Nat.le_of_succ_le_succ (Nat.le_trans c he)
  have q := hf x y (Nat.le_of_succ_le hx) hy c' (by grind)
  have hb := (EE_diag a b x y).2
  have := h (by (clear hx; lia))
  lia
theorem reachU {a b : Tx} {e x y : Nat} {f : Int → Int} {x1 : Nat} (hf : Fu a b e f) (hx : x ≤ a.length) (hy : y + 1 ≤ b.length) (c : EE a b x y + 1 ≤ EE a b x (y + 1)) (he : EE a b x (y + 1) ≤ e + 1) (hr : e + 1 + RR a b x (y + 1) ≤ dist a b)
    (h : (x : Int) - (y + 1 : Nat) ≠ ((e + 1 : Nat) : Int) → f ((x : Int) - y) ≤ x1) : x ≤ x1 := by
  have hR := RR_up (a := a) (x := x) hy
  have c' := Nat.le_of_succ_le_succ (Nat.le_trans c he)
  have q := hf x y hx (Nat.le_of_succ_le hy) c' (by grind)
  have hb := (EE_diag a b x y).1
  have := h (by grind)
  lia
theorem reachD {a b : Tx} {x0 y0 x1 y1 x y : Nat} (hs : Snake a b x0 y0 x1 y1) (hk : (x : Int) - y = (x0 : Int) - y0) (g1 : x < a.length) (g2 : y < b.length) (e : a[x] = b[y]) (ih : x ≤ x1) : x + 1 ≤ x1 := by
  rcases Nat.lt_or_eq_of_le ih with q | rfl
  · exact q
  · have := hs.same
    have q2 : y = y1 := by grind
    subst q2
    exact absurd e (hs.stop g1 g2)
theorem reach {a b : Tx} {d : Nat} {k : Int} {f : Int → Int} {x0 y0 x1 y1 : Nat} (hs : Snake a b x0 y0 x1 y1) (hk : k = (x0 : Int) - y0)
    (hf : ∀ e, d = e + 1 → Fu a b e f) (h1 : 0 < d → k ≠ -(d : Int) → f (k - 1) + 1 ≤ x0) (h2 : 0 < d → k ≠ d → f (k + 1) ≤ x0) (x : Nat) :
    ∀ y : Nat, x ≤ a.length → y ≤ b.length → (x : Int) - y = k → EE a b x y ≤ d → d + RR a b x y ≤ dist a b → x ≤ x1 := by
  have h01 : (x0 : Int) ≤ x1 := Int.ofNat_le.mpr hs.le
  have up : ∀ {x y : Nat}, x ≤ a.length → y + 1 ≤ b.length → (x : Int) - (y + 1 : Nat) = k → EE a b x y + 1 ≤ EE a b x (y + 1) → EE a b x (y + 1) ≤ d → d + RR a b x (y + 1) ≤ dist a b → x ≤ x1 := fun {x y} hx hy hxy c he hr => by
    cases d with
    | zero => exact absurd (Nat.le_trans c he) (Nat.not_succ_le_zero _)
    | succ e =>
      refine reachU (hf e rfl) hx hy c he hr fun q => Int.le_trans ?_ h01
      have := h2 (Nat.succ_pos _) (hxy ▸ q)
      rwa [show k + 1 = (x : Int) - y by (clear hk; grind)] at this
  induction x with
  | zero => exact fun _ _ _ _ _ _ => Nat.zero_le _
  | succ x ih =>
    intro y hx hy hxy he hr
    rcases EE_from hx hy with ⟨q, _⟩ | ⟨x', y', q, rfl, g1, g2, e, c⟩ | ⟨x', q, c⟩ | ⟨y', rfl, c⟩
    · cases q
    · cases q
      exact reachD hs (by rw [← hk, ← hxy]; grind) g1 g2 e (ih y' (Nat.le_of_lt g1) (Nat.le_of_lt g2) (by lia) (Nat.le_trans c he) (Nat.le_trans (Nat.add_le_add_left (RR_back g1 g2 e) d) hr))
    · cases q
      cases d with
      | zero => exact absurd (Nat.le_trans c he) (Nat.not_succ_le_zero _)
      | succ e =>
        refine reachL (hf e rfl) hx hy c he hr fun q => Int.le_trans ?_ h01
        have := h1 (Nat.succ_pos _) (by (clear hk hx; lia))
        rwa [show k - 1 = (x : Int) - y by (clear hk h01 hx hy c h1 h2 he hr q this; grind)] at this
    · exact up hx hy hxy c he hr
structure Pre (a b : Tx) (d : Nat) (f : Int → Int) (ks ke : Nat) : Prop where
  ev : ks % 2 = 0 ∧ ke % 2 = 0
  ti : ∀ k : Int, (k - d) % 2 = 0 → (d : Int) - ke < k → k ≤ d → (dist a b : Int) + (a.length - b.length) + 2 ≤ d + k
  bi : ∀ k : Int, (k - d) % 2 = 0 → k < -(d : Int) + ks → -(d : Int) ≤ k → (dist a b : Int) - (a.length - b.length) + 2 ≤ d - k
  z : d = 0 → f 1 = 0 ∧ (∀ k, k ≠ 1 → f k = -1)
  lo : d ≤ 1 → ks = 0 ∧ ke = 0
  s : ∀ e, d = e + 1 → (∀ k, f k = -1 ∨ Gd a b e k (f k) ∨ (k = 1 ∧ e = 0)) ∧ Fu a b e f ∧ ∃ lo hi : Int, lo ≤ hi ∧ (lo - e) % 2 = 0 ∧ (hi - e) % 2 = 0 ∧ lo - 1 ≤ -(d : Int) + ks ∧ (d : Int) - ke ≤ hi + 1 ∧
    (ks = 0 → lo = -(e : Int)) ∧ (ke = 0 → hi = e) ∧ ∀ k, lo ≤ k → k ≤ hi → (k - e) % 2 = 0 → f k ≠ -1
structure Sw (a b : Tx) (d : Nat) (f0 : Int → Int) (ks0 ke0 : Nat) (p : Int) (f : Int → Int) (ks ke : Nat) : Prop where
  par : (p - d) % 2 = 0
  lo : -(d : Int) + ks0 ≤ p
  old : ∀ k, (p ≤ k ∨ (k - d) % 2 ≠ 0) → f k = f0 k
  snd : Snd a b d p f
  cmp : ∀ k, -(d : Int) + ks0 ≤ k → k < p → (k - d) % 2 = 0 → f k ≠ -1
  fu : ∀ x y : Nat, x ≤ a.length → y ≤ b.length → EE a b x y ≤ d → d + RR a b x y ≤ dist a b → -(d : Int) + ks0 ≤ (x : Int) - y → (x : Int) - y < p → ((x : Int) - y - d) % 2 = 0 → (x : Int) ≤ f ((x : Int) - y)
  top : ∃ r : Nat, ke = ke0 + 2 * r ∧ (0 < r → (dist a b : Int) + (a.length - b.length) + 2 ≤ d + (p - 2 * r))
  bot : ∃ r : Nat, ks = ks0 + 2 * r ∧ -(d : Int) + ks0 + 2 * r ≤ p ∧ (0 < r → (dist a b : Int) - (a.length - b.length) + 2 ≤ d - (-(d : Int) + ks0 + 2 * r - 2))
theorem Pre.snd0 {a b : Tx} {d : Nat} {f : Int → Int} {ks ke : Nat} (P : Pre a b d f ks ke) : Snd a b d (-(d : Int) + ks) f := fun k => by
  cases d with
  | zero =>
    obtain ⟨h1, h2⟩ := P.z rfl
    by_cases q : k = 1
    · exact .inr (.inr ⟨q, .inl rfl⟩)
    · exact .inl (h2 k q)
  | succ e =>
    rcases (P.s e rfl).1 k with q | q | ⟨q, rfl⟩
    · exact .inl q
    · exact .inr (.inl (q.mono (Nat.le_succ e)))
    · exact .inr (.inr ⟨q, .inr ⟨rfl, by have := P.lo (Nat.le_refl _); grind⟩⟩)
theorem Sw.start {a b : Tx} {d : Nat} {f : Int → Int} {ks ke : Nat} (P : Pre a b d f ks ke) : Sw a b d f ks ke (-(d : Int) + ks) f ks ke where
  par := by have := P.ev; grind
  lo := Int.le_refl _
  old := fun _ _ => rfl
  snd := P.snd0
  cmp := fun k h1 h2 => absurd h2 (Int.not_lt.mpr h1)
  fu := fun x y _ _ _ _ h1 h2 _ => absurd h2 (Int.not_lt.mpr h1)
  top := ⟨0, rfl, fun h => absurd h (Nat.lt_irrefl _)⟩
  bot := ⟨0, rfl, by grind, fun h => absurd h (Nat.lt_irrefl _)⟩
theorem Sw.pick {a b : Tx} {d : Nat} {f0 f : Int → Int} {ks0 ke0 ks ke : Nat} {p : Int} (P : Pre a b d f0 ks0 ke0) (S : Sw a b d f0 ks0 ke0 p f ks ke) (hp : p ≤ (d : Int) - ke0) :
    ∃ x y : Nat, Mine.Internal.pick d p f = x ∧ p = (x : Int) - y ∧ EE a b x y ≤ d ∧ (0 < d → p ≠ -(d : Int) → f0 (p - 1) + 1 ≤ x) ∧ (0 < d → p ≠ d → f0 (p + 1) ≤ x) := by
  have hpar := S.par
  have hlo := S.lo
  have o1 : f (p + 1) = f0 (p + 1) := S.old _ (.inl (by grind))
  have o2 : f (p - 1) = f0 (p - 1) := S.old _ (.inr (by (clear hp hlo o1; omega)))
  cases d with
  | zero =>
    have := P.lo (Nat.zero_le _)
    have hp0 : p = 0 := by (clear o1 o2 hpar this; grind)
    subst hp0
    refine ⟨0, 0, ?_, rfl, ?_, fun h => absurd h (Nat.lt_irrefl _), fun h => absurd h (Nat.lt_irrefl _)⟩
    · unfold Mine.Internal.pick
      rw [if_pos (.inl rfl), o1]; exact (P.z rfl).1
    · rw [ EE_in (Nat.zero_le _) (Nat.zero_le _) ]; exact Nat.le_of_eq (dist_self [])
  | succ e =>
    refine bc fun z9 => ?_
    obtain ⟨q1, q2, lo, hi, g1, g2, g3, g4, g5, g6, g7, g8⟩ := P.s e rfl
    refine z9 ?_
    have gd : ∀ j, (j = p - 1 ∨ j = p + 1) → f0 j = -1 ∨ Gd a b (e + 1) j (f0 j) := fun j hj => by
      rcases q1 j with q | q | ⟨q, rfl⟩
      · exact .inl q
      · exact .inr (q.mono (Nat.le_succ e))
      · have := P.lo (Nat.le_refl _)
        exfalso; (clear o1 o2 g1 hp hlo g2 g3 g4 g5 g6 g7 this; omega)
    have := pick_good (a := a) (b := b) (d := e) (k := p) (f := f) hpar (fun _ => by rw [ o2 ]; exact gd _ (.inl rfl)) (fun _ => by rw [ o1 ]; exact gd _ (.inr rfl))
      (fun h => by rw [ o1 ]; exact g8 _ (by (clear o1 o2 hp hpar g1 g2 g3 g5 g6 g7 h; omega)) (by have := g6 (by (clear o1 o2 hp hpar g1 g3 g4 g5 g6 g7; grind)); (clear o1 o2 hp hpar hlo g2 g3 g4 g5 g6 g7; omega)) (by (clear o1 o2 hp hlo g1 g2 g3 g4 g5 g6 g7 h; lia)))
      (fun h => by rw [ o2 ]; exact g8 _ (by have := g7 (by (clear o1 o2 hpar hlo g1 g2 g3 g4 g5 g6 g7; omega)); (clear o1 o2 hp hpar hlo g2 g3 g4 g5 g6 g7; omega)) (by (clear o1 o2 hpar hlo g1 g2 g3 g4 g6 g7 h; omega)) (by lia))
      (by
        rw [ o1, o2 ]
        by_cases c : lo ≤ p - 1
        · exact .inl (g8 _ c (by (clear o1 o2 hpar hlo g1 g2 g3 g4 g6 g7 c; omega)) (by lia))
        · exact .inr (g8 _ (by (clear o1 o2 hp hpar g1 g2 g3 g5 g6 g7 c; omega)) (by (clear o1 o2 hp hlo g2 g4 g5 g6 g7; omega)) (by grind)))
    refine bc fun z9 => ?_
    obtain ⟨x, y, e1, e2, e3, e4, e5⟩ := this
    refine z9 ?_
    rw [o1] at e5
    rw [o2] at e4
    exact ⟨x, y, e1, e2, e3, fun _ => e4, fun _ => e5⟩
noncomputable def ke' (a : Tx) (x1 ke : Nat) : Nat := if a.length < x1 then ke + 2 else ke
noncomputable def ks' (a b : Tx) (x1 y1 ks : Nat) : Nat := if a.length < x1 then ks else if b.length < y1 then ks + 2 else ks
theorem Sw.turn {a b : Tx} {d : Nat} {f0 f : Int → Int} {ks0 ke0 ks ke : Nat} {p : Int} {x y x1 y1 : Nat} (P : Pre a b d f0 ks0 ke0) (hD : 2 * d ≤ dist a b + 1) (S : Sw a b d f0 ks0 ke0 p f ks ke)
    (e2 : p = (x : Int) - y) (e3 : EE a b x y ≤ d) (e4 : 0 < d → p ≠ -(d : Int) → f0 (p - 1) + 1 ≤ x) (e5 : 0 < d → p ≠ d → f0 (p + 1) ≤ x) (hs : Snake a b x y x1 y1) :
    Sw a b d f0 ks0 ke0 (p + 2) (up f p x1) (ks' a b x1 y1 ks) (ke' a x1 ke) where
  par := by have := S.par; (clear e2; grind)
  lo := by have := S.lo; (clear hD e2 e3 e4 e5; lia)
  old := fun k h => by
    have hpar := S.par
    have : k ≠ p := by (clear hD e3 e4 e5; lia)
    rw [ up_ne _ _ this ]; exact S.old k (by (clear hD e2 e3 e4 e5 hpar this; lia))
  snd := fun k => by
    by_cases q : k = p
    · subst q
      rw [up_self]
      exact .inr (.inl ⟨x1, y1, rfl, by have := hs.same; grind, Nat.le_trans hs.cost e3⟩)
    · rw [ up_ne _ _ q ]
      rcases S.snd k with h | h | ⟨rfl, h⟩
      · exact .inl h
      · exact .inr (.inl h)
      · refine .inr (.inr ⟨rfl, ?_⟩)
        have hpar := S.par
        (clear hD e2 e3 e4 e5; grind)
  cmp := fun k h1 h2 h3 => by
    by_cases q : k = p
    · subst q; rw [up_self]; grind
    · rw [ up_ne _ _ q ]
      have hpar := S.par
      exact S.cmp k h1 (by (clear hD e2 e3 e4 e5 h1; grind)) h3
  fu := fun u v h1 h2 h3 h4 h5 h6 h7 => by
    by_cases q : (u : Int) - v = p
    · rw [q, up_self]
      exact Int.ofNat_le.mpr (reach hs e2 (fun e he => (P.s e he).2.1) e4 e5 u v h1 h2 q h3 h4)
    · rw [up_ne _ _ q]
      have hpar := S.par
      exact S.fu u v h1 h2 h3 h4 h5 (by (clear hD e2 e3 e4 e5 h1 h2 h3 h4 h5; grind)) h7
  top := by
    refine bc fun z9 => ?_
    obtain ⟨r, h1, h2⟩ := S.top
    refine z9 ?_
    unfold ke'
    split
    · rename_i c
      refine ⟨r + 1, by grind, fun _ => ?_⟩
      by_cases q : 0 < r
      · have := h2 q; (clear hD e2 e3 e4 e5 h1 h2 c q; lia)
      · have hc := hs.cost
        have hsame := hs.same
        have : y1 ≤ b.length := by
          rcases Nat.lt_or_ge b.length y1 with z | z
          · have := EE_off2 (a := a) (b := b) c z; grind
          · exact z
        have := EE_offR (a := a) (b := b) c this
        grind
    · exact ⟨r, h1, fun q => by have := h2 q; (clear hD e2 e3 e4 e5 h1 h2 q; lia)⟩
  bot := by
    refine bc fun z9 => ?_
    obtain ⟨r, h1, h2, h3⟩ := S.bot
    refine z9 ?_
    unfold ks'
    split
    · exact ⟨r, h1, by (clear hD e2 e3 e4 e5 h1 h3; lia), h3⟩
    · split
      · rename_i c1 c2
        refine ⟨r + 1, by grind, by (clear hD e2 e3 e4 e5 h1 h3 c1 c2; lia), fun _ => ?_⟩
        have hc := hs.cost
        have hsame := hs.same
        have := EE_offB (a := a) (b := b) (Nat.le_of_not_lt c1) c2
        grind
      · exact ⟨r, h1, by (clear hD e2 e3 e4 e5 h1 h3; lia), h3⟩
theorem Pre.within {a b : Tx} {d : Nat} {f : Int → Int} {ks ke : Nat} (P : Pre a b d f ks ke) {x y : Nat} (h1 : x ≤ a.length) (h2 : y ≤ b.length) (h3 : EE a b x y ≤ d) (h4 : d + RR a b x y ≤ dist a b) (h5 : ((x : Int) - y - d) % 2 = 0) :
    -(d : Int) + ks ≤ (x : Int) - y ∧ (x : Int) - y ≤ (d : Int) - ke := by
  obtain ⟨g1, g2⟩ := EE_diag a b x y
  obtain ⟨g3, g4⟩ := RR_bound h1 h2
  constructor
  · rcases Int.lt_or_le ((x : Int) - y) (-(d : Int) + ks) with q | q
    · have := P.bi _ h5 q (by (clear h5; grind)); (clear h5; grind)
    · exact q
  · rcases Int.lt_or_le ((d : Int) - ke) ((x : Int) - y) with q | q
    · have := P.ti _ h5 q (by (clear h5; grind)); (clear h1 h5; grind)
    · exact q
theorem Pre.some {a b : Tx} {d : Nat} {f : Int → Int} {ks ke : Nat} (P : Pre a b d f ks ke) (hd : d ≤ dist a b) : -(d : Int) + ks ≤ (d : Int) - ke := by
  obtain ⟨x, y, h1, h2, h3, h4⟩ := mid hd
  obtain ⟨t, ht⟩ := EE_par a b x y
  have h5 := tri h1 h2
  have := P.within h1 h2 h3 (by lia) (by (clear h1 h2; lia))
  lia
theorem Sw.all {a b : Tx} {d : Nat} {f0 f : Int → Int} {ks0 ke0 ks ke : Nat} {p : Int} (P : Pre a b d f0 ks0 ke0) (S : Sw a b d f0 ks0 ke0 p f ks ke) (hp : (d : Int) - ke0 < p) : Fu a b d f := fun x y h1 h2 h3 h4 => by
  by_cases q : ((x : Int) - y - d) % 2 = 0
  · obtain ⟨w1, w2⟩ := P.within h1 h2 h3 h4 q
    exact S.fu x y h1 h2 h3 h4 w1 (Int.lt_of_le_of_lt w2 hp) q
  · rw [S.old _ (.inr q)]
    obtain ⟨t, ht⟩ := EE_par a b x y
    cases d with
    | zero => exfalso; grind
    | succ e => exact (P.s e rfl).2.1 x y h1 h2 (by lia) (by (clear h1 h2 ht hp h3; lia))
theorem done_ar {d ks0 ke0 r u : Nat} (v1 : ks0 % 2 = 0) (v2 : ke0 % 2 = 0) : (-(d : Int) + ks0 - d) % 2 = 0 ∧ ((d : Int) - ke0 - d) % 2 = 0 ∧ -(d : Int) + ks0 - 1 ≤ -((d + 1 : Nat) : Int) + ((ks0 + 2 * u : Nat) : Int) ∧ ((d + 1 : Nat) : Int) - ((ke0 + 2 * r : Nat) : Int) ≤ (d : Int) - ke0 + 1 ∧
    (ks0 + 2 * u = 0 → -(d : Int) + ks0 = -(d : Int)) ∧ (ke0 + 2 * r = 0 → (d : Int) - ke0 = d) := by
  refine ⟨?_, ?_, ?_, ?_, ?_, ?_⟩ <;> lia
theorem Sw.done {a b : Tx} {d : Nat} {f0 f : Int → Int} {ks0 ke0 ks ke : Nat} {p : Int} (P : Pre a b d f0 ks0 ke0) (hd : d ≤ dist a b) (S : Sw a b d f0 ks0 ke0 p f ks ke) (hp : (d : Int) - ke0 < p) (hp2 : p ≤ (d : Int) - ke0 + 2 ∨ p = -(d : Int) + ks0) : Pre a b (d + 1) f ks ke := by
  have hn := P.some hd
  have hpar := S.par
  obtain ⟨v1, v2⟩ := P.ev
  obtain ⟨r, rfl, r2⟩ := S.top
  obtain ⟨u, rfl, u2, u3⟩ := S.bot
  obtain ⟨c1, c2, _⟩ := (ed_dist a b).bound
  refine ⟨⟨by rw [Nat.add_mul_mod_self_left]; exact v1, by rw [Nat.add_mul_mod_self_left]; exact v2⟩, ?_, ?_, (fun h => nomatch h), ?_, ?_⟩
  · intro k h1 h2 h3
    clear c1 c2 hpar
    by_cases q : 0 < r
    · have := r2 q; (clear hd h3 h1 v1 v2 u2 u3 r2; lia)
    · obtain rfl := Nat.eq_zero_of_not_pos q
      have := P.ti (k - 1) (by clear hd hp hp2 hn v1 v2 r2 u2 u3 h2 h3 q; lia) (by clear hd hp hp2 hn v1 v2 r2 u2 u3 h1 h3 q; lia) (by clear hd hp hp2 hn v1 v2 r2 u2 u3 h1 h2 q; lia)
      clear hd hp hp2 hn v1 v2 r2 u2 u3 h1 h2 h3 q; lia
  · intro k h1 h2 h3
    clear c1 c2 hpar
    by_cases q : 0 < u
    · have := u3 q; (clear hd hp hp2 hn v1 v2 r2 u2 u3 h1 h3 q; lia)
    · obtain rfl := Nat.eq_zero_of_not_pos q
      have := P.bi (k + 1) (by clear hd hp hp2 hn v1 v2 r2 u2 u3 h2 h3 q; lia) (by clear hd hp hp2 hn v1 v2 r2 u2 u3 h1 h3 q; lia) (by clear hd hp hp2 hn v1 v2 r2 u2 u3 h1 h2 q; lia)
      clear hd hp hp2 hn v1 v2 r2 u2 u3 h1 h2 h3 q; lia
  · intro h
    have hz := P.lo (by clear hd hp hp2 hn hpar v1 v2 r2 u2 u3 c1 c2; lia)
    obtain ⟨rfl, rfl⟩ := hz
    have hr : r = 0 := by
      rcases Nat.eq_zero_or_pos r with q | q
      · exact q
      · have := r2 q; (clear hd hn hpar v1 v2 r2 u2 u3 c1; lia)
    have hu : u = 0 := by
      rcases Nat.eq_zero_or_pos u with q | q
      · exact q
      · have := u3 q; (clear hd hp hp2 hn hpar v1 v2 r2 u2 u3 c2 hr q; lia)
    subst hr hu
    exact ⟨rfl, rfl⟩
  · intro e he
    cases he
    obtain ⟨w1, w2, w3, w4, w5, w6⟩ := done_ar (d := d) (r := r) (u := u) v1 v2
    refine ⟨fun k => ?_, S.all P hp, -(d : Int) + ks0, (d : Int) - ke0, hn, w1, w2, w3, w4, w5, w6, fun k h1 h2 h3 => S.cmp k h1 (Int.lt_of_le_of_lt h2 hp) h3⟩
    rcases S.snd k with q | q | ⟨rfl, q⟩
    · exact .inl q
    · exact .inr (.inl q)
    · refine .inr (.inr ⟨rfl, ?_⟩)
      rcases q with q | ⟨q, q2⟩
      · exact q
      · subst q
        have := P.lo (Nat.le_refl _)
        obtain ⟨rfl, rfl⟩ := this
        clear w1 w2 w3 w4 w5 w6 c1 c2 hn hd v1 v2 r2 u2 u3 hpar; lia
structure Meet (a b : Tx) (x y : Nat) : Prop where
  hx : x ≤ a.length
  hy : y ≤ b.length
  cost : EE a b x y + RR a b x y = dist a b
  lo : 0 < x + y
  hi : x + y < a.length + b.length
theorem meet_in {a b : Tx} {d e : Nat} {x y u w : Nat} (h1 : EE a b x y ≤ d) (h2 : EE a.reverse b.reverse u w ≤ e) (hk : (a.length : Int) - b.length - ((x : Int) - y) = (u : Int) - w) (hD : d + e ≤ dist a b) : x ≤ a.length ∧ y ≤ b.length := by
  obtain ⟨g1, g2⟩ := EE_diag a.reverse b.reverse u w
  have g1 := Nat.le_trans g1 (Nat.add_le_add_left h2 _)
  have g2 := Nat.le_trans g2 (Nat.add_le_add_left h2 _)
  clear h2
  rcases Nat.lt_or_ge a.length x with q | q
  · exfalso
    rcases Nat.lt_or_ge b.length y with q2 | q2
    · have := Nat.le_trans (EE_off2 q q2) h1
      clear hk g1 g2 h1 q q2; lia
    · have := EE_offR q q2
      generalize dist a b = D at *
      generalize EE a b x y = E at *
      clear q2; lia
  · refine ⟨q, Nat.le_of_not_lt fun q2 => ?_⟩
    have := EE_offB q q2
    generalize dist a b = D at *
    generalize EE a b x y = E at *
    clear q; lia
theorem meet {a b : Tx} {d e : Nat} {x y u w : Nat} (h1 : EE a b x y ≤ d) (h2 : EE a.reverse b.reverse u w ≤ e) (hk : (a.length : Int) - b.length - ((x : Int) - y) = (u : Int) - w) (h3 : (a.length : Int) - u ≤ x)
    (hD : d + e ≤ dist a b) (he : e < dist a b) (hd2 : d < dist a b) : Meet a b x y := by
  obtain ⟨hx, hy⟩ := meet_in h1 h2 hk hD
  obtain ⟨hu, hw⟩ := meet_in (a := a.reverse) (b := b.reverse) (u := x) (w := y) h2 (by rw [List.reverse_reverse, List.reverse_reverse]; exact h1) (by rw [ List.length_reverse, List.length_reverse ]; clear h1 h2 h3 hD he hd2; lia) (by rw [dist_rev, Nat.add_comm]; exact hD)
  rw [List.length_reverse] at hu hw
  have hR : RR a b x y ≤ e := by
    rw [EE_rev hu hw] at h2
    obtain ⟨i, hi⟩ : ∃ i, a.length = i + u := ⟨_, (Nat.sub_add_cancel hu).symm⟩
    obtain ⟨j, hj⟩ : ∃ j, b.length = j + w := ⟨_, (Nat.sub_add_cancel hw).symm⟩
    rw [hi, hj, Nat.add_sub_cancel, Nat.add_sub_cancel] at h2
    rw [hi, hj] at hk
    rw [hi] at h3
    obtain ⟨t, rfl⟩ : ∃ t, x = i + t := ⟨x - i, by clear hk h1 h2 hD he hd2 hx hy hu hw hi hj; lia⟩
    obtain rfl : y = j + t := by clear h3 h1 h2 hD he hd2 hx hy hu hw hi hj; lia
    exact Nat.le_trans (RR_fwds a b t hx hy) h2
  have ht := tri hx hy
  refine ⟨hx, hy, Nat.le_antisymm (Nat.le_trans (Nat.add_le_add h1 hR) hD) ht, Nat.pos_of_ne_zero fun q => ?_, Nat.lt_of_le_of_ne (Nat.add_le_add hx hy) fun q => ?_⟩
  · obtain ⟨rfl, rfl⟩ := Nat.add_eq_zero_iff.mp q
    exact absurd (Nat.le_trans (Nat.le_refl (dist a b)) hR) (Nat.not_le_of_lt he)
  · obtain rfl : x = a.length := Nat.le_antisymm hx (Nat.le_of_add_le_add_right (Nat.le_trans (Nat.le_of_eq q.symm) (Nat.add_le_add_left hy _)))
    obtain rfl := Nat.add_left_cancel q
    rw [EE_all] at h1
    exact absurd h1 (Nat.not_le_of_lt hd2)
theorem meets {a b : Tx} {d e : Nat} {f g : Int → Int} (hD : dist a b = d + e) (hf : Fu a b d f) (hg : Fu a.reverse b.reverse e g) :
    ∃ x y : Nat, x ≤ a.length ∧ y ≤ b.length ∧ EE a b x y ≤ d ∧ RR a b x y ≤ e ∧ (x : Int) ≤ f ((x : Int) - y) ∧ (a.length : Int) - x ≤ g ((a.length : Int) - b.length - ((x : Int) - y)) := by
  obtain ⟨x, y, h1, h2, h3, h4⟩ := mid (a := a) (b := b) (e := d) (by rw [hD]; exact Nat.le_add_right ..)
  rw [hD, Nat.add_sub_cancel_left] at h4
  refine ⟨x, y, h1, h2, h3, h4, hf x y h1 h2 h3 (by rw [hD]; exact Nat.add_le_add_left h4 d), ?_⟩
  have := hg (a.length - x) (b.length - y) (by rw [List.length_reverse]; exact Nat.sub_le ..) (by rw [List.length_reverse]; exact Nat.sub_le ..)
    (by rw [EE_rev (Nat.sub_le ..) (Nat.sub_le ..), Nat.sub_sub_self h1, Nat.sub_sub_self h2]; exact h4)
    (by rw [RR_rev (Nat.sub_le ..) (Nat.sub_le ..), Nat.sub_sub_self h1, Nat.sub_sub_self h2, dist_rev, hD, Nat.add_comm]; exact Nat.add_le_add_right h3 e)
  rw [Int.ofNat_sub h1, Int.ofNat_sub h2, show ((a.length : Int) - x) - ((b.length : Int) - y) = (a.length : Int) - b.length - ((x : Int) - y) by clear this hg hf hD h1 h2 h3 h4; lia] at this
  exact this
structure Tab where
  f : Int → Int
  ks : Nat
  ke : Nat
noncomputable def tx (a b : Tx) (d : Nat) (p : Int) (f : Int → Int) : Int := pick d p f + lcp (a.drop (pick d p f).toNat) (b.drop (pick d p f - p).toNat)
noncomputable def step (a b : Tx) (d : Nat) (p : Int) (s : Tab) : Tab :=
  ⟨up s.f p (tx a b d p s.f), ks' a b (tx a b d p s.f).toNat (tx a b d p s.f - p).toNat s.ks, ke' a (tx a b d p s.f).toNat s.ke⟩
noncomputable def Hit (a b : Tx) (off : Nat) (g : Int → Int) (p v : Int) : Prop :=
  v ≤ a.length ∧ v - p ≤ b.length ∧ -(off : Int) ≤ (a.length : Int) - b.length - p ∧ (a.length : Int) - b.length - p < off ∧ g ((a.length : Int) - b.length - p) ≠ -1 ∧ (a.length : Int) - g ((a.length : Int) - b.length - p) ≤ v
noncomputable def sweep (a b : Tx) (off d : Nat) (look : Bool) (g : Int → Int) : Nat → Int → Tab → Option Int × Tab
  | 0, _, s => (none, s)
  | n + 1, p, s => open Classical in if look = true ∧ Hit a b off g p (tx a b d p s.f) then (some p, step a b d p s) else sweep a b off d look g n (p + 2) (step a b d p s)
theorem lcp_snake (a b : Tx) (x y : Nat) : Snake a b x y (x + lcp (a.drop x) (b.drop y)) (y + lcp (a.drop x) (b.drop y)) := by
  have h := lcp_le (a.drop x) (b.drop y)
  rw [List.length_drop, List.length_drop] at h
  have main : ∀ t, t ≤ lcp (a.drop x) (b.drop y) → EE a b (x + t) (y + t) ≤ EE a b x y := by
    intro t
    induction t with
    | zero => exact fun _ => Nat.le_refl _
    | succ t ih =>
      intro ht
      have h1 : x + t < a.length := Nat.add_lt_of_lt_sub' (Nat.le_trans ht h.1)
      have h2 : y + t < b.length := Nat.add_lt_of_lt_sub' (Nat.le_trans ht h.2)
      have e := (lcp_iff (t + 1) (a.drop x) (b.drop y) (Nat.le_trans ht (lcp_le _ _).1) (Nat.le_trans ht (lcp_le _ _).2)).mp ht
      have e2 : a[x + t] = b[y + t] := by
        have := congrArg (fun l => l[t]?) e
        simp only [List.getElem?_take, List.getElem?_drop] at this
        rw [if_pos (Nat.lt_succ_self t), if_pos (Nat.lt_succ_self t), List.getElem?_eq_getElem h1, List.getElem?_eq_getElem h2] at this
        exact Option.some.inj this
      exact Nat.le_trans (EE_snake h1 h2 e2) (ih (Nat.le_of_succ_le ht))
  refine ⟨by grind, Nat.le_add_right .., main _ (Nat.le_refl _), fun h1 h2 e => ?_⟩
  have l1 : lcp (a.drop x) (b.drop y) + 1 ≤ (a.drop x).length := by rw [List.length_drop]; exact Nat.le_sub_of_add_le' h1
  have l2 : lcp (a.drop x) (b.drop y) + 1 ≤ (b.drop y).length := by rw [List.length_drop]; exact Nat.le_sub_of_add_le' h2
  have := (lcp_iff _ (a.drop x) (b.drop y) l1 l2).mpr (by
    simp only [ take_succ l1, take_succ l2, List.getElem_drop, List.getElem_drop, e, (lcp_iff _ _ _ (Nat.le_of_succ_le l1) (Nat.le_of_succ_le l2)).mp (Nat.le_refl _) ])
  exact absurd this (Nat.not_succ_le_self _)
theorem sw_step {a b : Tx} {d : Nat} {f0 : Int → Int} {ks0 ke0 : Nat} {p : Int} {s : Tab} (P : Pre a b d f0 ks0 ke0) (hD : 2 * d ≤ dist a b + 1) (S : Sw a b d f0 ks0 ke0 p s.f s.ks s.ke) (hp : p ≤ (d : Int) - ke0) :
    ∃ x y x1 y1 : Nat, pick d p s.f = x ∧ p = (x : Int) - y ∧ tx a b d p s.f = x1 ∧ p = (x1 : Int) - y1 ∧ x1 = x + lcp (a.drop x) (b.drop y) ∧ EE a b x1 y1 ≤ d ∧ Sw a b d f0 ks0 ke0 (p + 2) (step a b d p s).f (step a b d p s).ks (step a b d p s).ke := by
  refine bc fun z9 => ?_
  obtain ⟨x, y, e1, e2, e3, e4, e5⟩ := S.pick P hp
  refine z9 ?_
  have hs := lcp_snake a b x y
  have h1 : pick d p s.f - p = y := by grind
  have ht : tx a b d p s.f = ((x + lcp (a.drop x) (b.drop y) : Nat) : Int) := by
    unfold tx; (rw [ h1, e1 ]; dsimp only [Int.toNat_natCast, Int.toNat_natCast]; try with_reducible rfl); rfl
  have hy : tx a b d p s.f - p = ((y + lcp (a.drop x) (b.drop y) : Nat) : Int) := by rw [ ht ]; grind
  refine ⟨x, y, _, _, e1, e2, ht, by lia, rfl, Nat.le_trans hs.cost e3, ?_⟩
  have := S.turn P hD e2 e3 e4 e5 hs
  unfold step
  dsimp only
  (rw [ hy, ht ]; dsimp only [Int.toNat_natCast, Int.toNat_natCast]; try with_reducible rfl)
  exact this
noncomputable def NoHit (a b : Tx) (off d : Nat) (look : Bool) (g : Int → Int) (lo p : Int) (f : Int → Int) : Prop := look = true → ∀ k, lo ≤ k → k < p → (k - d) % 2 = 0 → ¬ Hit a b off g k (f k)
theorem step_f (a b : Tx) (d : Nat) (p : Int) (s : Tab) : (step a b d p s).f p = tx a b d p s.f := up_self ..
theorem sweep_ok {a b : Tx} {off d : Nat} {look : Bool} {g f0 : Int → Int} {ks0 ke0 : Nat} (P : Pre a b d f0 ks0 ke0) (hD : 2 * d ≤ dist a b + 1) : ∀ (n : Nat) (p : Int) (s : Tab), Sw a b d f0 ks0 ke0 p s.f s.ks s.ke →
    NoHit a b off d look g (-(d : Int) + ks0) p s.f → (0 < n → p + 2 * n ≤ (d : Int) - ke0 + 2) →
    match sweep a b off d look g n p s with
    | (none, s') => Sw a b d f0 ks0 ke0 (p + 2 * n) s'.f s'.ks s'.ke ∧ NoHit a b off d look g (-(d : Int) + ks0) (p + 2 * n) s'.f
    | (some q, s') => look = true ∧ Hit a b off g q (s'.f q) ∧ Gd a b d q (s'.f q) ∧ (q - d) % 2 = 0
  | 0, p, s, S, N, _ => by
    show Sw .. ∧ _
    rw [ show p + 2 * ((0 : Nat) : Int) = p by grind ]; exact ⟨S, N⟩
  | n + 1, p, s, S, N, hn => by
    have hp : p ≤ (d : Int) - ke0 := by have := hn (Nat.succ_pos n); (clear hD hn; lia)
    refine bc fun z9 => ?_
    obtain ⟨x, y, x1, y1, e1, e2, e3, e4, e5, e6, S'⟩ := sw_step P hD S hp
    refine z9 ?_
    unfold sweep
    by_cases c : look = true ∧ Hit a b off g p (tx a b d p s.f)
    · rw [ if_pos c ]
      show look = true ∧ _
      rw [step_f]
      exact ⟨c.1, c.2, ⟨x1, y1, e3, e4, e6⟩, S.par⟩
    · rw [ if_neg c ]
      have := sweep_ok P hD n (p + 2) (step a b d p s) S' (fun hl k h1 h2 h3 => by
        by_cases q : k = p
        · subst q; rw [step_f]; exact fun z => c ⟨hl, z⟩
        · rw [ show (step a b d p s).f k = s.f k from up_ne _ _ q ]
          have := S.par
          exact N hl k h1 (by grind) h3) (fun q => by have := hn (Nat.succ_pos n); (clear hD hn hp e1 e2 e3 e4 e5 e6 c q; lia))
      rw [ show p + 2 * ((n + 1 : Nat) : Int) = p + 2 + 2 * (n : Int) by grind ]
      exact this
noncomputable def cnt2 (lo hi : Int) : Nat := (PySem.Builtin.Range.rangeSize lo (hi + 1) 2).toNat
theorem cnt2_end {lo hi : Int} (h : lo ≤ hi) (hp : (hi - lo) % 2 = 0) : lo + 2 * (cnt2 lo hi : Int) = hi + 2 := by
  unfold cnt2 PySem.Builtin.Range.rangeSize
  rw [if_pos (by decide), if_pos (by (clear hp; lia))]
  grind
noncomputable def oddD (a b : Tx) : Bool := decide (((a.length : Int) - b.length) % 2 ≠ 0)
noncomputable def stageF (a b : Tx) (off d : Nat) (s t : Tab) : Option Int × Tab := sweep a b off d (oddD a b) t.f (cnt2 (-(d : Int) + s.ks) ((d : Int) - s.ke)) (-(d : Int) + s.ks) s
noncomputable def stageB (a b : Tx) (off d : Nat) (s t : Tab) : Option Int × Tab := sweep a.reverse b.reverse off d (!oddD a b) s.f (cnt2 (-(d : Int) + t.ks) ((d : Int) - t.ke)) (-(d : Int) + t.ks) t
noncomputable def bisG (a b : Tx) (off : Nat) : Nat → Nat → Tab → Tab → Option (Int × Int)
  | 0, _, _, _ => none
  | n + 1, d, s, t => match stageF a b off d s t with
    | (some p, s') => some (s'.f p, s'.f p - p)
    | (none, s') => match stageB a b off d s' t with
      | (some p, t') => some (s'.f ((a.length : Int) - b.length - p), s'.f ((a.length : Int) - b.length - p) - ((a.length : Int) - b.length - p))
      | (none, t') => bisG a b off n (d + 1) s' t'
noncomputable def tab0 : Tab := ⟨fun k => if k = 1 then 0 else -1, 0, 0⟩
noncomputable def offD (a b : Tx) : Nat := (a.length + b.length + 1) / 2
noncomputable def bis (a b : Tx) : Option (Int × Int) := bisG a b (offD a b) (offD a b) 0 tab0 tab0
theorem pre0 (a b : Tx) : Pre a b 0 tab0.f tab0.ks tab0.ke where
  ev := ⟨rfl, rfl⟩
  ti := fun k _ h1 h2 => by have h1 : (0 : Int) - 0 < k := h1; have h2 : k ≤ 0 := h2; grind
  bi := fun k _ h1 h2 => by have h1 : k < -(0 : Int) + 0 := h1; have h2 : -(0 : Int) ≤ k := h2; grind
  z := fun _ => ⟨rfl, fun k h => if_neg h⟩
  lo := fun _ => ⟨rfl, rfl⟩
  s := fun e h => nomatch h
theorem sweep_end {a b : Tx} {off d : Nat} {look : Bool} {g : Int → Int} {s : Tab} (P : Pre a b d s.f s.ks s.ke) (hD : 2 * d ≤ dist a b + 1) (hd : d ≤ dist a b) :
    match sweep a b off d look g (cnt2 (-(d : Int) + s.ks) ((d : Int) - s.ke)) (-(d : Int) + s.ks) s with
    | (none, s') => Pre a b (d + 1) s'.f s'.ks s'.ke ∧ Fu a b d s'.f ∧ (∀ k, s'.f k = -1 ∨ Gd a b d k (s'.f k) ∨ (k = 1 ∧ d = 0)) ∧ (look = true → ∀ x y : Nat, x ≤ a.length → y ≤ b.length → EE a b x y ≤ d → d + RR a b x y ≤ dist a b → ((x : Int) - y - d) % 2 = 0 → ¬ Hit a b off g ((x : Int) - y) (s'.f ((x : Int) - y)))
    | (some q, s') => look = true ∧ Hit a b off g q (s'.f q) ∧ Gd a b d q (s'.f q) ∧ (q - d) % 2 = 0 := by
  have hn := P.some hd
  have hv := P.ev
  have he := cnt2_end hn (by grind)
  have := sweep_ok (off := off) (look := look) (g := g) P hD (cnt2 (-(d : Int) + s.ks) ((d : Int) - s.ke)) (-(d : Int) + s.ks) s (Sw.start P) (fun _ k h1 h2 => absurd h2 (Int.not_lt.mpr h1)) (fun _ => by (clear hv; lia))
  generalize sweep a b off d look g (cnt2 (-(d : Int) + s.ks) ((d : Int) - s.ke)) (-(d : Int) + s.ks) s = r at this ⊢
  obtain ⟨_ | q, s'⟩ := r
  · obtain ⟨S, N⟩ := this
    rw [he] at S N
    have P' := S.done P hd (by grind) (.inl (Int.le_refl _))
    refine ⟨P', S.all P (by grind), (P'.s d rfl).1, fun hl x y h1 h2 h3 h4 h5 => ?_⟩
    obtain ⟨w1, w2⟩ := P.within h1 h2 h3 h4 h5
    exact N hl _ w1 (by (clear hD hd hn hv he hl h1 h2 h3 h4 h5 w1; lia)) h5
  · exact this
theorem hit_gd {a b : Tx} {off d e : Nat} {p v : Int} {g : Int → Int} (h : Hit a b off g p v) (G : Gd a b d p v) (hg : ∀ k, g k = -1 ∨ Gd a.reverse b.reverse e k (g k) ∨ (k = 1 ∧ e = 0)) (hD : d + e ≤ dist a b) (he : e < dist a b) (hd2 : d < dist a b)
    (h1 : e = 0 → (a.length : Int) - b.length - p ≠ 1) : ∃ x y u w : Nat, v = x ∧ p = (x : Int) - y ∧ g ((a.length : Int) - b.length - p) = u ∧ (a.length : Int) - b.length - p = (u : Int) - w ∧ Meet a b x y ∧ Meet a.reverse b.reverse u w := by
  refine bc fun z9 => ?_
  obtain ⟨_, _, _, _, h5, h6⟩ := h
  refine z9 ?_
  refine bc fun z9 => ?_
  obtain ⟨x, y, rfl, e1, e2⟩ := G
  refine z9 ?_
  rcases hg ((a.length : Int) - b.length - p) with q | ⟨u, w, q1, q2, q3⟩ | ⟨q, q2⟩
  · exact absurd q h5
  · refine ⟨x, y, u, w, rfl, e1, q1, q2, meet e2 q3 (by grind) (by grind) hD he hd2, ?_⟩
    exact meet q3 (by rw [List.reverse_reverse, List.reverse_reverse]; exact e2) (by rw [ List.length_reverse, List.length_reverse ]; grind) (by rw [ List.length_reverse ]; grind) (by rw [dist_rev]; lia) (by rw [dist_rev]; exact hd2) (by rw [dist_rev]; exact he)
  · exact absurd q (h1 q2)
theorem hit_of {a b : Tx} {off d e : Nat} {f g : Int → Int} {x y : Nat} (hx : x ≤ a.length) (hy : y ≤ b.length) (h1 : EE a b x y ≤ d) (h2 : RR a b x y ≤ e) (h3 : (x : Int) ≤ f ((x : Int) - y)) (h4 : (a.length : Int) - x ≤ g ((a.length : Int) - b.length - ((x : Int) - y)))
    (G : Gd a b d ((x : Int) - y) (f ((x : Int) - y))) (Gg : Gd a.reverse b.reverse e ((a.length : Int) - b.length - ((x : Int) - y)) (g ((a.length : Int) - b.length - ((x : Int) - y)))) (hD : d + e ≤ dist a b) (ho : e < off) :
    Hit a b off g ((x : Int) - y) (f ((x : Int) - y)) := by
  obtain ⟨u, w, e1, e2, e3⟩ := G
  obtain ⟨u', w', q1, q2, q3⟩ := Gg
  obtain ⟨i1, i2⟩ := meet_in e3 q3 (by (clear hx hy h1 h2 h3 h4 hD ho e1 e3 q1 q3; grind)) hD
  obtain ⟨r1, r2⟩ := RR_bound hx hy
  unfold Hit
  rw [ e1 ]
  refine ⟨by (clear hx hy h1 h2 h3 h4 hD ho e1 e2 e3 q1 q3 i2 r1 r2; lia), by (clear hx hy h1 h2 h3 h4 hD ho e1 e3 q1 q2 q3 i1 r1 r2; lia), by grind, by grind, by (clear hx hy h1 h2 h3 h4 hD ho e1 e2 e3 q2 q3 i1 i2 r1 r2; omega), by grind⟩
theorem odd_par (a b : Tx) : (oddD a b = true ↔ dist a b % 2 = 1) := by
  obtain ⟨_, _, t, h⟩ := (ed_dist a b).bound
  unfold oddD
  rw [decide_eq_true_eq]
  generalize dist a b = D at *
  generalize a.length = i at *
  generalize b.length = j at *
  omega
theorem Gd.of {a b : Tx} {d : Nat} {k v : Int} {y x : Nat} (h : v = -1 ∨ Gd a b d k v ∨ (k = 1 ∧ d = 0)) (hv : (x : Int) ≤ v) (hk : d = 0 → k ≠ 1) : Gd a b d k v := by
  rcases h with h | h | ⟨h, h2⟩
  · grind
  · exact h
  · exact absurd h (hk h2)
theorem no_meet {a b : Tx} {off d e : Nat} {f g : Int → Int} (hs : dist a b = d + e) (ho : e < off) (hF : Fu a b d f) (h3 : ∀ k, f k = -1 ∨ Gd a b d k (f k) ∨ (k = 1 ∧ d = 0)) (gF : Fu a.reverse b.reverse e g) (g3 : ∀ k, g k = -1 ∨ Gd a.reverse b.reverse e k (g k) ∨ (k = 1 ∧ e = 0))
    (h4 : ∀ x y : Nat, x ≤ a.length → y ≤ b.length → EE a b x y ≤ d → d + RR a b x y ≤ dist a b → ((x : Int) - y - d) % 2 = 0 → ¬ Hit a b off g ((x : Int) - y) (f ((x : Int) - y))) : False := by
  obtain ⟨x, y, hx, hy, c1, c2, c3, c4⟩ := meets hs hF gF
  obtain ⟨t1, p1⟩ := EE_par a b x y
  obtain ⟨_, _, t2, p2⟩ := (ed_dist a b).bound
  have htri := tri hx hy
  have hp : ((x : Int) - y - d) % 2 = 0 := by clear c3 c4; lia
  have hq : ((a.length : Int) - b.length - ((x : Int) - y) - e) % 2 = 0 := by clear c3 c4 p1 htri; lia
  have gx : ((a.length - x : Nat) : Int) = (a.length : Int) - x := Int.ofNat_sub hx
  exact h4 x y hx hy c1 (by rw [hs]; exact Nat.add_le_add_left c2 d) hp (hit_of hx hy c1 c2 c3 c4 (Gd.of (y := 0) (h3 _) c3 (fun q z => by rw [z, q] at hp; exact absurd hp (by decide))) (Gd.of (x := a.length - x) (y := 0) (g3 _) (gx ▸ c4) (fun q z => by rw [z, q] at hq; exact absurd hq (by decide))) (Nat.le_of_eq hs.symm) ho)
theorem stageF_ok {a b : Tx} {off d : Nat} {s t : Tab} (Pf : Pre a b d s.f s.ks s.ke) (Pb : Pre a.reverse b.reverse d t.f t.ks t.ke) (hD : 2 * d ≤ dist a b + 1) (hD2 : 2 ≤ dist a b) (ho : d < off) :
    match stageF a b off d s t with
    | (some p, s') => ∃ x y : Nat, s'.f p = x ∧ p = (x : Int) - y ∧ Meet a b x y
    | (none, s') => Pre a b (d + 1) s'.f s'.ks s'.ke ∧ Fu a b d s'.f ∧ (∀ k, s'.f k = -1 ∨ Gd a b d k (s'.f k) ∨ (k = 1 ∧ d = 0)) ∧ 2 * d ≤ dist a b := by
  have := sweep_end (off := off) (look := oddD a b) (g := t.f) Pf hD (by (clear hD2; lia))
  unfold stageF
  generalize sweep a b off d (oddD a b) t.f (cnt2 (-(d : Int) + s.ks) ((d : Int) - s.ke)) (-(d : Int) + s.ks) s = r at this ⊢
  have hpar := odd_par a b
  obtain ⟨_ | p, s'⟩ := r
  · obtain ⟨h1, h2, h3, h4⟩ := this
    refine ⟨h1, h2, h3, ?_⟩
    rcases Nat.lt_or_ge (dist a b) (2 * d) with q | q
    · exfalso
      obtain ⟨e, rfl⟩ : ∃ e, d = e + 1 := ⟨d - 1, by (clear hD hD2; lia)⟩
      have ho' : oddD a b = true := hpar.mpr (by (clear hD2 hpar ho; lia))
      obtain ⟨g1, g2, _⟩ := Pb.s e rfl
      exact no_meet (e := e) (by (clear hD2 hpar ho ho'; lia)) (Nat.lt_of_succ_lt ho) h2 h3 g2 g1 (h4 ho')
    · exact q
  · obtain ⟨ho', hh, hg, hq⟩ := this
    have hdel : ((a.length : Int) - b.length) % 2 ≠ 0 := of_decide_eq_true ho'
    have hodd := hpar.mp ho'
    cases d with
    | zero =>
      exfalso
      obtain ⟨i1, i2, i3, i4, i5, i6⟩ := hh
      obtain ⟨x, y, e1, e2, e3⟩ := hg
      obtain ⟨z1, z2⟩ := Pb.z rfl
      by_cases q : (a.length : Int) - b.length - p = 1
      · rw [q, z1] at i6
        have := EE_diag a b x y
        (clear hD2 hpar ho' hdel hodd hD ho hq i1 i3 i4 i5 e3 z1 this; lia)
      · exact i5 (z2 _ q)
    | succ e =>
      obtain ⟨g1, g2, _⟩ := Pb.s e rfl
      obtain ⟨x, y, u, w, k1, k2, _, _, k3, _⟩ := hit_gd hh hg g1 (by (clear hD2 hpar ho' hdel hodd ho hq; lia)) (by (clear hD2 hpar ho' hdel hodd ho hq; lia)) (by (clear hpar ho' hdel hodd ho hq; lia)) (fun q => by grind)
      exact ⟨x, y, k1, k2, k3⟩
theorem stageB_ok {a b : Tx} {off d : Nat} {s t : Tab} (h2 : Fu a b d s.f) (h3 : ∀ k, s.f k = -1 ∨ Gd a b d k (s.f k) ∨ (k = 1 ∧ d = 0)) (Pb : Pre a.reverse b.reverse d t.f t.ks t.ke) (hD : 2 * d ≤ dist a b) (hD2 : 2 ≤ dist a b) (ho : d < off) :
    match stageB a b off d s t with
    | (some p, t') => ∃ x y : Nat, s.f ((a.length : Int) - b.length - p) = x ∧ (a.length : Int) - b.length - p = (x : Int) - y ∧ Meet a b x y
    | (none, t') => Pre a.reverse b.reverse (d + 1) t'.f t'.ks t'.ke ∧ 2 * (d + 1) ≤ dist a b + 1 := by
  have := sweep_end (off := off) (look := !oddD a b) (g := s.f) Pb (by rw [dist_rev]; lia) (by rw [dist_rev]; (clear hD2 ho; lia))
  unfold stageB
  generalize sweep a.reverse b.reverse off d (!oddD a b) s.f (cnt2 (-(d : Int) + t.ks) ((d : Int) - t.ke)) (-(d : Int) + t.ks) t = r at this ⊢
  have hpar := odd_par a b
  obtain ⟨_ | p, t'⟩ := r
  · obtain ⟨k1, k2, k3, k4⟩ := this
    refine ⟨k1, ?_⟩
    rcases Nat.lt_or_ge (dist a b) (2 * d + 1) with q | q
    · exfalso
      have ho' : oddD a b = false := by
        cases z : oddD a b with
        | false => rfl
        | true => have := hpar.mp z; (clear hD2 ho hpar z; lia)
      exact no_meet (e := d) (by rw [dist_rev]; lia) ho k2 k3 (by rw [List.reverse_reverse, List.reverse_reverse]; exact h2) (by rw [List.reverse_reverse, List.reverse_reverse]; exact h3) (k4 (by rw [ ho' ]; rfl))
    · (clear hD hD2 ho hpar; exact Nat.succ_le_succ ‹_›)
  · obtain ⟨ho', hh, hg, hq⟩ := this
    have ho' : oddD a b = false := by rwa [Bool.not_eq_true'] at ho'
    have hdel : ((a.length : Int) - b.length) % 2 = 0 := Decidable.of_not_not (of_decide_eq_false ho')
    obtain ⟨x, y, e1, e2, e3⟩ := id hg
    have h3' : ∀ k, s.f k = -1 ∨ Gd a.reverse.reverse b.reverse.reverse d k (s.f k) ∨ (k = 1 ∧ d = 0) := by rw [List.reverse_reverse, List.reverse_reverse]; exact h3
    obtain ⟨x', y', u, w, _, _, k1, k2, _, k3⟩ := hit_gd hh hg h3' (by rw [dist_rev]; (clear hD2 ho hpar ho' hdel e1 e3; lia)) (by rw [dist_rev]; (clear ho hpar ho' hdel e1 e3; lia)) (by rw [dist_rev]; grind) (fun q => by
      subst q
      have := EE_diag a.reverse b.reverse x y
      rw [ List.length_reverse, List.length_reverse ]; (clear e2; lia))
    rw [List.length_reverse, List.length_reverse] at k1 k2
    rw [List.reverse_reverse, List.reverse_reverse] at k3
    exact ⟨u, w, k1, k2, k3⟩
theorem bisG_ok {a b : Tx} {off : Nat} (hD2 : 2 ≤ dist a b) : ∀ (n d : Nat) (s t : Tab), d + n = off → Pre a b d s.f s.ks s.ke → Pre a.reverse b.reverse d t.f t.ks t.ke → 2 * d ≤ dist a b + 1 →
    match bisG a b off n d s t with
    | some (u, v) => ∃ x y : Nat, u = x ∧ v = y ∧ Meet a b x y
    | none => 2 * off ≤ dist a b + 1
  | 0, d, s, t, hn, Pf, Pb, hD => by show 2 * off ≤ _; grind
  | n + 1, d, s, t, hn, Pf, Pb, hD => by
    have hF := stageF_ok (off := off) Pf Pb hD hD2 (by grind)
    unfold bisG
    generalize stageF a b off d s t = r at hF ⊢
    obtain ⟨_ | p, s'⟩ := r
    · obtain ⟨h1, h2, h3, h4⟩ := hF
      have hB := stageB_ok (off := off) h2 h3 Pb h4 hD2 (by grind)
      dsimp only
      generalize stageB a b off d s' t = r at hB ⊢
      obtain ⟨_ | p, t'⟩ := r
      · exact bisG_ok hD2 n (d + 1) s' t' (by grind) h1 hB.1 hB.2
      · obtain ⟨x, y, e1, e2, e3⟩ := hB
        exact ⟨x, y, e1, by lia, e3⟩
    · obtain ⟨x, y, e1, e2, e3⟩ := hF
      exact ⟨x, y, e1, by grind, e3⟩
theorem dist_two {x y x' y' : Char} {a b : Tx} {u v : Tx} (h1 : x ≠ y) (ha : x :: a = u ++ [x']) (hb : y :: b = v ++ [y']) (h2 : x' ≠ y') : 2 ≤ dist (x :: a) (y :: b) := by
  have k := ed_dist (x :: a) (y :: b)
  generalize dist (x :: a) (y :: b) = d at k ⊢
  rcases Nat.lt_or_ge d 2 with q | q
  · exfalso
    have key : ∀ {p r : Tx}, Ed 0 p r → ∀ {u v : Tx} {c e : Char}, p = u ++ [c] → r = v ++ [e] → c = e := fun h u v c e e1 e2 => by
      have := h.zero rfl
      rw [e1, e2] at this
      exact (List.append_inj' this rfl).2 |> List.cons.inj |>.1
    cases k with
    | eq c k => exact h1 rfl
    | del c k =>
      rename_i d
      have : d = 0 := by lia
      subst this
      cases a with
      | nil => cases k.zero rfl
      | cons z a =>
        cases u with
        | nil => cases ha
        | cons _ u => exact h2 (key k (List.cons.inj ha).2 hb)
    | ins c k =>
      rename_i d
      have : d = 0 := by grind
      subst this
      cases b with
      | nil => cases k.zero rfl
      | cons z b =>
        cases v with
        | nil => cases hb
        | cons _ v => exact h2 (key k ha (List.cons.inj hb).2)
  · exact q
theorem bis_ok {a b : Tx} (h : 2 ≤ dist a b) : match bis a b with
    | some (u, v) => ∃ x y : Nat, u = x ∧ v = y ∧ Meet a b x y
    | none => dist a b = a.length + b.length := by
  have := bisG_ok (off := offD a b) h (offD a b) 0 tab0 tab0 (Nat.zero_add _) (pre0 a b) (pre0 _ _) (Nat.zero_le _)
  unfold bis
  generalize bisG a b (offD a b) (offD a b) 0 tab0 tab0 = r at this ⊢
  cases r with
  | none =>
    obtain ⟨_, _, t, ht⟩ := (ed_dist a b).bound
    unfold offD at this
    show dist a b = _
    have : 2 * ((a.length + b.length + 1) / 2) ≤ dist a b + 1 := this
    grind
  | some q => exact this
structure HM where
  a1 : Tx
  a2 : Tx
  b1 : Tx
  b2 : Tx
  c : Tx
noncomputable def one0 (x : Tx) : Row := if x = [] then [] else [(0, x)]
structure Apart (a b : Tx) : Prop where
  hd : ∀ x y as bs, a = x :: as → b = y :: bs → x ≠ y
  tl : ∀ x y as bs, a = as ++ [x] → b = bs ++ [y] → x ≠ y
mutual
inductive MainR (H : Tx → Tx → Option HM → Prop) : Tx → Tx → Row → Prop
  | same (a : Tx) : MainR H a a (one0 a)
  | diff {p s a b : Tx} {L : Row} : p ++ a ++ s ≠ p ++ b ++ s → lcp (p ++ a ++ s) (p ++ b ++ s) = p.length → Apart a b → CompR H a b L → phi (one0 p ++ L ++ one0 s) < 100 → MainR H (p ++ a ++ s) (p ++ b ++ s) (cleanN 100 (one0 p ++ L ++ one0 s))
inductive CompR (H : Tx → Tx → Option HM → Prop) : Tx → Tx → Row → Prop
  | ins {b : Tx} : b ≠ [] → CompR H [] b [(1, b)]
  | del {a : Tx} : a ≠ [] → CompR H a [] [(-1, a)]
  | inA {u v b : Tx} : b ≠ [] → b.length < (u ++ b ++ v).length → (∀ j, j < u.length → ¬ Occ (u ++ b ++ v) b j) → CompR H (u ++ b ++ v) b [(-1, u), (0, b), (-1, v)]
  | inB {u v a : Tx} : a ≠ [] → a.length ≤ (u ++ a ++ v).length → (∀ j, j < u.length → ¬ Occ (u ++ a ++ v) a j) → CompR H a (u ++ a ++ v) [(1, u), (0, a), (1, v)]
  | one {a b : Tx} : a ≠ [] → b ≠ [] → (if b.length < a.length then b.length else a.length) = 1 → (∀ j, ¬ Occ (if b.length < a.length then a else b) (if b.length < a.length then b else a) j) → CompR H a b [(-1, a), (1, b)]
  | none {a b : Tx} : a ≠ [] → b ≠ [] → (∀ j, ¬ Occ (if b.length < a.length then a else b) (if b.length < a.length then b else a) j) → H a b none → bis a b = none → dist a b = a.length + b.length → CompR H a b [(-1, a), (1, b)]
  | bis {a b : Tx} {x y : Nat} {L1 L2 : Row} : (∀ j, ¬ Occ (if b.length < a.length then a else b) (if b.length < a.length then b else a) j) → H a b none → bis a b = some ((x : Int), (y : Int)) → Meet a b x y → MainR H (a.take x) (b.take y) L1 → MainR H (a.drop x) (b.drop y) L2 → CompR H a b (L1 ++ L2)
end
noncomputable abbrev NoOcc (a b : Tx) : Prop := ∀ j, ¬ Occ (if b.length < a.length then a else b) (if b.length < a.length then b else a) j
theorem mainInd {H : Tx → Tx → Option HM → Prop} {M1 M2 : Tx → Tx → Row → Prop} (c1 : ∀ a, M1 a a (one0 a))
    (c2 : ∀ {p s a b L}, p ++ a ++ s ≠ p ++ b ++ s → lcp (p ++ a ++ s) (p ++ b ++ s) = p.length → Apart a b → CompR H a b L → phi (one0 p ++ L ++ one0 s) < 100 → M2 a b L → M1 (p ++ a ++ s) (p ++ b ++ s) (cleanN 100 (one0 p ++ L ++ one0 s)))
    (c3 : ∀ {b}, b ≠ [] → M2 [] b [(1, b)]) (c4 : ∀ {a}, a ≠ [] → M2 a [] [(-1, a)])
    (c5 : ∀ {u v b}, b ≠ [] → b.length < (u ++ b ++ v).length → (∀ j, j < u.length → ¬ Occ (u ++ b ++ v) b j) → M2 (u ++ b ++ v) b [(-1, u), (0, b), (-1, v)])
    (c6 : ∀ {u v a}, a ≠ [] → a.length ≤ (u ++ a ++ v).length → (∀ j, j < u.length → ¬ Occ (u ++ a ++ v) a j) → M2 a (u ++ a ++ v) [(1, u), (0, a), (1, v)])
    (c7 : ∀ {a b}, a ≠ [] → b ≠ [] → (if b.length < a.length then b.length else a.length) = 1 → NoOcc a b → M2 a b [(-1, a), (1, b)])
    (c9 : ∀ {a b}, a ≠ [] → b ≠ [] → NoOcc a b → H a b none → bis a b = none → dist a b = a.length + b.length → M2 a b [(-1, a), (1, b)])
    (c10 : ∀ {a b} {x y : Nat} {L1 L2}, NoOcc a b → H a b none → bis a b = some ((x : Int), (y : Int)) → Meet a b x y → MainR H (a.take x) (b.take y) L1 → MainR H (a.drop x) (b.drop y) L2 → M1 (a.take x) (b.take y) L1 → M1 (a.drop x) (b.drop y) L2 → M2 a b (L1 ++ L2)) :
    (∀ {a b L}, MainR H a b L → M1 a b L) ∧ ∀ {a b L}, CompR H a b L → M2 a b L :=
  ⟨fun h => MainR.rec (motive_1 := fun a b L _ => M1 a b L) (motive_2 := fun a b L _ => M2 a b L) c1 c2 c3 c4 c5 c6 c7 c9 c10 h,
   fun h => CompR.rec (motive_1 := fun a b L _ => M1 a b L) (motive_2 := fun a b L _ => M2 a b L) c1 c2 c3 c4 c5 c6 c7 c9 c10 h⟩
theorem row_ed : ∀ {L : Row}, Kinds L → Ed (turned L) (side (-1) L) (side 1 L)
  | [], _ => .nil
  | p :: L, h => by
    have ih := row_ed h.tail
    obtain ⟨k, x⟩ := p
    rcases h.head with e | e | e
    · cases e
      exact show Ed (x.length + turned L) (x ++ side (-1) L) ([] ++ side 1 L) from (ed_nil x).append ih
    · cases e
      have := (ed_dist x x).append ih
      rw [dist_self] at this
      exact show Ed (0 + turned L) (x ++ side (-1) L) (x ++ side 1 L) from this
    · cases e
      exact show Ed (x.length + turned L) ([] ++ side (-1) L) (x ++ side 1 L) from (ed_nil' x).append ih
theorem row_dist {L : Row} (h : Kinds L) : dist (side (-1) L) (side 1 L) ≤ turned L := dist_le _ _ (row_ed h)
theorem row_phi : ∀ {L : Row}, NE L → Kinds L → phi L ≤ 2 * ((side (-1) L).length + (side 1 L).length)
  | [], _, _ => Nat.le_refl _
  | p :: L, h, k => by
    have ih := row_phi h.tail k.tail
    have h0 := List.length_pos_iff.mpr h.head
    rw [phi_cons]
    unfold side
    rw [List.length_append, List.length_append]
    rcases k.head with e | e | e
    · rw [if_pos (.inr e), if_neg (by lia)]; simp only [List.length_nil]; grind
    · rw [if_pos (.inl e), if_pos (.inl e)]; grind
    · rw [if_neg (by lia), if_pos (.inr e)]; simp only [List.length_nil]; grind
theorem dist_pre : ∀ (p a b : Tx), dist (p ++ a) (p ++ b) = dist a b
  | [], _, _ => rfl
  | c :: p, a, b => by
    show dist (c :: (p ++ a)) (c :: (p ++ b)) = _
    rw [dist_cc, if_pos rfl]; exact dist_pre p a b
theorem dist_suf (s a b : Tx) : dist (a ++ s) (b ++ s) = dist a b := by rw [← dist_rev, List.reverse_append, List.reverse_append, dist_pre, dist_rev]
theorem dist_mid (p s a b : Tx) : dist (p ++ a ++ s) (p ++ b ++ s) = dist a b := by rw [dist_suf, dist_pre]
theorem side_one0 (k : Int) (x : Tx) : side k (one0 x) = x := by
  unfold one0; split
  · rename_i h; rw [h]; rfl
  · rw [side_one, if_pos (.inl rfl)]
theorem turned_one0 (x : Tx) : turned (one0 x) = 0 := by unfold one0; split <;> rfl
theorem kinds_one0 (x : Tx) : Kinds (one0 x) := by unfold one0; split; exact .nil; exact .cons (.inr (.inl rfl)) .nil
theorem ne_one0 (x : Tx) : NE (one0 x) := by unfold one0; split; exact .nil; exact .cons (by assumption) .nil
noncomputable def NoH (H : Tx → Tx → Option HM → Prop) : Prop := ∀ a b h, ¬ H a b (some h)
structure MG (H : Tx → Tx → Option HM → Prop) (a b : Tx) (L : Row) : Prop where
  k : Kinds L
  n : NE L
  m : side (-1) L = a
  p : side 1 L = b
  o : NoH H → turned L = dist a b
structure CG (H : Tx → Tx → Option HM → Prop) (a b : Tx) (L : Row) : Prop where
  k : Kinds L
  n : NE L
  m : side (-1) L = a
  p : side 1 L = b
  o : NoH H → turned L ≤ dist a b
theorem Ed.one {d : Nat} {x y : Tx} (h : Ed d x y) : ∀ {c : Char}, (y = [c] → c ∉ x → d = x.length + 1) ∧ (y = [] → d = x.length) := by
  induction h with
  | nil => exact fun {c} => ⟨(fun q => by cases q), fun _ => rfl⟩
  | eq e _ ih => exact fun {c} => ⟨(fun q hn => by cases q; exact absurd List.mem_cons_self hn), fun q => by cases q⟩
  | del e _ ih => exact fun {c} => ⟨fun q hn => by rw [(ih (c := c)).1 q (fun z => hn (List.mem_cons_of_mem _ z))]; rfl, fun q => by rw [(ih (c := c)).2 q]; rfl⟩
  | ins e h ih => exact fun {c} => ⟨fun q hn => by cases q; rw [(ih (c := e)).2 rfl], fun q => by cases q⟩
theorem dist_one {a : Tx} {c : Char} (h : c ∉ a) : dist a [c] = a.length + 1 := ((ed_dist a [c]).one (c := c)).1 rfl h
theorem occ_mem {a : Tx} {c : Char} (h : ∀ j, ¬ Occ a [c] j) : c ∉ a := fun q => by
  obtain ⟨i, hi⟩ := List.getElem?_of_mem q
  obtain ⟨hl, he⟩ := List.getElem?_eq_some_iff.mp hi
  refine h i ⟨hl, ?_⟩
  rw [List.drop_eq_getElem_cons hl, he]; rfl
theorem len_one {x : Tx} (h : x.length = 1) : ∃ c, x = [c] := by
  match x, h with
  | [c], _ => exact ⟨c, rfl⟩
theorem dist_short {a b : Tx} (h1 : (if b.length < a.length then b.length else a.length) = 1) (h2 : ∀ j, ¬ Occ (if b.length < a.length then a else b) (if b.length < a.length then b else a) j) : a.length + b.length ≤ dist a b := by
  by_cases q : b.length < a.length
  · rw [if_pos q] at h1
    rw [if_pos q, if_pos q] at h2
    obtain ⟨c, rfl⟩ := len_one h1
    rw [dist_one (occ_mem h2)]; exact Nat.le_refl _
  · rw [if_neg q] at h1
    rw [if_neg q, if_neg q] at h2
    obtain ⟨c, rfl⟩ := len_one h1
    rw [dist_swap, dist_one (occ_mem h2)]
    exact Nat.le_of_eq (Nat.add_comm ..)
theorem cg_two {H : Tx → Tx → Option HM → Prop} {a b : Tx} (ha : a ≠ []) (hb : b ≠ []) (h : NoH H → a.length + b.length ≤ dist a b) : CG H a b [(-1, a), (1, b)] where
  k := .cons (.inl rfl) (.cons (.inr (.inr rfl)) .nil)
  n := .cons ha (.cons hb .nil)
  m := by show a ++ ([] ++ []) = a; rw [List.append_nil, List.append_nil]
  p := by show [] ++ (b ++ []) = b; rw [List.append_nil, List.nil_append]
  o := fun n => h n
theorem apart_l {u b v : Tx} (hb : b ≠ []) (A : Apart (u ++ b ++ v) b) : u ≠ [] ∧ v ≠ [] := by
  constructor
  · rintro rfl
    obtain ⟨c, bs, rfl⟩ := List.exists_cons_of_ne_nil hb
    exact A.hd c c (bs ++ v) bs rfl rfl rfl
  · rintro rfl
    have e := List.dropLast_concat_getLast hb
    refine A.tl (b.getLast hb) (b.getLast hb) (u ++ b.dropLast) b.dropLast ?_ e.symm rfl
    rw [List.append_nil, List.append_assoc, e]
theorem Apart.swap {a b : Tx} (A : Apart a b) : Apart b a := ⟨fun x y as bs h1 h2 => (A.hd y x bs as h2 h1).symm, fun x y as bs h1 h2 => (A.tl y x bs as h2 h1).symm⟩
theorem both_good {H : Tx → Tx → Option HM → Prop} : (∀ {a b L}, MainR H a b L → MG H a b L) ∧ ∀ {a b L}, CompR H a b L → Apart a b → CG H a b L := by
  refine mainInd (M1 := MG H) (M2 := fun a b L => Apart a b → CG H a b L) ?_ ?_ ?_ ?_ ?_ ?_ ?_ ?_ ?_
  · intro a
    exact ⟨kinds_one0 a, ne_one0 a, side_one0 _ a, side_one0 _ a, fun _ => by rw [turned_one0, dist_self]⟩
  · intro p s a b L hne _ A hc hp ih
    have C := ih A
    have hN : NE (one0 p ++ L ++ one0 s) := ((ne_one0 p).append C.n).append (ne_one0 s)
    have hK : Kinds (one0 p ++ L ++ one0 s) := ((kinds_one0 p).append C.k).append (kinds_one0 s)
    obtain ⟨k1, k5⟩ := clean_side 100 _ hK hp
    obtain ⟨n1, n2, _⟩ := clean_le 100 _ hN hK hp
    have hm : ∀ k : Int, k = -1 ∨ k = 1 → side k (cleanN 100 (one0 p ++ L ++ one0 s)) = p ++ side k L ++ s := fun k hk => by
      simp only [ k5 k hk, sda, sda, side_one0, side_one0 ]
    have e1 := hm (-1) (.inl rfl)
    have e2 := hm 1 (.inr rfl)
    rw [C.m] at e1
    rw [C.p] at e2
    refine ⟨k1, n1, e1, e2, fun no => ?_⟩
    refine Nat.le_antisymm ?_ ?_
    · have t1 := plain_le hK
      rw [turned_append, turned_append, turned_one0, turned_one0] at t1
      have := C.o no
      rw [dist_mid]; lia
    · have := row_dist k1
      rw [e1, e2] at this; exact this
  · intro b hb A
    exact ⟨.cons (.inr (.inr rfl)) .nil, .cons hb .nil, rfl, List.append_nil b, fun _ => Nat.le_refl _⟩
  · intro a ha A
    exact ⟨.cons (.inl rfl) .nil, .cons ha .nil, List.append_nil a, rfl, fun _ => by rw [dist_nil]; exact Nat.le_refl _⟩
  · intro u v b hb hl hf A
    obtain ⟨hu, hv⟩ := apart_l hb A
    refine ⟨.cons (.inl rfl) (.cons (.inr (.inl rfl)) (.cons (.inl rfl) .nil)), .cons hu (.cons hb (.cons hv .nil)), by show u ++ (b ++ (v ++ [])) = _; simp, by show [] ++ (b ++ ([] ++ [])) = b; simp, fun _ => ?_⟩
    have := (ed_dist (u ++ b ++ v) b).bound.1
    show u.length + (0 + (v.length + 0)) ≤ _
    simp only [List.length_append] at this
    lia
  · intro u v b hb hl hf A
    obtain ⟨hu, hv⟩ := apart_l hb A.swap
    refine ⟨.cons (.inr (.inr rfl)) (.cons (.inr (.inl rfl)) (.cons (.inr (.inr rfl)) .nil)), .cons hu (.cons hb (.cons hv .nil)), by show [] ++ (b ++ ([] ++ [])) = b; simp, by show u ++ (b ++ (v ++ [])) = _; simp, fun _ => ?_⟩
    have := (ed_dist b (u ++ b ++ v)).bound.2.1
    show u.length + (0 + (v.length + 0)) ≤ _
    simp only [List.length_append] at this
    lia
  · intro a b ha hb h1 h2 A
    exact cg_two ha hb fun _ => dist_short h1 h2
  · intro a b ha hb h2 hh hn hd A
    exact cg_two ha hb fun _ => Nat.le_of_eq hd.symm
  · intro a b x y L1 L2 h2 hh hb hm _ _ i1 i2 A
    refine ⟨i1.k.append i2.k, i1.n.append i2.n, by simp only [ sda, i1.m, i2.m, List.take_append_drop ], by simp only [ sda, i1.p, i2.p, List.take_append_drop ], fun no => ?_⟩
    rw [turned_append, i1.o no, i2.o no]
    have := hm.cost
    rw [EE_in hm.hx hm.hy] at this
    exact Nat.le_of_eq this
theorem main_good {H : Tx → Tx → Option HM → Prop} {a b : Tx} {L : Row} (h : MainR H a b L) : MG H a b L := both_good.1 h
theorem comp_good {H : Tx → Tx → Option HM → Prop} {a b : Tx} {L : Row} (h : CompR H a b L) (A : Apart a b) : CG H a b L := both_good.2 h A
noncomputable def cut (r : Row) : Row := r.flatMap fun p => p.2.map fun c => (p.1, [c])
theorem cut_cons (p : Part) (r : Row) : cut (p :: r) = (p.2.map fun c => (p.1, [c])) ++ cut r := rfl
theorem cut_kinds {r : Row} (h : Kinds r) : Kinds (cut r) := fun q hq => by
  obtain ⟨p, hp, h2⟩ := List.mem_flatMap.mp hq
  obtain ⟨c, _, rfl⟩ := List.mem_map.mp h2
  exact h p hp
theorem cut_phi : ∀ r : Row, phi (cut r) ≤ 2 * phi r
  | [] => Nat.le_refl _
  | p :: r => by
    have h1 : ∀ x : Tx, phi (x.map fun c => (p.1, [c])) = 2 * x.length := fun x => by
      induction x with
      | nil => rfl
      | cons c x ih => rw [List.map_cons, phi_cons, ih]; simp only [List.length_cons, List.length_nil]; exact Nat.add_comm ..
    simp only [ cut_cons, pha, phi_cons, h1 ]
    have := cut_phi r
    lia
open PySem PyProof.Rows PySem.W
noncomputable def m_diff_commonPrefixCells : List Str := []
noncomputable def m_diff_commonSuffixCells : List Str := []
theorem clip_nat' {n k : Nat} : (max 0 (min (k : Int) (n : Int))).toNat = min k n := by
  by_cases h : k ≤ n
  · rw [Int.min_eq_left (Int.ofNat_le.mpr h), Int.max_eq_right (Int.natCast_nonneg _), Int.toNat_natCast, Nat.min_eq_left h]
  · have h := Nat.le_of_not_le h
    rw [Int.min_eq_right (Int.ofNat_le.mpr h), Int.max_eq_right (Int.natCast_nonneg _), Int.toNat_natCast, Nat.min_eq_right h]
theorem clip_nn {n : Nat} {i : Nat} : clip n (i : Int) = min i n := by
  unfold clip clipAt
  rw [if_neg (Int.not_lt.mpr (Int.natCast_nonneg i))]
  exact clip_nat'
theorem clip_neg {n : Nat} {i : Nat} (h : 0 < i) (h2 : i ≤ n) : clip n (-(i : Int)) = n - i := by
  unfold clip clipAt
  rw [if_pos (Int.neg_neg_of_pos (Int.ofNat_lt.mpr h)), show -(i : Int) + n = ((n - i : Nat) : Int) by rw [Int.ofNat_sub h2, Int.add_comm]; rfl, clip_nat', Nat.min_eq_left (Nat.sub_le _ _)]
theorem pySl_nn {α : Type} (xs : List α) {a b : Nat} (h1 : a ≤ b) (h2 : b ≤ xs.length) : pySl xs (some (a : Int)) (some (b : Int)) = (xs.drop a).take (b - a) := by
  unfold pySl slLo slHi
  simp only [Option.elim, clip_nn]
  rw [ Nat.min_eq_left h2, Nat.min_eq_left (Nat.le_trans h1 h2) ]
theorem pySl_to {α : Type} (xs : List α) {b : Nat} (h2 : b ≤ xs.length) : pySl xs none (some (b : Int)) = xs.take b := by
  unfold pySl slLo slHi
  simp only [Option.elim, clip_nn]
  rw [Nat.min_eq_left h2]; simp
theorem pySl_from {α : Type} (xs : List α) {a : Nat} (h2 : a ≤ xs.length) : pySl xs (some (a : Int)) none = xs.drop a := by
  unfold pySl slLo slHi
  simp only [Option.elim, clip_nn]
  rw [Nat.min_eq_left h2]; exact List.take_of_length_le (by simp)
theorem piece_iff {a b : Tx} {k l : Nat} (h : k ≤ l) (hk : a.take k = b.take k) : ((a.drop k).take (l - k) = (b.drop k).take (l - k)) ↔ a.take l = b.take l := by
  have e : ∀ x : Tx, x.take l = x.take k ++ (x.drop k).take (l - k) := fun x => by
    rw [← List.take_add]; congr 1; grind
  rw [e a, e b, hk]
  exact ⟨fun q => by rw [q], fun q => List.append_cancel_left q⟩
noncomputable def m_diff_commonPrefixPs : List Str := ["self", "text1", "text2"]
noncomputable def m_diff_commonPrefixRest : List Str := ["pointermin", "pointermax", "pointermid", "pointerstart"]
noncomputable def m_diff_commonPrefixNames : List (Str × NameKind) := [("min", .globalImplicit), ("len", .globalImplicit)]
noncomputable def m_diff_commonPrefixBody : List Sm := [
    .ife (.bor [.not (.var 1), .not (.var 2), .cmp (.idx (.var 1) (.lit (.int 0))) [.NotEq] [.idx (.var 2) (.lit (.int 0))]]) [
      .ret (.lit (.int 0))] [],
    .assign [.var 3] (.lit (.int 0)),
    .assign [.var 4] (.bi .min [.bi .len [.var 1], .bi .len [.var 2]]),
    .assign [.var 5] (.var 4),
    .assign [.var 6] (.lit (.int 0)),
    .whl (.cmp (.var 3) [.Lt] [.var 5]) [
      .ife (.cmp (.slc (.var 1) (.var 6) (.var 5) (.lit .none)) [.Eq] [.slc (.var 2) (.var 6) (.var 5) (.lit .none)]) [
        .assign [.var 3] (.var 5),
        .assign [.var 6] (.var 3)] [
        .assign [.var 4] (.var 5)],
      .assign [.var 5] (.bin .Add (.bin .FloorDiv (.bin .Sub (.var 4) (.var 3)) (.lit (.int 2))) (.var 3))],
    .ret (.var 5)]
structure Half (N L pmin pmax pmid : Nat) : Prop where
  a : pmin ≤ L
  b : pmin ≤ pmid
  c : pmid ≤ pmax
  d : pmax ≤ N
  e : L ≤ pmax
  f : pmid = pmax ∨ (L < pmax ∧ pmid = (pmax - pmin) / 2 + pmin)
theorem pyGet_nn {α : Type} (xs : List α) (i : Nat) (h : i < xs.length) : pyGet xs (i : Int) = xs[i]? := by
  unfold pyGet
  have : seqIndex? (i : Int) xs.length = some i := by
    unfold seqIndex?
    have e : (if (i : Int) < 0 then (i : Int) + xs.length else (i : Int)) = i := if_neg (by grind)
    simp only [e]
    rw [if_pos (by simp; omega)]; simp
  rw [this]; rfl
theorem pyGet_last {α : Type} (xs : List α) (h : 0 < xs.length) : pyGet xs (-1) = xs[xs.length - 1]? := by
  unfold pyGet
  have : seqIndex? (-1) xs.length = some (xs.length - 1) := by
    unfold seqIndex?
    have e : (if (-1 : Int) < 0 then (-1 : Int) + xs.length else (-1 : Int)) = ((xs.length - 1 : Nat) : Int) := by rw [if_pos (by decide)]; exact (Int.ofNat_sub ‹_›).symm
    simp only [e]
    rw [if_pos (by simp; grind)]; simp
  rw [this]; rfl
theorem half_out {N L pmin pmax pmid : Nat} (h : Half N L pmin pmax pmid) (e : pmid ≤ pmin) : pmid = L := by
  obtain ⟨a, b, c, d, e', f⟩ := h
  (clear b; lia)
theorem half_le {x y : Nat} (h : x ≤ y) : (y - x) / 2 + x ≤ y := Nat.le_trans (Nat.add_le_add_right (Nat.div_le_self _ _) _) (Nat.le_of_eq (Nat.sub_add_cancel h))
theorem half_up {N L pmin pmax pmid : Nat} (h : Half N L pmin pmax pmid) (e : pmin < pmid) (g : pmid ≤ L) : Half N L pmid pmax ((pmax - pmid) / 2 + pmid) ∧ 2 * (pmax - pmid) + (if (pmax - pmid) / 2 + pmid = pmax then 1 else 0) < 2 * (pmax - pmin) + (if pmid = pmax then 1 else 0) := by
  obtain ⟨a, b, c, d, e', f⟩ := h
  refine ⟨⟨g, Nat.le_add_left .., half_le c, d, e', ?_⟩, ?_⟩
  · rcases f with q | q
    · exact .inl (by rw [q, Nat.sub_self]; exact Nat.zero_add _)
    · exact .inr ⟨q.1, rfl⟩
  · have i1 : (if (pmax - pmid) / 2 + pmid = pmax then 1 else 0) ≤ 1 := by split <;> decide
    refine Nat.lt_of_lt_of_le (Nat.lt_succ_of_le (Nat.add_le_add_left i1 _)) (Nat.le_trans ?_ (Nat.le_add_right _ _))
    clear f i1 d e' a
    lia
theorem half_down {N L pmin pmax pmid : Nat} (h : Half N L pmin pmax pmid) (e : pmin < pmid) (g : ¬ pmid ≤ L) : Half N L pmin pmid ((pmid - pmin) / 2 + pmin) ∧ 2 * (pmid - pmin) + (if (pmid - pmin) / 2 + pmin = pmid then 1 else 0) < 2 * (pmax - pmin) + (if pmid = pmax then 1 else 0) := by
  obtain ⟨a, b, c, d, e', f⟩ := h
  refine ⟨⟨a, Nat.le_add_left .., half_le b, Nat.le_trans c d, Nat.le_of_lt (Nat.lt_of_not_le g), .inr ⟨Nat.lt_of_not_le g, rfl⟩⟩, ?_⟩
  clear a d e' f g
  rw [if_neg (by lia)]
  by_cases q : pmid = pmax
  · rw [if_pos q, q]; exact Nat.lt_succ_self _
  · exact Nat.lt_of_lt_of_le (Nat.mul_lt_mul_of_pos_left (Nat.sub_lt_sub_right (Nat.le_of_lt e) (Nat.lt_of_le_of_ne c q)) (by decide)) (Nat.le_add_right _ _)
theorem min_nat (a b : Nat) : (if (b : Int) < (a : Int) then (b : Int) else (a : Int)) = ((min a b : Nat) : Int) := by split <;> grind
theorem half_mid {a b : Nat} (h : b ≤ a) : ((a : Int) - (b : Int)) / 2 + (b : Int) = (((a - b) / 2 + b : Nat) : Int) := by grind
theorem lcp_nil_l' (x : Tx) : lcp [] x = 0 := by simp [lcp]
theorem lcp_nil_r' (x : Tx) : lcp x [] = 0 := by cases x <;> simp [lcp]
theorem ssn {P : PC} {s : Sm} {Q : Fl → St → Prop} {σ : St} (h : wpS P s Q σ) : wpSs P [s] Q σ := by
  have e : ∀ F : Fl → St → Prop, (∀ fl σ, F fl σ = Q fl σ) → wpS P s F σ := fun F hF => by
    rw [show F = Q from funext fun _ => funext fun _ => hF _ _]; exact h
  exact e _ fun fl σ => by cases fl <;> rfl
noncomputable abbrev hvS (self : V) (a b : Tx) (pmin pmax pmid pst : Nat) (m : Mem) : St := ⟨[some self, some (.str a), some (.str b), some (.int pmin), some (.int pmax), some (.int pmid), some (.int pst)], m⟩
inductive IH (self : V) (a b : Tx) (m : Mem) (N L n : Nat) (σ : St) : Prop
  | mk (pmin pmax pmid : Nat) : σ = hvS self a b pmin pmax pmid pmin m → Half N L pmin pmax pmid → n = 2 * (pmax - pmin) + (if pmid = pmax then 1 else 0) → IH self a b m N L n σ
theorem half_loop {P : PC} {self : V} {a b : Tx} {m : Mem} {N L : Nat} {c : Ex} {QQ : Fl → St → Prop} (hN : N ≤ 1000000) (hL : L ≤ N)
    (hc : ∀ pmin pmax pmid : Nat, Half N L pmin pmax pmid → pmin < pmid → ∀ K : Bool → St → Prop, K (decide (pmid ≤ L)) (hvS self a b pmin pmax pmid pmin m) → wpT P c (wpE P c) K (hvS self a b pmin pmax pmid pmin m))
    (h : ∀ x y z : Nat, QQ .next (hvS self a b x y L z m)) :
    wpS P (.whl (.cmp (.var 3) [.Lt] [.var 5]) [
      .ife c [
        .assign [.var 3] (.var 5),
        .assign [.var 6] (.var 3)] [
        .assign [.var 4] (.var 5)],
      .assign [.var 5] (.bin .Add (.bin .FloorDiv (.bin .Sub (.var 4) (.var 3)) (.lit (.int 2))) (.var 3))]) QQ (hvS self a b 0 N N 0 m) := by
  rw [r_swhl]
  refine ⟨IH self a b m N L, ⟨_, 0, N, N, rfl, ⟨Nat.zero_le _, Nat.zero_le _, Nat.le_refl _, Nat.le_refl _, hL, .inl rfl⟩, rfl⟩, ?_⟩
  rintro n σ' ⟨pmin, pmax, pmid, rfl, H, rfl⟩
  have T : ∀ K : Bool → St → Prop, K (decide ((pmin : Int) < pmid)) (hvS self a b pmin pmax pmid pmin m) → wpT P (.cmp (.var 3) [.Lt] [.var 5]) (wpE P (.cmp (.var 3) [.Lt] [.var 5])) K (hvS self a b pmin pmax pmid pmin m) := fun K k => by
    walk_at "D"; exact k
  refine T _ ?_
  by_cases hlt : pmin < pmid
  · refine if_yes (by exact Int.ofNat_lt.mpr ‹_›) ?_
    refine ss_ret fun Q1 n1 r1 => s_ife fun K kt kf => hc pmin pmax pmid H hlt K ?_
    by_cases hk : pmid ≤ L
    · rw [decide_eq_true hk]
      obtain ⟨H', M⟩ := half_up H hlt hk
      refine kt _ (ss_ret fun Q2 n2 r2 => ?_)
      walk_at "D"
      refine n2 _ (ssn ?_)
      walk_at "D"
      refine n1 _ (ssn ?_)
      walk_at "D"
      refine ⟨by decide, by walk_at "t", _, M, pmid, pmax, _, ?_, H', rfl⟩
      rw [half_mid H.c]
    · rw [decide_eq_false hk]
      obtain ⟨H', M⟩ := half_down H hlt hk
      refine kf _ (ssn ?_)
      walk_at "D"
      refine n1 _ (ssn ?_)
      walk_at "D"
      refine ⟨by decide, by walk_at "t", _, M, pmin, pmid, _, ?_, H', rfl⟩
      rw [half_mid H.b]
  · refine if_no (by lia) ?_
    rw [half_out H (by exact Nat.le_of_not_lt ‹_›)]
    exact h _ _ _
theorem w_commonPrefix (P : PC) (self : V) (a b : Tx) (m : Mem) (ha : sma a.length) (hb : sma b.length) (Q : V → Mem → Prop) (q : Q (.int (lcp a b)) m) :
    wpSs P m_diff_commonPrefixBody (fun fl σ' => Q (retV fl) σ'.mem) ⟨[self, .str a, .str b].map some ++ List.replicate 4 none, m⟩ := by
  show wpSs P _ _ ⟨[some self, some (.str a), some (.str b), none, none, none, none], m⟩
  unfold m_diff_commonPrefixBody
  refine ss_ret fun Q1 n1 r1 => s_ife fun K kt kf => ?_
  have no : lcp a b = 0 → K true ⟨[some self, some (.str a), some (.str b), none, none, none, none], m⟩ := fun e => kt _ (ssn (r1 _ _ (by rw [e] at q; exact q)))
  walk_at "D"
  refine ⟨ha, ?_⟩
  cases a with
  | nil => exact no (lcp_nil_l' b)
  | cons x as =>
  refine ⟨hb, ?_⟩
  cases b with
  | nil => exact no (lcp_nil_r' _)
  | cons y bs =>
  have t0 : tiny 0 := by walk_at "t"
  refine ⟨t0, x, pyGet_nn (x :: as) 0 (by simp), t0, y, pyGet_nn (y :: bs) 0 (by simp), ?_⟩
  by_cases hxy : x = y
  · rw [ decide_eq_true (by rw [hxy] : [x] = [y]) ]
    have L0 := lcp_le (x :: as) (y :: bs)
    refine kf _ (ss_nil (n1 _ ?_))
    generalize x :: as = a at *
    generalize y :: bs = b at *
    refine ss_ret fun Q2 n2 r2 => ?_
    walk_at "D"
    refine n2 _ (ss_ret fun Q3 n3 r3 => ?_)
    walk_at "D"
    refine ⟨ha, hb, n3 _ (ss_ret fun Q4 n4 r4 => ?_)⟩
    rw [min_nat]
    walk_at "D"
    refine n4 _ (ss_ret fun Q5 n5 r5 => ?_)
    walk_at "D"
    refine n5 _ (ss_ret fun Q6 n6 r6 => ?_)
    refine half_loop (N := min a.length b.length) (L := lcp a b) (by unfold sma at ha; grind) (by lia) (fun pmin pmax pmid H hlt K' k => ?_) fun x y z => n6 _ (ssn q)
    have h1 : pmid ≤ a.length := by have := H.c; have := H.d; grind
    have h2 : pmid ≤ b.length := by have := H.c; have := H.d; lia
    walk_at "D"
    refine ⟨ha, hb, ?_⟩
    rw [ pySl_nn _ H.b h1, pySl_nn _ H.b h2 ]
    have e0 := (lcp_iff pmin a b (Nat.le_trans H.b h1) (Nat.le_trans H.b h2)).mp H.a
    have key := (piece_iff H.b e0).trans (lcp_iff pmid a b h1 h2).symm
    rw [decide_eq_decide.mpr key]
    exact k
  · rw [ decide_eq_false (fun z => hxy (List.cons.inj z).1) ]
    exact no (by unfold lcp; rw [ if_neg hxy ])
theorem pySl_end (xs : Tx) {k l : Nat} (h0 : 0 < k) (h1 : l ≤ k) (h2 : k ≤ xs.length) : pySl xs (some (-(k : Int))) (some ((xs.length : Int) - (l : Int))) = ((xs.reverse.drop l).take (k - l)).reverse := by
  obtain ⟨n, hn⟩ : ∃ n, xs.length = k + n := ⟨_, (Nat.add_sub_cancel' h2).symm⟩
  obtain ⟨i, rfl⟩ : ∃ i, k = l + i := ⟨_, (Nat.add_sub_cancel' h1).symm⟩
  have e1 : ((xs.length : Int) - (l : Int)) = ((n + i : Nat) : Int) := by rw [hn]; clear h0 h1 h2 hn; lia
  have e2 : xs.length - (l + i) = n := by rw [hn]; exact Nat.add_sub_cancel_left ..
  have e3 : xs.length - l = n + i := by rw [hn, Nat.add_assoc, Nat.add_sub_cancel_left, Nat.add_comm]
  unfold pySl slLo slHi
  simp only [Option.elim]
  rw [clip_neg h0 h2, e1, clip_nn, Nat.min_eq_left (by rw [hn, Nat.add_assoc, Nat.add_comm n i]; exact Nat.le_add_left ..), e2, Nat.add_sub_cancel_left, Nat.add_sub_cancel_left]
  rw [List.drop_reverse, List.take_reverse, List.reverse_reverse, List.length_take, Nat.min_eq_left (by rw [e3, hn, Nat.add_assoc, Nat.add_comm n i]; exact Nat.le_add_left ..), List.drop_take, e3, Nat.add_sub_cancel, Nat.add_sub_cancel_left]
noncomputable def m_diff_commonSuffixPs : List Str := ["self", "text1", "text2"]
noncomputable def m_diff_commonSuffixRest : List Str := ["pointermin", "pointermax", "pointermid", "pointerend"]
noncomputable def m_diff_commonSuffixNames : List (Str × NameKind) := [("min", .globalImplicit), ("len", .globalImplicit)]
noncomputable def m_diff_commonSuffixBody : List Sm := [
    .ife (.bor [.not (.var 1), .not (.var 2), .cmp (.idx (.var 1) (.neg (.lit (.int 1)))) [.NotEq] [.idx (.var 2) (.neg (.lit (.int 1)))]]) [
      .ret (.lit (.int 0))] [],
    .assign [.var 3] (.lit (.int 0)),
    .assign [.var 4] (.bi .min [.bi .len [.var 1], .bi .len [.var 2]]),
    .assign [.var 5] (.var 4),
    .assign [.var 6] (.lit (.int 0)),
    .whl (.cmp (.var 3) [.Lt] [.var 5]) [
      .ife (.cmp (.slc (.var 1) (.neg (.var 5)) (.bin .Sub (.bi .len [.var 1]) (.var 6)) (.lit .none)) [.Eq] [.slc (.var 2) (.neg (.var 5)) (.bin .Sub (.bi .len [.var 2]) (.var 6)) (.lit .none)]) [
        .assign [.var 3] (.var 5),
        .assign [.var 6] (.var 3)] [
        .assign [.var 4] (.var 5)],
      .assign [.var 5] (.bin .Add (.bin .FloorDiv (.bin .Sub (.var 4) (.var 3)) (.lit (.int 2))) (.var 3))],
    .ret (.var 5)]
theorem last_rev (xs : Tx) (x : Char) (as : Tx) (h : xs.reverse = x :: as) : xs[xs.length - 1]? = some x := by
  have e : xs = as.reverse ++ [x] := by rw [← List.reverse_reverse xs, h]; simp
  subst e; simp
theorem w_commonSuffix (P : PC) (self : V) (a b : Tx) (m : Mem) (ha : sma a.length) (hb : sma b.length) (Q : V → Mem → Prop) (q : Q (.int (lcs a b)) m) :
    wpSs P m_diff_commonSuffixBody (fun fl σ' => Q (retV fl) σ'.mem) ⟨[self, .str a, .str b].map some ++ List.replicate 4 none, m⟩ := by
  show wpSs P _ _ ⟨[some self, some (.str a), some (.str b), none, none, none, none], m⟩
  unfold m_diff_commonSuffixBody
  refine ss_ret fun Q1 n1 r1 => s_ife fun K kt kf => ?_
  have no : lcs a b = 0 → K true ⟨[some self, some (.str a), some (.str b), none, none, none, none], m⟩ := fun e => kt _ (ssn (r1 _ _ (by rw [e] at q; exact q)))
  walk_at "D"
  refine ⟨ha, ?_⟩
  cases a' : a.reverse with
  | nil =>
    rw [List.reverse_eq_nil_iff.mp a'] at no ⊢
    exact no (lcp_nil_l' _)
  | cons x as =>
  cases b' : b.reverse with
  | nil =>
    have na : a.isEmpty = false := by cases a with | nil => cases a' | cons => rfl
    rw [ na ]
    refine ⟨hb, ?_⟩
    rw [List.reverse_eq_nil_iff.mp b'] at no ⊢
    exact no (lcp_nil_r' _)
  | cons y bs =>
  have na : a.isEmpty = false := by cases a with | nil => cases a' | cons => rfl
  have nb : b.isEmpty = false := by cases b with | nil => cases b' | cons => rfl
  have pa : 0 < a.length := by rw [ ← List.length_reverse, a' ]; exact Nat.succ_pos _
  have pb : 0 < b.length := by rw [ ← List.length_reverse, b' ]; exact Nat.succ_pos _
  rw [ na ]
  refine ⟨hb, ?_⟩
  rw [ nb ]
  have t1 : tiny (-1) := by walk_at "t"
  refine ⟨t1, x, (pyGet_last a pa).trans (last_rev a x as a'), t1, y, (pyGet_last b pb).trans (last_rev b y bs b'), ?_⟩
  by_cases hxy : x = y
  · rw [ decide_eq_true (by rw [hxy] : [x] = [y]) ]
    have L0 := lcs_le a b
    refine kf _ (ss_nil (n1 _ (ss_ret fun Q2 n2 r2 => ?_)))
    walk_at "D"
    refine n2 _ (ss_ret fun Q3 n3 r3 => ?_)
    walk_at "D"
    refine ⟨ha, hb, n3 _ (ss_ret fun Q4 n4 r4 => ?_)⟩
    rw [min_nat]
    walk_at "D"
    refine n4 _ (ss_ret fun Q5 n5 r5 => ?_)
    walk_at "D"
    refine n5 _ (ss_ret fun Q6 n6 r6 => ?_)
    refine half_loop (N := min a.length b.length) (L := lcs a b) (by unfold sma at ha; grind) (by lia) (fun pmin pmax pmid H hlt K' k => ?_) fun x y z => n6 _ (ssn q)
    have h1 : pmid ≤ a.length := by have := H.c; have := H.d; grind
    have h2 : pmid ≤ b.length := by have := H.c; have := H.d; lia
    have h0 : 0 < pmid := Nat.lt_of_le_of_lt (Nat.zero_le _) hlt
    walk_at "D"
    refine ⟨ha, ha, hb, hb, ?_⟩
    rw [ pySl_end _ h0 H.b h1, pySl_end _ h0 H.b h2 ]
    have r1' : pmid ≤ a.reverse.length := by rw [List.length_reverse]; exact h1
    have r2' : pmid ≤ b.reverse.length := by rw [List.length_reverse]; exact h2
    have e0 := (lcp_iff pmin a.reverse b.reverse (Nat.le_trans H.b r1') (Nat.le_trans H.b r2')).mp H.a
    have key := (piece_iff H.b e0).trans (lcp_iff pmid a.reverse b.reverse r1' r2').symm
    rw [decide_eq_decide.mpr (List.reverse_inj.trans key)]
    exact k
  · rw [ decide_eq_false (fun z => hxy (List.cons.inj z).1) ]
    exact no (by unfold lcs; rw [ a', b' ]; unfold lcp; rw [ if_neg hxy ])
noncomputable def m_diff_cleanupMergePs : List Str := ["self", "diffs"]
noncomputable def m_diff_cleanupMergeRest : List Str := ["pointer", "count_delete", "count_insert", "text_delete", "text_insert", "commonlength", "x", "new_ops", "changes"]
noncomputable def m_diff_cleanupMergeNames : List (Str × NameKind) := [("len", .globalImplicit)]
noncomputable def m_diff_cleanupMergeCells : List Str := []
noncomputable def m_diff_cleanupMergeB1 : List Sm := [
    .aug 4 .Add (.lit (.int 1)),
    .aug 6 .Add (.idx (.idx (.var 1) (.var 2)) (.lit (.int 1))),
    .aug 2 .Add (.lit (.int 1))]
noncomputable def m_diff_cleanupMergeB2 : List Sm := [
    .aug 3 .Add (.lit (.int 1)),
    .aug 5 .Add (.idx (.idx (.var 1) (.var 2)) (.lit (.int 1))),
    .aug 2 .Add (.lit (.int 1))]
noncomputable def m_diff_cleanupMergeB3 : List Sm := [
    .expr (.me (.var 1) .insert [.lit (.int 0), .tup [.attr (.var 0) "DIFF_EQUAL", .slc (.var 6) (.lit .none) (.var 7) (.lit .none)]]),
    .aug 2 .Add (.lit (.int 1))]
noncomputable def m_diff_cleanupMergeB4 : List Sm := [
    .assign [.var 8] (.bin .Sub (.bin .Sub (.bin .Sub (.var 2) (.var 3)) (.var 4)) (.lit (.int 1))),
    .ife (.band [.cmp (.var 8) [.GtE] [.lit (.int 0)], .cmp (.idx (.idx (.var 1) (.var 8)) (.lit (.int 0))) [.Eq] [.attr (.var 0) "DIFF_EQUAL"]]) [
      .assign [.idx (.var 1) (.var 8)] (.tup [.idx (.idx (.var 1) (.var 8)) (.lit (.int 0)), .bin .Add (.idx (.idx (.var 1) (.var 8)) (.lit (.int 1))) (.slc (.var 6) (.lit .none) (.var 7) (.lit .none))])] m_diff_cleanupMergeB3,
    .assign [.var 6] (.slc (.var 6) (.var 7) (.lit .none) (.lit .none)),
    .assign [.var 5] (.slc (.var 5) (.var 7) (.lit .none) (.lit .none))]
noncomputable def m_diff_cleanupMergeB5 : List Sm := [
    .assign [.idx (.var 1) (.var 2)] (.tup [.idx (.idx (.var 1) (.var 2)) (.lit (.int 0)), .bin .Add (.slc (.var 6) (.neg (.var 7)) (.lit .none) (.lit .none)) (.idx (.idx (.var 1) (.var 2)) (.lit (.int 1)))]),
    .assign [.var 6] (.slc (.var 6) (.lit .none) (.neg (.var 7)) (.lit .none)),
    .assign [.var 5] (.slc (.var 5) (.lit .none) (.neg (.var 7)) (.lit .none))]
noncomputable def m_diff_cleanupMergeB6 : List Sm := [
    .assign [.var 7] (.imeth (.var 0) "diff_commonPrefix" [.var 6, .var 5]),
    .ife (.cmp (.var 7) [.NotEq] [.lit (.int 0)]) m_diff_cleanupMergeB4 [],
    .assign [.var 7] (.imeth (.var 0) "diff_commonSuffix" [.var 6, .var 5]),
    .ife (.cmp (.var 7) [.NotEq] [.lit (.int 0)]) m_diff_cleanupMergeB5 []]
noncomputable def m_diff_cleanupMergeB7 : List Sm := [
    .ife (.band [.cmp (.var 3) [.NotEq] [.lit (.int 0)], .cmp (.var 4) [.NotEq] [.lit (.int 0)]]) m_diff_cleanupMergeB6 [],
    .assign [.var 9] (.list []),
    .ife (.cmp (.bi .len [.var 5]) [.NotEq] [.lit (.int 0)]) [
      .expr (.me (.var 9) .append [.tup [.attr (.var 0) "DIFF_DELETE", .var 5]])] [],
    .ife (.cmp (.bi .len [.var 6]) [.NotEq] [.lit (.int 0)]) [
      .expr (.me (.var 9) .append [.tup [.attr (.var 0) "DIFF_INSERT", .var 6]])] [],
    .aug 2 .Sub (.bin .Add (.var 3) (.var 4)),
    .assign [.slc (.var 1) (.var 2) (.bin .Add (.bin .Add (.var 2) (.var 3)) (.var 4))] (.var 9),
    .aug 2 .Add (.bin .Add (.bi .len [.var 9]) (.lit (.int 1)))]
noncomputable def m_diff_cleanupMergeB8 : List Sm := [
    .assign [.idx (.var 1) (.bin .Sub (.var 2) (.lit (.int 1)))] (.tup [.idx (.idx (.var 1) (.bin .Sub (.var 2) (.lit (.int 1)))) (.lit (.int 0)), .bin .Add (.idx (.idx (.var 1) (.bin .Sub (.var 2) (.lit (.int 1)))) (.lit (.int 1))) (.idx (.idx (.var 1) (.var 2)) (.lit (.int 1)))]),
    .del (.var 1) (.var 2)]
noncomputable def m_diff_cleanupMergeB9 : List Sm := [
    .ife (.cmp (.bin .Add (.var 3) (.var 4)) [.Gt] [.lit (.int 1)]) m_diff_cleanupMergeB7 [
      .ife (.band [.cmp (.var 2) [.NotEq] [.lit (.int 0)], .cmp (.idx (.idx (.var 1) (.bin .Sub (.var 2) (.lit (.int 1)))) (.lit (.int 0))) [.Eq] [.attr (.var 0) "DIFF_EQUAL"]]) m_diff_cleanupMergeB8 [
        .aug 2 .Add (.lit (.int 1))]],
    .assign [.var 4] (.lit (.int 0)),
    .assign [.var 3] (.lit (.int 0)),
    .assign [.var 5] (.lit (.str [])),
    .assign [.var 6] (.lit (.str []))]
noncomputable def m_diff_cleanupMergeB10 : List Sm := [
    .ife (.cmp (.idx (.idx (.var 1) (.var 2)) (.lit (.int 0))) [.Eq] [.attr (.var 0) "DIFF_INSERT"]) m_diff_cleanupMergeB1 [
      .ife (.cmp (.idx (.idx (.var 1) (.var 2)) (.lit (.int 0))) [.Eq] [.attr (.var 0) "DIFF_DELETE"]) m_diff_cleanupMergeB2 [
        .ife (.cmp (.idx (.idx (.var 1) (.var 2)) (.lit (.int 0))) [.Eq] [.attr (.var 0) "DIFF_EQUAL"]) m_diff_cleanupMergeB9 []]]]
noncomputable def m_diff_cleanupMergeB11 : List Sm := [
    .assign [.idx (.var 1) (.var 2)] (.tup [.idx (.idx (.var 1) (.var 2)) (.lit (.int 0)), .bin .Add (.idx (.idx (.var 1) (.bin .Sub (.var 2) (.lit (.int 1)))) (.lit (.int 1))) (.slc (.idx (.idx (.var 1) (.var 2)) (.lit (.int 1))) (.lit .none) (.neg (.bi .len [.idx (.idx (.var 1) (.bin .Sub (.var 2) (.lit (.int 1)))) (.lit (.int 1))])) (.lit .none))]),
    .assign [.idx (.var 1) (.bin .Add (.var 2) (.lit (.int 1)))] (.tup [.idx (.idx (.var 1) (.bin .Add (.var 2) (.lit (.int 1)))) (.lit (.int 0)), .bin .Add (.idx (.idx (.var 1) (.bin .Sub (.var 2) (.lit (.int 1)))) (.lit (.int 1))) (.idx (.idx (.var 1) (.bin .Add (.var 2) (.lit (.int 1)))) (.lit (.int 1)))])]
noncomputable def m_diff_cleanupMergeB12 : List Sm := [
    .ife (.cmp (.idx (.idx (.var 1) (.bin .Sub (.var 2) (.lit (.int 1)))) (.lit (.int 1))) [.NotEq] [.lit (.str [])]) m_diff_cleanupMergeB11 [],
    .del (.var 1) (.bin .Sub (.var 2) (.lit (.int 1))),
    .assign [.var 10] (.lit (.bool true))]
noncomputable def m_diff_cleanupMergeB13 : List Sm := [
    .assign [.idx (.var 1) (.bin .Sub (.var 2) (.lit (.int 1)))] (.tup [.idx (.idx (.var 1) (.bin .Sub (.var 2) (.lit (.int 1)))) (.lit (.int 0)), .bin .Add (.idx (.idx (.var 1) (.bin .Sub (.var 2) (.lit (.int 1)))) (.lit (.int 1))) (.idx (.idx (.var 1) (.bin .Add (.var 2) (.lit (.int 1)))) (.lit (.int 1)))]),
    .assign [.idx (.var 1) (.var 2)] (.tup [.idx (.idx (.var 1) (.var 2)) (.lit (.int 0)), .bin .Add (.slc (.idx (.idx (.var 1) (.var 2)) (.lit (.int 1))) (.bi .len [.idx (.idx (.var 1) (.bin .Add (.var 2) (.lit (.int 1)))) (.lit (.int 1))]) (.lit .none) (.lit .none)) (.idx (.idx (.var 1) (.bin .Add (.var 2) (.lit (.int 1)))) (.lit (.int 1)))]),
    .del (.var 1) (.bin .Add (.var 2) (.lit (.int 1))),
    .assign [.var 10] (.lit (.bool true))]
noncomputable def m_diff_cleanupMergeB14 : List Sm := [
    .ife (.band [.cmp (.idx (.idx (.var 1) (.bin .Sub (.var 2) (.lit (.int 1)))) (.lit (.int 0))) [.Eq] [.attr (.var 0) "DIFF_EQUAL"], .cmp (.idx (.idx (.var 1) (.bin .Add (.var 2) (.lit (.int 1)))) (.lit (.int 0))) [.Eq] [.attr (.var 0) "DIFF_EQUAL"]]) [
      .ife (.me (.idx (.idx (.var 1) (.var 2)) (.lit (.int 1))) .endswith [.idx (.idx (.var 1) (.bin .Sub (.var 2) (.lit (.int 1)))) (.lit (.int 1))]) m_diff_cleanupMergeB12 [
        .ife (.me (.idx (.idx (.var 1) (.var 2)) (.lit (.int 1))) .startswith [.idx (.idx (.var 1) (.bin .Add (.var 2) (.lit (.int 1)))) (.lit (.int 1))]) m_diff_cleanupMergeB13 []]] [],
    .aug 2 .Add (.lit (.int 1))]
noncomputable def m_diff_cleanupMergeBody : List Sm := [
    .expr (.me (.var 1) .append [.tup [.attr (.var 0) "DIFF_EQUAL", .lit (.str [])]]),
    .assign [.var 2] (.lit (.int 0)),
    .assign [.var 3] (.lit (.int 0)),
    .assign [.var 4] (.lit (.int 0)),
    .assign [.var 5] (.lit (.str [])),
    .assign [.var 6] (.lit (.str [])),
    .whl (.cmp (.var 2) [.Lt] [.bi .len [.var 1]]) m_diff_cleanupMergeB10,
    .ife (.cmp (.idx (.idx (.var 1) (.neg (.lit (.int 1)))) (.lit (.int 1))) [.Eq] [.lit (.str [])]) [
      .expr (.me (.var 1) .pop [])] [],
    .assign [.var 10] (.lit (.bool false)),
    .assign [.var 2] (.lit (.int 1)),
    .whl (.cmp (.var 2) [.Lt] [.bin .Sub (.bi .len [.var 1]) (.lit (.int 1))]) m_diff_cleanupMergeB14,
    .ife (.var 10) [
      .expr (.imeth (.var 0) "diff_cleanupMerge" [.var 1])] []]
noncomputable def pv (p : Part) : V := .tup [.int p.1, .str p.2]
noncomputable def rv (r : Row) : List V := r.map pv
theorem rv_append (a b : Row) : rv (a ++ b) = rv a ++ rv b := List.map_append
theorem rv_len (a : Row) : (rv a).length = a.length := List.length_map ..
theorem pyGet_map {α β : Type} (f : α → β) (xs : List α) (i : Int) : pyGet (xs.map f) i = (pyGet xs i).map f := by
  unfold pyGet
  rw [List.length_map]
  cases seqIndex? i xs.length with
  | none => rfl
  | some j => simp
theorem pyGet_at {α : Type} (A : List α) (x : α) (B : List α) {k : Int} (h : k = (A.length : Nat)) : pyGet (A ++ x :: B) k = some x := by
  subst h
  rw [pyGet_nn _ _ (by simp)]
  simp
theorem pyIx_at {α : Type} (A : List α) (x : α) (B : List α) {k : Int} (h : k = (A.length : Nat)) : pyIx (A ++ x :: B).length k = some A.length := by
  subst h
  unfold pyIx seqIndex?
  have e : (if (A.length : Int) < 0 then (A.length : Int) + (A ++ x :: B).length else (A.length : Int)) = A.length := if_neg (by lia)
  simp only [e]
  rw [if_pos (by simp; lia)]; simp
theorem set_at {α : Type} (A : List α) (x y : α) (B : List α) : (A ++ x :: B).set A.length y = A ++ y :: B := by simp
theorem erase_at {α : Type} (A : List α) (x : α) (B : List α) : (A ++ x :: B).eraseIdx A.length = A ++ B := by
  induction A with
  | nil => rfl
  | cons a A ih => simpa using ih
noncomputable def Ext (d : Addr) (m m' : Mem) : Prop := ∀ a o, a ≠ d → m a = some o → m' a = some o
theorem Ext.refl (d : Addr) (m : Mem) : Ext d m m := fun _ _ _ e => e
theorem Ext.trans {d : Addr} {m m' m'' : Mem} (x : Ext d m m') (y : Ext d m' m'') : Ext d m m'' := fun a o h e => y a o h (x a o h e)
theorem Ext.upd (d : Addr) (m : Mem) (o : O) : Ext d m (upd m d o) := fun a x h e => by rw [upn _ _ h]; exact e
theorem Ext.new {d a : Addr} {m : Mem} (h : m a = none) (o : O) : Ext d m (Mine.Internal.upd m a o) := fun b x _ e => by
  rw [upn _ _ (fun q => by subst q; rw [h] at e; cases e)]; exact e
theorem Ext.newIn {d a : Addr} {m m' : Mem} (x : Ext d m m') (h : m a = none) (o : O) : Ext d m (Mine.Internal.upd m' a o) := fun b y hb e => by
  rw [upn _ _ (fun q => by subst q; rw [h] at e; cases e)]; exact x b y hb e
section
variable {P : PC} {m : Mem} {K : V → Prop}
theorem tiny_lit (n : Nat) (h : n < 1000) : tiny (n : Int) := by walk_at "t"
theorem ix_row {d : Addr} {L : Row} {k : Int} {q : Part} (hm : m d = some (.list (rv L))) (hk : tiny k) (hg : pyGet L k = some q) (h : K (pv q)) : wpIdx m (.obj d) (.int k) K :=
  ⟨hk, _, pv q, hm, by unfold rv; rw [pyGet_map, hg]; rfl, h⟩
theorem ix_fst {q : Part} (h : K (.int q.1)) : wpIdx m (pv q) (.int 0) K := ⟨tiny_lit 0 (by exact Nat.succ_pos _), _, rfl, h⟩
theorem ix_snd {q : Part} (h : K (.str q.2)) : wpIdx m (pv q) (.int 1) K := ⟨tiny_lit 1 (by exact Nat.le_add_left ..), _, rfl, h⟩
noncomputable def noFldL : List String := ["DIFF_DELETE", "DIFF_INSERT", "DIFF_EQUAL", "diff_commonPrefix", "diff_commonSuffix", "diff_cleanupMerge", "diff_main", "diff_compute", "diff_bisect", "diff_bisectSplit", "diff_halfMatch", "diff_xIndex", "diff_text1", "diff_text2", "diff_levenshtein", "diff_cleanupEfficiency"]
noncomputable def noFld (n : String) : Bool := noFldL.contains n
noncomputable def Tool (P : PC) (m : Mem) (t : Addr) : Prop := ∃ dd fs, m t = some (.inst P.cls dd) ∧ m dd = some (.dict fs) ∧ ∀ n, noFld n = true → lookF n fs = none
theorem Tool.ext {t d : Addr} {m' : Mem} (h : Tool P m t) (hd : ∃ l, m d = some (.list l)) (x : Ext d m m') : Tool P m' t := by
  obtain ⟨dd, fs, h1, h2, h3⟩ := h
  obtain ⟨l, hl⟩ := hd
  refine ⟨dd, fs, x _ _ (fun q => ?_) h1, x _ _ (fun q => ?_) h2, h3⟩
  · rw [q, hl] at h1; cases h1
  · rw [q, hl] at h2; cases h2
theorem at_cc {t : Addr} {n : String} {v : V} (h : Tool P m t) (hf : noFld n = true) (hc : P.cc n = some v) (q : K v) : wpAttr P m (.obj t) n K := by
  obtain ⟨dd, fs, h1, h2, h3⟩ := h
  refine ⟨dd, fs, h1, h2, ?_⟩
  rw [h3 n hf]
  exact ⟨v, hc, q⟩
theorem im_ok {t : Addr} {n : String} (h : Tool P m t) (hf : noFld n = true) : ∃ a d fs, V.obj t = .obj a ∧ m a = some (.inst P.cls d) ∧ m d = some (.dict fs) ∧ lookF n fs = none := by
  obtain ⟨dd, fs, h1, h2, h3⟩ := h
  exact ⟨t, dd, fs, rfl, h1, h2, h3 n hf⟩
end
structure Cm (P : PC) : Prop where
  cD : noFld "DIFF_DELETE" = true ∧ P.cc "DIFF_DELETE" = some (.int (-1))
  cI : noFld "DIFF_INSERT" = true ∧ P.cc "DIFF_INSERT" = some (.int 1)
  cE : noFld "DIFF_EQUAL" = true ∧ P.cc "DIFF_EQUAL" = some (.int 0)
  fp : noFld "diff_commonPrefix" = true
  fs : noFld "diff_commonSuffix" = true
  fm : noFld "diff_cleanupMerge" = true
  cp : ∀ {s : V} {x y : Tx} {Q : V → Mem → Prop} {m : Mem}, sma x.length → sma y.length → Q (.int (lcp x y)) m → P.meth "diff_commonPrefix" [s, .str x, .str y] Q m
  cs : ∀ {s : V} {x y : Tx} {Q : V → Mem → Prop} {m : Mem}, sma x.length → sma y.length → Q (.int (lcs x y)) m → P.meth "diff_commonSuffix" [s, .str x, .str y] Q m
noncomputable abbrev cmS (t d : Addr) (p cd ci : Int) (td ti : Tx) (x7 x8 x9 x10 : Option V) (m : Mem) : St :=
  ⟨[some (.obj t), some (.obj d), some (.int p), some (.int cd), some (.int ci), some (.str td), some (.str ti), x7, x8, x9, x10], m⟩
section
variable {P : PC} {Q : Fl → St → Prop} {t d : Addr} {td ti : Tx} {x7 x8 x9 x10 : Option V} {m : Mem}
theorem cm_b1 {L : Row} {p cd ci : Int} {q : Part} (hm : m d = some (.list (rv L))) (hp : tiny p) (hg : pyGet L p = some q) (h1 : sma ti.length) (h2 : sma q.2.length)
    (h : Q .next (cmS t d (p + 1) cd (ci + 1) td (ti ++ q.2) x7 x8 x9 x10 m)) : wpSs P m_diff_cleanupMergeB1 Q (cmS t d p cd ci td ti x7 x8 x9 x10 m) := by
  unfold m_diff_cleanupMergeB1
  walk_at "D"
  refine ix_row hm hp hg (ix_snd ?_)
  walk_at "D"
  exact ⟨h1, h2, h⟩
theorem cm_b2 {L : Row} {p cd ci : Int} {q : Part} (hm : m d = some (.list (rv L))) (hp : tiny p) (hg : pyGet L p = some q) (h1 : sma td.length) (h2 : sma q.2.length)
    (h : Q .next (cmS t d (p + 1) (cd + 1) ci (td ++ q.2) ti x7 x8 x9 x10 m)) : wpSs P m_diff_cleanupMergeB2 Q (cmS t d p cd ci td ti x7 x8 x9 x10 m) := by
  unfold m_diff_cleanupMergeB2
  walk_at "D"
  refine ix_row hm hp hg (ix_snd ?_)
  walk_at "D"
  exact ⟨h1, h2, h⟩
theorem rv_set (A B : Row) (q q' : Part) : (rv (A ++ q :: B)).set A.length (pv q') = rv (A ++ q' :: B) := by
  unfold rv
  rw [List.map_append, List.map_append, List.map_cons, List.map_cons]
  have := set_at (A.map pv) (pv q) (pv q') (B.map pv)
  rwa [List.length_map] at this
theorem rv_erase (A B : Row) (q : Part) : (rv (A ++ q :: B)).eraseIdx A.length = rv (A ++ B) := by
  unfold rv
  rw [ List.map_append, List.map_append, List.map_cons ]
  have := erase_at (A.map pv) (pv q) (B.map pv)
  rwa [List.length_map] at this
theorem rv_ix (A B : Row) (q : Part) {k : Int} (h : k = (A.length : Nat)) : pyIx (rv (A ++ q :: B)).length k = some A.length := by
  rw [rv_len]; exact pyIx_at _ _ _ h
theorem pySl_nfrom {x : Tx} {k : Nat} (h0 : 0 < k) (h : k ≤ x.length) : pySl x (some (-(k : Int))) none = x.drop (x.length - k) := by
  unfold pySl slLo slHi
  simp only [Option.elim]
  rw [clip_neg h0 h, List.take_of_length_le (by simp)]
theorem pySl_nto {x : Tx} {k : Nat} (h0 : 0 < k) (h : k ≤ x.length) : pySl x none (some (-(k : Int))) = x.take (x.length - k) := by
  unfold pySl slLo slHi
  simp only [Option.elim]
  rw [clip_neg h0 h]; simp
theorem addLast_len {done : Row} (h : Dn done) (x : Tx) : (addLast done x).length = done.length + (if done = [] then 1 else 0) := by
  rcases h with rfl | ⟨dn, u, rfl⟩
  · rfl
  · rw [addLast_cat]; simp
theorem small_of {n k : Nat} (h : n ≤ k) (hk : sma k) : sma n := by unfold sma at *; exact Nat.le_trans ‹_› ‹_›
theorem cm_b4 (c : Cm P) {done rest : Row} {p cd ci : Int} {k : Nat} (hT : Tool P m t) (hm : m d = some (.list (rv (done ++ rest)))) (hdn : Dn done) (hp : p - cd - ci = (done.length : Int)) (hL : sma (done ++ rest).length) (hk : k ≤ ti.length) (hk2 : k ≤ td.length) (h1 : sma ti.length) (h2 : sma td.length)
    (hu : ∀ q ∈ done, sma q.2.length)
    (h : ∀ m' x8 (p' : Int), p' = p + (addLast done (ti.take k)).length - done.length → m' d = some (.list (rv (addLast done (ti.take k) ++ rest))) → Ext d m m' → Q .next (cmS t d p' cd ci (td.drop k) (ti.drop k) (some (.int k)) x8 x9 x10 m')) :
    wpSs P m_diff_cleanupMergeB4 Q (cmS t d p cd ci td ti (some (.int k)) x8 x9 x10 m) := by
  have tail : ∀ m' (p' : Int) x8', Q .next (cmS t d p' cd ci (td.drop k) (ti.drop k) (some (.int k)) x8' x9 x10 m') →
      wpSs P [.assign [.var 6] (.slc (.var 6) (.var 7) (.lit .none) (.lit .none)), .assign [.var 5] (.slc (.var 5) (.var 7) (.lit .none) (.lit .none))] Q (cmS t d p' cd ci td ti (some (.int k)) x8' x9 x10 m') := fun m' p' x8' q => by
    walk_at "D"
    refine ⟨h1, h2, ?_⟩
    rw [ pySl_from ti hk, pySl_from td hk2 ]
    exact q
  have e0 : p - cd - ci - 1 = (done.length : Int) - 1 := by lia
  have hTd : ∃ l, m d = some (.list l) := ⟨_, hm⟩
  unfold m_diff_cleanupMergeB4
  refine ssx fun Q1 n1 => ?_
  walk_at "D"
  refine n1 _ (ssx fun Q2 n2 => s_ife fun K kt kf => ?_)
  walk_at "D"
  rw [ e0 ]
  rcases hdn with rfl | ⟨dn, u, rfl⟩
  · refine if_no (by simp) (kf _ ?_)
    unfold m_diff_cleanupMergeB3
    refine ssx fun Q3 n3 => ?_
    walk_at "D"
    refine ⟨hTd, at_cc hT c.cE.1 c.cE.2 ⟨h1, by decide, tiny_lit 0 (by exact Nat.succ_pos _), _, hm, by rw [rv_len]; exact hL, n3 _ ?_⟩⟩
    walk_at "D"
    rw [ pySl_to ti hk ]
    exact n2 _ (tail _ _ _ (h _ _ _ (by simp [addLast]) (ups _ _ _) (.upd _ _ _)))
  · have hg : pyGet (dn ++ (0, u) :: rest) ((dn ++ [((0 : Int), u)]).length - 1 : Int) = some ((0 : Int), u) := pyGet_at _ _ _ (by simp)
    have hm' : m d = some (.list (rv (dn ++ (0, u) :: rest))) := by rw [ hm ]; simp
    have ht : tiny ((dn ++ [((0 : Int), u)]).length - 1 : Int) := by
      unfold sma at hL; unfold tiny; simp at hL ⊢; lia
    refine if_yes (by simp) (ix_row hm' ht hg (ix_fst (at_cc hT c.cE.1 c.cE.2 ?_)))
    walk_at "D"
    refine if_yes rfl (kt _ (ssx fun Q3 n3 => ?_))
    walk_at "D"
    refine ix_row hm' ht hg (ix_fst (ix_row hm' ht hg (ix_snd ?_)))
    walk_at "D"
    rw [ pySl_to ti hk ]
    refine ⟨h1, hu _ (List.mem_append_right _ (List.mem_singleton.mpr rfl)), small_of (by simp; lia) h1, d, _, _, dn.length, rfl, rfl, ht, hm', rv_ix _ _ _ (by simp), n3 _ (ss_nil (n2 _ (tail _ _ _ (h _ _ _ ?_ ?_ (.upd _ _ _)))))⟩
    · rw [addLast_cat]; simp
    · rw [ups, addLast_cat]
      show some (O.list ((rv (dn ++ (0, u) :: rest)).set dn.length (pv (0, u ++ ti.take k)))) = _
      rw [rv_set]; simp
theorem cm_b5 {A rest : Row} {p cd ci : Int} {k : Nat} {tx : Tx} (hm : m d = some (.list (rv (A ++ (0, tx) :: rest)))) (hp : p = (A.length : Int)) (hs : tiny p) (h0 : 0 < k) (hk : k ≤ ti.length) (hk2 : k ≤ td.length) (h1 : sma ti.length) (h2 : sma td.length) (h3 : sma tx.length)
    (h : ∀ m', m' d = some (.list (rv (A ++ (0, ti.drop (ti.length - k) ++ tx) :: rest))) → Ext d m m' → Q .next (cmS t d p cd ci (td.take (td.length - k)) (ti.take (ti.length - k)) (some (.int k)) x8 x9 x10 m')) :
    wpSs P m_diff_cleanupMergeB5 Q (cmS t d p cd ci td ti (some (.int k)) x8 x9 x10 m) := by
  unfold m_diff_cleanupMergeB5
  refine ssx fun Q1 n1 => ?_
  have hg : pyGet (A ++ ((0 : Int), tx) :: rest) p = some ((0 : Int), tx) := pyGet_at _ _ _ hp
  walk_at "D"
  refine ix_row hm hs hg (ix_fst ⟨h1, ix_row hm hs hg (ix_snd ?_)⟩)
  walk_at "D"
  rw [ pySl_nfrom h0 hk ]
  refine ⟨small_of (by simp) h1, h3, d, _, _, A.length, rfl, rfl, hs, hm, rv_ix _ _ _ hp, n1 _ ?_⟩
  walk_at "D"
  refine ⟨h1, h2, ?_⟩
  rw [ pySl_nto h0 hk, pySl_nto h0 hk2 ]
  refine h _ ?_ (.upd _ _ _)
  rw [ups]
  exact congrArg (fun l => some (O.list l)) (rv_set A rest (0, tx) (0, ti.drop (ti.length - k) ++ tx))
end
noncomputable def Gr (m m' : Mem) : Prop := ∀ a o, m a = some o → m' a = some o
theorem Gr.refl (m : Mem) : Gr m m := fun _ _ e => e
theorem Gr.trans {m m' m'' : Mem} (x : Gr m m') (y : Gr m' m'') : Gr m m'' := fun a o e => y a o (x a o e)
theorem Gr.new {a : Addr} {m : Mem} (h : m a = none) (o : O) : Gr m (upd m a o) := fun b x e => by
  rw [upn _ _ (fun q => by subst q; rw [h] at e; cases e)]; exact e
theorem Gr.set {m m' : Mem} (x : Gr m m') {a : Addr} (h : m a = none) (o : O) : Gr m (upd m' a o) := fun b y e => by
  rw [upn _ _ (fun q => by subst q; rw [h] at e; cases e)]; exact x b y e
theorem Gr.fresh {m m' : Mem} (g : Gr m m') {a : Addr} (h : m' a = none) : m a = none := by
  cases e : m a with
  | none => rfl
  | some o => rw [g a o e] at h; cases h
theorem Tool.gr {P : PC} {m m' : Mem} {t : Addr} (h : Tool P m t) (g : Gr m m') : Tool P m' t := by
  obtain ⟨dd, fs, h1, h2, h3⟩ := h
  exact ⟨dd, fs, g _ _ h1, g _ _ h2, h3⟩
section
variable {P : PC} {Q : Fl → St → Prop} {t d : Addr} {td ti : Tx} {x7 x8 x9 x10 : Option V} {m : Mem}
theorem trimA_done {q : Trim} : (trimA q).done = if lcp q.ti q.td = 0 then q.done else addLast q.done (q.ti.take (lcp q.ti q.td)) := by
  unfold trimA; split <;> rfl
theorem cm_b6 (c : Cm P) {done run rest : Row} {p cd ci : Int} {tx : Tx} (hT : Tool P m t) (hm : m d = some (.list (rv (done ++ (run ++ (0, tx) :: rest))))) (hdn : Dn done) (hr : cd + ci = (run.length : Int)) (hp : p = (done.length + run.length : Nat)) (hL : sma (done ++ (run ++ (0, tx) :: rest)).length)
    (h1 : sma ti.length) (h2 : sma td.length) (h3 : sma tx.length) (hu : ∀ q ∈ done, sma q.2.length)
    (h : ∀ m' x7 x8 (p' : Int), p' = ((trim ⟨done, td, ti, tx⟩).done.length + run.length : Nat) → m' d = some (.list (rv ((trim ⟨done, td, ti, tx⟩).done ++ (run ++ (0, (trim ⟨done, td, ti, tx⟩).t) :: rest)))) → Ext d m m' →
      Q .next (cmS t d p' cd ci (trim ⟨done, td, ti, tx⟩).td (trim ⟨done, td, ti, tx⟩).ti x7 x8 x9 x10 m')) :
    wpSs P m_diff_cleanupMergeB6 Q (cmS t d p cd ci td ti x7 x8 x9 x10 m) := by
  have L := lcp_le ti td
  unfold m_diff_cleanupMergeB6
  refine ssx fun Q1 n1 => ?_
  walk_at "D"
  refine ⟨im_ok hT c.fp, c.cp h1 h2 (n1 _ (ssx fun Q2 n2 => ?_))⟩
  have mid : ∀ m' x8 (p' : Int), p' = ((trimA ⟨done, td, ti, tx⟩).done.length + run.length : Nat) → m' d = some (.list (rv ((trimA ⟨done, td, ti, tx⟩).done ++ (run ++ (0, tx) :: rest)))) → Ext d m m' →
      Q2 .next (cmS t d p' cd ci (trimA ⟨done, td, ti, tx⟩).td (trimA ⟨done, td, ti, tx⟩).ti (some (.int (lcp ti td : Nat))) x8 x9 x10 m') := fun m' x8 p' hp' hm' hx => by
    have s1 : sma (trimA ⟨done, td, ti, tx⟩).ti.length := by unfold trimA; split <;> first | exact h1 | exact small_of (by simp) h1
    have s2 : sma (trimA ⟨done, td, ti, tx⟩).td.length := by unfold trimA; split <;> first | exact h2 | exact small_of (by simp) h2
    have ht : (trimA ⟨done, td, ti, tx⟩).t = tx := by unfold trimA; split <;> rfl
    have e : trim ⟨done, td, ti, tx⟩ = trimB (trimA ⟨done, td, ti, tx⟩) := rfl
    rw [e] at h
    have hdA : (trimB (trimA ⟨done, td, ti, tx⟩)).done = (trimA ⟨done, td, ti, tx⟩).done := (trimB_w _).2
    have hLA : sma (trimA ⟨done, td, ti, tx⟩).done.length := by
      have : (trimA ⟨done, td, ti, tx⟩).done.length ≤ done.length + 1 := by
        rw [trimA_done]; dsimp only; split
        · exact Nat.le_add_right ..
        · rw [addLast_len hdn]; split <;> grind
      refine small_of this ?_
      unfold sma at hL ⊢; simp at hL; grind
    have hLr : sma run.length := small_of (by simp; grind) hL
    generalize trimA ⟨done, td, ti, tx⟩ = q at *
    have L2 := lcs_le q.ti q.td
    refine n2 _ (ssx fun Q3 n3 => ?_)
    walk_at "D"
    refine ⟨im_ok (hT.ext ⟨_, hm⟩ hx) c.fs, c.cs s1 s2 (n3 _ (ssx fun Q4 n4 => s_ife fun K kt kf => ?_))⟩
    walk_at "D"
    by_cases hz : lcs q.ti q.td = 0
    · have eB : trimB q = q := by unfold trimB; rw [if_pos hz]
      rw [eB, ht] at h
      rw [show (!decide ((lcs q.ti q.td : Int) = 0)) = false by simp [hz]]
      exact kf _ (ss_nil (n4 _ (ss_nil (h _ _ _ _ hp' hm' hx))))
    · have eB : trimB q = ⟨q.done, q.td.take (q.td.length - lcs q.ti q.td), q.ti.take (q.ti.length - lcs q.ti q.td), q.ti.drop (q.ti.length - lcs q.ti q.td) ++ q.t⟩ := by unfold trimB; rw [if_neg hz]
      rw [eB, ht] at h
      rw [show (!decide ((lcs q.ti q.td : Int) = 0)) = true by simp [hz]]
      have e3 : q.done ++ (run ++ ((0 : Int), tx) :: rest) = (q.done ++ run) ++ ((0 : Int), tx) :: rest := by simp
      refine kt _ (cm_b5 (A := q.done ++ run) (by rw [hm', e3]) (by rw [hp', List.length_append]) ?_ (by lia) L2.1 L2.2 s1 s2 h3 fun m'' hm'' hx' => n4 _ (ss_nil (h _ _ _ _ hp' ?_ (hx.trans hx'))))
      · unfold sma at hLA hLr; unfold tiny; (clear hr hp L L2 hz; omega)
      · rw [hm'']; simp
  refine s_ife fun K kt kf => ?_
  walk_at "D"
  by_cases hz : lcp ti td = 0
  · have eA : trimA ⟨done, td, ti, tx⟩ = ⟨done, td, ti, tx⟩ := by unfold trimA; rw [if_pos hz]
    rw [eA] at mid
    rw [show (!decide ((lcp ti td : Int) = 0)) = false by simp [hz]]
    exact kf _ (ss_nil (mid _ _ _ hp hm (.refl _ _)))
  · have eA : trimA ⟨done, td, ti, tx⟩ = ⟨addLast done (ti.take (lcp ti td)), td.drop (lcp ti td), ti.drop (lcp ti td), tx⟩ := by unfold trimA; rw [if_neg hz]
    rw [eA] at mid
    rw [show (!decide ((lcp ti td : Int) = 0)) = true by simp [hz]]
    have hpp : p - cd - ci = (done.length : Int) := by grind
    refine kt _ (cm_b4 c (done := done) (rest := run ++ (0, tx) :: rest) hT hm hdn hpp hL L.1 L.2 h1 h2 hu fun m' x8 p' hp' hm' hx => mid _ _ _ ?_ hm' hx)
    dsimp only
    rw [hp', hp]; grind
theorem mid_slice {A run new rest : Row} : (rv (A ++ (run ++ rest))).take (slLo (rv (A ++ (run ++ rest))).length (some (A.length : Int))) ++ rv new ++ (rv (A ++ (run ++ rest))).drop (max (slLo (rv (A ++ (run ++ rest))).length (some (A.length : Int))) (slHi (rv (A ++ (run ++ rest))).length (some ((A.length + run.length : Nat) : Int)))) = rv (A ++ (new ++ rest)) := by
  have e1 : min A.length (A.length + (run.length + rest.length)) = A.length := Nat.min_eq_left (Nat.le_add_right ..)
  have e2 : min (A.length + run.length) (A.length + (run.length + rest.length)) = A.length + run.length := Nat.min_eq_left (Nat.add_le_add_left (Nat.le_add_right ..) _)
  unfold slLo slHi
  simp only [Option.elim, clip_nn, rv_len, List.length_append]
  rw [e1, e2, Nat.max_eq_right (Nat.le_add_right ..), rv_append, rv_append, rv_append, rv_append, List.take_left' (rv_len A), ← List.append_assoc (rv A), List.drop_left' (by rw [List.length_append, rv_len, rv_len]), List.append_assoc]
theorem cm_fin {a : Addr} {A run rest new : Row} {p cd ci : Int} (had : a ≠ d) (hm : m d = some (.list (rv (A ++ (run ++ rest))))) (ha : m a = some (.list (rv new))) (hr : cd + ci = (run.length : Int)) (hp : p = (A.length + run.length : Nat)) (hL : sma (A ++ (run ++ rest)).length) (sz : sma new.length)
    (h : ∀ m' (p' : Int), p' = (A.length + new.length + 1 : Nat) → m' d = some (.list (rv (A ++ (new ++ rest)))) → Ext d m m' → Q .next (cmS t d p' cd ci td ti x7 x8 (some (.obj a)) x10 m')) :
    wpSs P [.aug 2 .Sub (.bin .Add (.var 3) (.var 4)),
    .assign [.slc (.var 1) (.var 2) (.bin .Add (.bin .Add (.var 2) (.var 3)) (.var 4))] (.var 9),
    .aug 2 .Add (.bin .Add (.bi .len [.var 9]) (.lit (.int 1)))] Q (cmS t d p cd ci td ti x7 x8 (some (.obj a)) x10 m) := by
  refine ssx fun Q2 n2 => ?_
  walk_at "D"
  rw [ show p - (cd + ci) = (A.length : Int) by rw [hr, hp]; grind ]
  refine n2 _ (ssx fun Q3 n3 => ?_)
  walk_at "D"
  have e : (A.length : Int) + cd + ci = ((A.length + run.length : Nat) : Int) := by lia
  refine ⟨d, a, some (A.length : Int), some ((A.length + run.length : Nat) : Int), _, _, rfl, rfl, rfl, by rw [ e ]; rfl, Ne.symm had, hm, ha, by rw [rv_len]; exact hL, by rw [rv_len]; exact sz, n3 _ ?_⟩
  walk_at "D"
  refine ⟨_, .inl (by rw [upn _ _ had]; exact ha), by rw [rv_len]; exact sz, h _ _ (by rw [rv_len]; rfl) ?_ (.upd _ _ _)⟩
  rw [ups]
  exact congrArg (fun l => some (O.list l)) mid_slice
theorem lenV_ne {x : Tx} (h : x ≠ []) : (!decide ((x.length : Int) = 0)) = true := by cases x with | nil => exact absurd rfl h | cons => simp; grind
theorem cm_two (c : Cm P) {a : Addr} {l : Row} (hT : Tool P m t) (had : a ≠ d) (hm : ∃ l, m d = some (.list l)) (ha : m a = some (.list (rv l))) (hl : l.length ≤ 1) (h1 : sma ti.length) {p cd ci : Int}
    (h : ∀ m', m' d = m d → m' a = some (.list (rv (l ++ if ti = [] then [] else [(1, ti)]))) → (∀ m0, Ext d m0 m → m0 a = none → Ext d m0 m') → Q .next (cmS t d p cd ci td ti x7 x8 (some (.obj a)) x10 m')) :
    wpS P (.ife (.cmp (.bi .len [.var 6]) [.NotEq] [.lit (.int 0)]) [.expr (.me (.var 9) .append [.tup [.attr (.var 0) "DIFF_INSERT", .var 6]])] []) Q (cmS t d p cd ci td ti x7 x8 (some (.obj a)) x10 m) := by
  refine s_ife fun K kt kf => ?_
  walk_at "D"
  refine ⟨h1, ?_⟩
  by_cases hz : ti = []
  · subst hz
    exact kf _ (ss_nil (h _ rfl (by rw [if_pos rfl, List.append_nil]; exact ha) fun _ e _ => e))
  · rw [ lenV_ne hz ]
    refine kt _ (ssx fun Q4 n4 => ?_)
    walk_at "D"
    refine ⟨⟨_, ha⟩, at_cc hT c.cI.1 c.cI.2 ⟨_, ha, by rw [rv_len]; exact Nat.le_trans hl (by decide), n4 _ (ss_nil (h _ (upn _ _ (Ne.symm had)) (by rw [ups, if_neg hz, rv_append]; rfl) fun _ e hn => e.newIn hn _))⟩⟩
theorem cm_tail (c : Cm P) {A run : Row} {rest : Row} {p cd ci : Int} {cdn cin : Nat} (hT : Tool P m t) (hm : m d = some (.list (rv (A ++ (run ++ rest))))) (hr : cd + ci = (run.length : Int)) (hp : p = (A.length + run.length : Nat)) (hc0 : 0 ≤ cd) (hc1 : 0 ≤ ci) (hL : sma (A ++ (run ++ rest)).length) (h1 : sma ti.length) (h2 : sma td.length)
    (h : ∀ m' x9 (p' : Int), p' = (A.length + (ops td ti).length + 1 : Nat) → m' d = some (.list (rv (A ++ (ops td ti ++ rest)))) → Ext d m m' → Q .next (cmS t d p' cd ci td ti x7 x8 x9 x10 m')) :
    wpSs P [.assign [.var 9] (.list []),
    .ife (.cmp (.bi .len [.var 5]) [.NotEq] [.lit (.int 0)]) [
      .expr (.me (.var 9) .append [.tup [.attr (.var 0) "DIFF_DELETE", .var 5]])] [],
    .ife (.cmp (.bi .len [.var 6]) [.NotEq] [.lit (.int 0)]) [
      .expr (.me (.var 9) .append [.tup [.attr (.var 0) "DIFF_INSERT", .var 6]])] [],
    .aug 2 .Sub (.bin .Add (.var 3) (.var 4)),
    .assign [.slc (.var 1) (.var 2) (.bin .Add (.bin .Add (.var 2) (.var 3)) (.var 4))] (.var 9),
    .aug 2 .Add (.bin .Add (.bi .len [.var 9]) (.lit (.int 1)))] Q (cmS t d p cd ci td ti x7 x8 x9 x10 m) := by
  refine ssx fun Q1 n1 => ?_
  walk_at "D"
  intro a ha
  refine n1 _ ?_
  have had : a ≠ d := fun q => by subst q; rw [hm] at ha; exact (Option.some_ne_none _ ha).elim
  have sz : sma (ops td ti).length := small_of (k := 2) (by unfold ops; split <;> split <;> simp) (by unfold sma; exact Nat.le_add_left ..)
  have r1 : (upd m a (O.list [])) d = some (.list (rv (A ++ (run ++ rest)))) := by rw [ upn _ _ (Ne.symm had) ]; exact hm
  refine ssx fun Q2 n2 => s_ife fun K kt kf => ?_
  walk_at "D"
  refine ⟨h2, ?_⟩
  have two : ∀ m2, m2 d = some (.list (rv (A ++ (run ++ rest)))) → m2 a = some (.list (rv (if td = [] then [] else [(-1, td)]))) → Ext d m m2 → Q2 .next (cmS t d p cd ci td ti x7 x8 (some (.obj a)) x10 m2) := fun m2 g1 g2 g4 =>
    n2 _ (ssx fun Q3 n3 => cm_two c (hT.ext ⟨_, hm⟩ g4) had ⟨_, g1⟩ g2 (by split <;> simp) h1 fun m3 e1 e2 e3 => n3 _ (cm_fin (new := ops td ti) had (e1.trans g1) e2 hr hp hL sz fun m' p' a1 a2 a3 => h m' _ p' a1 a2 ((e3 m g4 ha).trans a3)))
  by_cases hz : td = []
  · subst hz
    exact kf _ (ss_nil (two _ r1 (ups _ _ _) (.new ha _)))
  · rw [ lenV_ne hz ]
    refine kt _ (ssx fun Q4 n4 => ?_)
    walk_at "D"
    refine ⟨⟨[], ups _ _ _⟩, at_cc (hT.ext ⟨_, hm⟩ (.new ha _)) c.cD.1 c.cD.2 ⟨[], ups _ _ _, by unfold sma; simp, n4 _ (ss_nil (two _ ?_ ?_ ?_))⟩⟩
    · rw [ upn _ _ (Ne.symm had) ]; exact r1
    · rw [ups, if_neg hz]; rfl
    · rw [upd_upd]; exact .new ha _
end
section
variable {P : PC} {Q : Fl → St → Prop} {t d : Addr} {td ti : Tx} {x7 x8 x9 x10 : Option V} {m : Mem}
theorem cat_le (k : Int) (r : Row) : (cat k r).length ≤ phi r := by
  induction r with
  | nil => simp [cat]
  | cons p r ih =>
    simp only [ cat_cons, phi_cons, List.length_append ]
    split
    · lia
    · simp only [ List.length_nil ]; grind
theorem trim_lens (q : Trim) : (trim q).ti.length ≤ q.ti.length ∧ (trim q).td.length ≤ q.td.length := by
  have a : (trimA q).ti.length ≤ q.ti.length ∧ (trimA q).td.length ≤ q.td.length := by unfold trimA; split <;> simp
  have b : (trim q).ti.length ≤ (trimA q).ti.length ∧ (trim q).td.length ≤ (trimA q).td.length := by unfold trim trimB; split <;> simp
  lia
theorem cm_b7 (c : Cm P) {done run rest : Row} {p : Int} {tx : Tx} (hT : Tool P m t) (hm : m d = some (.list (rv (done ++ (run ++ (0, tx) :: rest))))) (hdn : Dn done) (hr : Run run) (hp : p = (done.length + run.length : Nat)) (hφ : phi (done ++ (run ++ (0, tx) :: rest)) ≤ 1000)
    (h : ∀ m' td' ti' x7 x8 x9 (p' : Int), p' = (endR (trimR done run tx)).length → m' d = some (.list (rv (endR (trimR done run tx) ++ rest))) → Ext d m m' → Q .next (cmS t d p' (cnt (-1) run) (cnt 1 run) td' ti' x7 x8 x9 x10 m')) :
    wpSs P m_diff_cleanupMergeB7 Q (cmS t d p (cnt (-1) run) (cnt 1 run) (cat (-1) run) (cat 1 run) x7 x8 x9 x10 m) := by
  have hc := run_cnt hr
  have hL := llp (done ++ (run ++ (0, tx) :: rest))
  have φ1 : phi done + (phi run + (tx.length + 1 + phi rest)) ≤ 1000 := by rw [pha, pha, phi_cons] at hφ; exact hφ
  have c1 := cat_le 1 run
  have c2 := cat_le (-1) run
  have s1 : sma (cat 1 run).length := by unfold sma; grind
  have s2 : sma (cat (-1) run).length := by unfold sma; grind
  have tail : ∀ m' td' ti' x7 x8 (p' : Int) (q : Trim), q = trimR done run tx → td' = q.td → ti' = q.ti → p' = (q.done.length + run.length : Nat) → m' d = some (.list (rv (q.done ++ (run ++ (0, q.t) :: rest)))) → Ext d m m' → td'.length ≤ 1000 → ti'.length ≤ 1000 →
      wpSs P [.assign [.var 9] (.list []),
    .ife (.cmp (.bi .len [.var 5]) [.NotEq] [.lit (.int 0)]) [
      .expr (.me (.var 9) .append [.tup [.attr (.var 0) "DIFF_DELETE", .var 5]])] [],
    .ife (.cmp (.bi .len [.var 6]) [.NotEq] [.lit (.int 0)]) [
      .expr (.me (.var 9) .append [.tup [.attr (.var 0) "DIFF_INSERT", .var 6]])] [],
    .aug 2 .Sub (.bin .Add (.var 3) (.var 4)),
    .assign [.slc (.var 1) (.var 2) (.bin .Add (.bin .Add (.var 2) (.var 3)) (.var 4))] (.var 9),
    .aug 2 .Add (.bin .Add (.bi .len [.var 9]) (.lit (.int 1)))] Q (cmS t d p' (cnt (-1) run) (cnt 1 run) td' ti' x7 x8 x9 x10 m') := fun m' td' ti' x7 x8 p' q hq e1 e2 hp' hm' hx z1 z2 => by
    subst e1; subst e2
    have hw : tw q ≤ phi done + (cat (-1) run).length + (cat 1 run).length + tx.length := by
      rw [hq]; unfold trimR
      split
      · exact (trim_w _ hdn).1
      · exact Nat.le_refl _
    have lq := llp q.done
    have lr := llp rest
    have lrun := llp run
    refine cm_tail c (A := q.done) (run := run) (rest := (0, q.t) :: rest) (cdn := 0) (cin := 0) (hT.ext ⟨_, hm⟩ hx) hm' (by grind) hp' (by grind) (by (clear hp hφ hL φ1 c1 c2 hp' z1 z2 hw lq lr lrun; lia)) ?_ (by unfold sma; lia) (by unfold sma; lia) fun m'' x9' p'' hp'' hm'' hx' => ?_
    · unfold tw at hw
      unfold sma
      simp only [List.length_append, List.length_cons]
      grind
    · have e : endR (trimR done run tx) ++ rest = q.done ++ (ops q.td q.ti ++ (0, q.t) :: rest) := by rw [← hq]; unfold endR; simp
      refine h _ _ _ _ _ _ _ ?_ (by rw [e]; exact hm'') (hx.trans hx')
      rw [hp'', ← hq]; unfold endR
      simp only [List.length_append, List.length_singleton]
  unfold m_diff_cleanupMergeB7
  refine ssx fun Q1 n1 => s_ife fun K kt kf => ?_
  walk_at "D"
  by_cases hb : cnt (-1) run ≠ 0 ∧ cnt 1 run ≠ 0
  · have eR : trimR done run tx = trim ⟨done, cat (-1) run, cat 1 run, tx⟩ := by unfold trimR; rw [if_pos hb]
    rw [show (!decide ((cnt (-1) run : Int) = 0)) = true by simp [hb.1], show (!decide ((cnt 1 run : Int) = 0)) = true by simp [hb.2], if_pos rfl, if_pos rfl]
    have tl := trim_lens ⟨done, cat (-1) run, cat 1 run, tx⟩
    refine kt _ (cm_b6 c (done := done) (run := run) (rest := rest) hT hm hdn (by grind) hp (by unfold sma; lia) s1 s2 (by unfold sma; grind) (fun q hq => by have := txt_le_phi hq; unfold sma; grind) fun m' x7 x8 p' hp' hm' hx =>
      n1 _ (tail m' _ _ x7 x8 p' _ eR.symm rfl rfl hp' hm' hx (by dsimp only at tl; grind) (by dsimp only at tl; grind)))
  · have eR : trimR done run tx = ⟨done, cat (-1) run, cat 1 run, tx⟩ := by unfold trimR; rw [if_neg hb]
    have go := n1 _ (tail m _ _ x7 x8 p _ eR.symm rfl rfl hp hm (.refl _ _) (by dsimp only; grind) (by dsimp only; grind))
    by_cases h0 : cnt (-1) run = 0
    · rw [show (!decide ((cnt (-1) run : Int) = 0)) = false by simp [h0], if_neg (by decide)]
      exact kf _ (ss_nil go)
    · have h0' : cnt 1 run = 0 := Classical.byContradiction fun q => hb ⟨h0, q⟩
      rw [show (!decide ((cnt (-1) run : Int) = 0)) = true by simp [h0], if_pos rfl, show (!decide ((cnt 1 run : Int) = 0)) = false by simp [h0'], if_neg (by decide)]
      exact kf _ (ss_nil go)
theorem cm_b8 {dn rest : Row} {p : Int} {u tx : Tx} {cd ci : Int} (hm : m d = some (.list (rv (dn ++ (0, u) :: (0, tx) :: rest)))) (hp : p = (dn.length + 1 : Nat)) (hφ : phi (dn ++ (0, u) :: (0, tx) :: rest) ≤ 1000)
    (h : ∀ m', m' d = some (.list (rv (dn ++ (0, u ++ tx) :: rest))) → Ext d m m' → Q .next (cmS t d p cd ci td ti x7 x8 x9 x10 m')) :
    wpSs P m_diff_cleanupMergeB8 Q (cmS t d p cd ci td ti x7 x8 x9 x10 m) := by
  have hL := llp (dn ++ (0, u) :: (0, tx) :: rest)
  rw [pha, phi_cons, phi_cons] at hφ
  have e1 : p - 1 = (dn.length : Int) := by lia
  have g1 : pyGet (dn ++ ((0 : Int), u) :: (0, tx) :: rest) (dn.length : Int) = some ((0 : Int), u) := pyGet_at _ _ _ rfl
  have e2 : dn ++ ((0 : Int), u) :: (0, tx) :: rest = (dn ++ [(0, u)]) ++ (0, tx) :: rest := by simp
  have g2 : pyGet (dn ++ ((0 : Int), u) :: (0, tx) :: rest) p = some ((0 : Int), tx) := by rw [ e2 ]; exact pyGet_at _ _ _ (by simp; (clear hp; lia))
  simp only [List.length_append, List.length_cons] at hL
  rw [pha, phi_cons, phi_cons] at hL
  have t1 : tiny (dn.length : Int) := by walk_at "t"
  have t2 : tiny p := by walk_at "t"
  dsimp only at hφ hL
  unfold m_diff_cleanupMergeB8
  refine ssx fun Q1 n1 => ?_
  walk_at "D"
  rw [ e1 ]
  refine ix_row hm t1 g1 (ix_fst (ix_row hm t1 g1 (ix_snd (ix_row hm t2 g2 (ix_snd ?_)))))
  walk_at "D"
  refine ⟨by unfold sma; grind, by unfold sma; grind, d, _, _, dn.length, rfl, rfl, t1, hm, rv_ix _ _ _ rfl, n1 _ (ssx fun Q2 n2 => ?_)⟩
  walk_at "D"
  have hm2 : upd m d (O.list ((rv (dn ++ (0, u) :: (0, tx) :: rest)).set dn.length (V.tup [V.int 0, V.str (u ++ tx)]))) d = some (.list (rv ((dn ++ [(0, u ++ tx)]) ++ (0, tx) :: rest))) := by
    rw [ups]
    refine congrArg (fun l => some (O.list l)) ((rv_set dn ((0, tx) :: rest) (0, u) (0, u ++ tx)).trans ?_)
    simp
  refine ⟨d, p, _, _, rfl, rfl, t2, hm2, rv_ix _ _ _ (by simp; (clear hp; lia)), ?_, n2 _ (ss_nil (h _ ?_ ?_))⟩
  · rw [rv_len]; unfold sma; simp; lia
  · rw [ups]
    refine congrArg (fun l => some (O.list l)) ?_
    have := rv_erase (dn ++ [(0, u ++ tx)]) rest (0, tx)
    rw [ this ]; simp
  · exact (Ext.upd _ _ _).trans (.upd _ _ _)
noncomputable def m_b9E : List Sm := [
      .ife (.band [.cmp (.var 2) [.NotEq] [.lit (.int 0)], .cmp (.idx (.idx (.var 1) (.bin .Sub (.var 2) (.lit (.int 1)))) (.lit (.int 0))) [.Eq] [.attr (.var 0) "DIFF_EQUAL"]]) m_diff_cleanupMergeB8 [
        .aug 2 .Add (.lit (.int 1))]]
theorem b9_nil {cd ci : Int} (h : Q .next (cmS t d 1 cd ci td ti x7 x8 x9 x10 m)) : wpSs P m_b9E Q (cmS t d 0 cd ci td ti x7 x8 x9 x10 m) := by
  unfold m_b9E
  refine ssn (s_ife fun K kt kf => ?_)
  walk_at "D"
  rw [show (!decide ((0 : Int) = 0)) = false from rfl, if_neg Bool.false_ne_true]
  exact kf _ h
theorem b9_last (c : Cm P) {dn rest : Row} {p : Int} {u tx : Tx} {cd ci : Int} (hT : Tool P m t) (hm : m d = some (.list (rv (dn ++ (0, u) :: (0, tx) :: rest)))) (hp : p = (dn.length + 1 : Nat)) (hφ : phi (dn ++ (0, u) :: (0, tx) :: rest) ≤ 1000)
    (h : ∀ m', m' d = some (.list (rv (dn ++ (0, u ++ tx) :: rest))) → Ext d m m' → Q .next (cmS t d p cd ci td ti x7 x8 x9 x10 m')) : wpSs P m_b9E Q (cmS t d p cd ci td ti x7 x8 x9 x10 m) := by
  have hL := llp (dn ++ ((0 : Int), u) :: (0, tx) :: rest)
  rw [List.length_append] at hL
  unfold m_b9E
  refine ssn (s_ife fun K kt kf => ?_)
  walk_at "D"
  rw [show (!decide (p = 0)) = true by simp; lia, if_pos rfl]
  refine ix_row hm (by walk_at "t") (pyGet_at _ _ _ (by lia)) (ix_fst (at_cc hT c.cE.1 c.cE.2 ?_))
  walk_at "D"
  exact if_yes rfl (kt _ (cm_b8 hm hp hφ h))
theorem b9_one (c : Cm P) {done rest : Row} {p : Int} {e : Part} {tx : Tx} {cd ci : Int} (hT : Tool P m t) (hm : m d = some (.list (rv (done ++ e :: (0, tx) :: rest)))) (hp : p = (done.length + 1 : Nat)) (hl : done.length ≤ 1000) (he : e.1 ≠ 0)
    (h : Q .next (cmS t d (p + 1) cd ci td ti x7 x8 x9 x10 m)) : wpSs P m_b9E Q (cmS t d p cd ci td ti x7 x8 x9 x10 m) := by
  unfold m_b9E
  refine ssn (s_ife fun K kt kf => ?_)
  walk_at "D"
  rw [show (!decide (p = 0)) = true by simp; lia, if_pos rfl]
  refine ix_row hm (by walk_at "t") (pyGet_at _ _ _ (by lia)) (ix_fst (at_cc hT c.cE.1 c.cE.2 ?_))
  walk_at "D"
  exact if_no he (kf _ h)
theorem cm_b9 (c : Cm P) {done run rest : Row} {p : Int} {tx : Tx} (hT : Tool P m t) (hm : m d = some (.list (rv (done ++ (run ++ (0, tx) :: rest))))) (hdn : Dn done) (hr : Run run) (hp : p = (done.length + run.length : Nat)) (hφ : phi (done ++ (run ++ (0, tx) :: rest)) ≤ 1000)
    (h : ∀ m' x7 x8 x9 (p' : Int), p' = (eqStep done run tx).length → m' d = some (.list (rv (eqStep done run tx ++ rest))) → Ext d m m' → Q .next (cmS t d p' 0 0 [] [] x7 x8 x9 x10 m')) :
    wpSs P m_diff_cleanupMergeB9 Q (cmS t d p (cnt (-1) run) (cnt 1 run) (cat (-1) run) (cat 1 run) x7 x8 x9 x10 m) := by
  have hc := run_cnt hr
  have tail : ∀ m' td' ti' x7 x8 x9 (p' cd ci : Int), p' = (eqStep done run tx).length → m' d = some (.list (rv (eqStep done run tx ++ rest))) → Ext d m m' →
      wpSs P [.assign [.var 4] (.lit (.int 0)), .assign [.var 3] (.lit (.int 0)), .assign [.var 5] (.lit (.str [])), .assign [.var 6] (.lit (.str []))] Q (cmS t d p' cd ci td' ti' x7 x8 x9 x10 m') := fun m' td' ti' x7 x8 x9 p' cd ci e hm' hx => by
    walk_at "D"
    exact h _ _ _ _ _ e hm' hx
  unfold m_diff_cleanupMergeB9
  refine ssx fun Q1 n1 => s_ife fun K kt kf => ?_
  walk_at "D"
  by_cases hb : 1 < run.length
  · rw [show decide ((1 : Int) < (cnt (-1) run : Int) + (cnt 1 run : Int)) = true by simp; lia]
    have eS : eqStep done run tx = endR (trimR done run tx) := by unfold eqStep; rw [if_pos hb]
    exact kt _ (cm_b7 c hT hm hdn hr hp hφ fun m' td' ti' x7 x8 x9 p' hp' hm' hx => n1 _ (tail _ _ _ _ _ _ _ _ _ (by rw [eS]; exact hp') (by rw [eS]; exact hm') hx))
  · rw [show decide ((1 : Int) < (cnt (-1) run : Int) + (cnt 1 run : Int)) = false by simp; lia]
    have hL := llp (done ++ (run ++ (0, tx) :: rest))
    rw [List.length_append] at hL
    refine kf _ ?_
    by_cases hn : run = []
    · subst hn
      rcases hdn with rfl | ⟨dn, u, rfl⟩
      · obtain rfl : p = 0 := hp
        exact b9_nil (n1 _ (tail _ _ _ _ _ _ _ _ _ rfl hm (.refl _ _)))
      · have eS : eqStep (dn ++ [((0 : Int), u)]) [] tx = dn ++ [(0, u ++ tx)] := by
          unfold eqStep; rw [if_neg (by decide), if_pos ⟨rfl, List.append_ne_nil_of_right_ne_nil _ (List.cons_ne_nil _ _)⟩, addLast_cat]
        have ea : ∀ {q : Part} {l : Row}, dn ++ [q] ++ l = dn ++ q :: l := List.append_assoc ..
        rw [List.nil_append, ea] at hm hφ
        have hp' : p = (dn.length + 1 : Nat) := by rw [hp, List.length_append]; rfl
        exact b9_last c hT hm hp' hφ fun m' hm'' hx => n1 _ (tail _ _ _ _ _ _ _ _ _ (by rw [eS, hp', List.length_append]; rfl) (by rw [eS, ea]; exact hm'') hx)
    · obtain ⟨e, rfl⟩ : ∃ e, run = [e] := by
        cases run with
        | nil => exact absurd rfl hn
        | cons e r => cases r with
          | nil => exact ⟨e, rfl⟩
          | cons => exact absurd (Nat.succ_lt_succ (Nat.succ_pos _)) hb
      have eS : eqStep done [e] tx = done ++ [e] ++ [(0, tx)] := rfl
      have he : e.1 ≠ 0 := by rcases hr e (List.mem_singleton.mpr rfl) with q | q <;> rw [q] <;> decide
      exact b9_one c hT hm hp (by clear hc hp; lia) he (n1 _ (tail _ _ _ _ _ _ _ _ _ (by rw [eS, hp, List.length_append, List.length_append]; rfl) (by rw [eS, hm, List.append_assoc, List.append_assoc]; rfl) (.refl _ _)))
end
theorem len_row {d : Addr} {L : Row} {m : Mem} {K : V → Mem → Prop} (hm : m d = some (.list (rv L))) (hs : sma L.length) (h : K (.int L.length) m) : wpBi m .len [.obj d] K :=
  ⟨_, .inl hm, by rw [rv_len]; exact hs, by rw [rv_len]; exact h⟩
section
variable {P : PC} {Q : Fl → St → Prop} {t d : Addr} {x7 x8 x9 x10 : Option V} {m : Mem}
noncomputable abbrev cmR (t d : Addr) (done run : Row) (x7 x8 x9 x10 : Option V) (m : Mem) : St :=
  cmS t d (done.length + run.length : Nat) (cnt (-1) run) (cnt 1 run) (cat (-1) run) (cat 1 run) x7 x8 x9 x10 m
theorem cm_b10 (c : Cm P) {done run rest : Row} {q : Part} (hT : Tool P m t) (hm : m d = some (.list (rv (done ++ (run ++ q :: rest))))) (hdn : Dn done) (hr : Run run) (hq : Kind q.1) (hφ : phi (done ++ (run ++ q :: rest)) ≤ 1000)
    (h0 : q.1 = 0 → ∀ m' x7 x8 x9, m' d = some (.list (rv (eqStep done run q.2 ++ rest))) → Ext d m m' → Q .next (cmR t d (eqStep done run q.2) [] x7 x8 x9 x10 m'))
    (h1 : q.1 ≠ 0 → Q .next (cmR t d done (run ++ [q]) x7 x8 x9 x10 m)) :
    wpSs P m_diff_cleanupMergeB10 Q (cmR t d done run x7 x8 x9 x10 m) := by
  have e1 : done ++ (run ++ q :: rest) = (done ++ run) ++ q :: rest := by simp
  have hg : pyGet (done ++ (run ++ q :: rest)) ((done.length + run.length : Nat) : Int) = some q := by rw [ e1 ]; exact pyGet_at _ _ _ (by simp)
  have hL := llp (done ++ (run ++ q :: rest))
  have φ1 : phi done + (phi run + (q.2.length + 1 + phi rest)) ≤ 1000 := by rw [pha, pha, phi_cons] at hφ; exact hφ
  have c1 := cat_le 1 run
  have c2 := cat_le (-1) run
  simp only [List.length_append, List.length_cons] at hL
  have ht : tiny ((done.length + run.length : Nat) : Int) := by walk_at "t"
  unfold m_diff_cleanupMergeB10
  refine ssx fun Q1 n1 => s_ife fun K kt kf => ?_
  walk_at "D"
  refine ix_row hm ht hg (ix_fst (at_cc hT c.cI.1 c.cI.2 ?_))
  walk_at "D"
  have cast : ∀ n : Nat, ((n : Int) + 1) = ((n + 1 : Nat) : Int) := fun n => rfl
  have run' : q.1 ≠ 0 → ∀ (p cd ci : Int) (td ti : Tx), p = (done.length + (run ++ [q]).length : Nat) → cd = cnt (-1) (run ++ [q]) → ci = cnt 1 (run ++ [q]) → td = cat (-1) (run ++ [q]) → ti = cat 1 (run ++ [q]) → Q .next (cmS t d p cd ci td ti x7 x8 x9 x10 m) := by
    rintro hz p cd ci td ti rfl rfl rfl rfl rfl
    exact h1 hz
  rcases hq with hq | hq | hq
  · rw [show decide (q.1 = 1) = false by rw [hq]; rfl]
    refine kf _ (ssx fun Q2 n2 => s_ife fun K2 kt2 kf2 => ?_)
    walk_at "D"
    refine ix_row hm ht hg (ix_fst (at_cc hT c.cD.1 c.cD.2 ?_))
    walk_at "D"
    rw [show decide (q.1 = -1) = true by rw [hq]; rfl]
    refine kt2 _ (cm_b2 hm ht hg (by unfold sma; grind) (by unfold sma; grind) (n2 _ (ss_nil (n1 _ (ss_nil (run' (by rw [ hq ]; decide) _ _ _ _ _ ?_ ?_ ?_ ?_ ?_))))))
    · rw [ List.length_append ]; rfl
    · rw [cnt_append, cnt_one, if_pos hq]; rfl
    · rw [cnt_append, cnt_one, if_neg (by rw [hq]; decide)]; rfl
    · rw [cat_append, cat_one, if_pos hq]
    · rw [cat_append, cat_one, if_neg (by rw [hq]; decide), List.append_nil]
  · rw [show decide (q.1 = 1) = false by rw [hq]; rfl]
    refine kf _ (ssx fun Q2 n2 => s_ife fun K2 kt2 kf2 => ?_)
    walk_at "D"
    refine ix_row hm ht hg (ix_fst (at_cc hT c.cD.1 c.cD.2 ?_))
    walk_at "D"
    rw [show decide (q.1 = -1) = false by rw [hq]; rfl]
    refine kf2 _ (ssx fun Q3 n3 => s_ife fun K3 kt3 kf3 => ?_)
    walk_at "D"
    refine ix_row hm ht hg (ix_fst (at_cc hT c.cE.1 c.cE.2 ?_))
    walk_at "D"
    rw [show decide (q.1 = 0) = true by rw [hq]; rfl]
    have eq : q = (0, q.2) := by rw [ ← hq ]
    have hm' : m d = some (.list (rv (done ++ (run ++ (0, q.2) :: rest)))) := by rw [ ← eq ]; exact hm
    refine kt3 _ (cm_b9 c hT hm' hdn hr rfl (by rw [ ← eq ]; exact hφ) fun m' x7 x8 x9 p' hp' hm'' hx => n3 _ (ss_nil (n2 _ (ss_nil (n1 _ (ss_nil ?_))))))
    subst hp'
    exact h0 hq m' x7 x8 x9 hm'' hx
  · rw [show decide (q.1 = 1) = true by rw [hq]; rfl]
    refine kt _ (cm_b1 hm ht hg (by unfold sma; grind) (by unfold sma; grind) (n1 _ (ss_nil (run' (by rw [ hq ]; decide) _ _ _ _ _ ?_ ?_ ?_ ?_ ?_))))
    · rw [ List.length_append ]; rfl
    · rw [cnt_append, cnt_one, if_neg (by rw [hq]; decide)]; rfl
    · rw [cnt_append, cnt_one, if_pos hq]; rfl
    · rw [cat_append, cat_one, if_neg (by rw [hq]; decide), List.append_nil]
    · rw [cat_append, cat_one, if_pos hq]
theorem mergeGo_keep {done run : Row} {k : Int} {tx : Tx} {r : Row} (h : k = 0) : mergeGo done run ((k, tx) :: r) = mergeGo (eqStep done run tx) [] r := by rw [mergeGo, if_pos h]
theorem mergeGo_turn {done run : Row} {q : Part} {r : Row} (h : q.1 ≠ 0) : mergeGo done run (q :: r) = mergeGo done (run ++ [q]) r := by
  obtain ⟨k, tx⟩ := q
  rw [mergeGo, if_neg h]
inductive C1 (t d : Addr) (todo : Row) (x10 : Option V) (m : Mem) (n : Nat) (σ : St) : Prop
  | mk (done run todo' : Row) (m' : Mem) (x7 x8 x9 : Option V) : σ = cmR t d done run x7 x8 x9 x10 m' → n = todo'.length → Dn done → Run run → (∀ q ∈ todo', Kind q.1) → m' d = some (.list (rv (done ++ (run ++ todo')))) → Ext d m m' →
    phi (done ++ (run ++ todo')) ≤ phi todo → mergeGo done run todo' = mergeGo [] [] todo → C1 t d todo x10 m n σ
theorem cm_loop1 (c : Cm P) {todo : Row} (hT : Tool P m t) (hm : m d = some (.list (rv todo))) (hk : ∀ q ∈ todo, Kind q.1) (hφ : phi todo ≤ 1000)
    (h : ∀ m' p cd ci td ti x7 x8 x9, m' d = some (.list (rv (mergeGo [] [] todo))) → phi (mergeGo [] [] todo) ≤ phi todo → Ext d m m' → Q .next (cmS t d p cd ci td ti x7 x8 x9 x10 m')) :
    wpS P (.whl (.cmp (.var 2) [.Lt] [.bi .len [.var 1]]) m_diff_cleanupMergeB10) Q (cmR t d [] [] x7 x8 x9 x10 m) := by
  refine ⟨C1 t d todo x10 m, ⟨_, [], [], todo, m, x7, x8, x9, rfl, rfl, .inl rfl, fun _ h => by simp at h, hk, hm, .refl _ _, Nat.le_refl _, rfl⟩, ?_⟩
  rintro n σ ⟨done, run, todo', m', x7, x8, x9, rfl, rfl, hdn, hr, hk', hm', hx, hφ', hM⟩
  have hL := llp (done ++ (run ++ todo'))
  walk_at "D"
  refine len_row hm' (by unfold sma; lia) ?_
  walk_at "D"
  simp only [List.length_append] at hL ⊢
  cases todo' with
  | nil =>
    refine if_no (by simp) (h _ _ _ _ _ _ _ _ _ ?_ ?_ hx)
    · rw [ ← hM, hm', List.append_nil ]; rfl
    · rw [ ← hM ]; simpa [mergeGo] using hφ'
  | cons q rest =>
    refine if_yes (by simp; grind) ?_
    have e : phi (done ++ (run ++ q :: rest)) = phi done + (phi run + (q.2.length + 1 + phi rest)) := by rw [pha, pha, phi_cons]
    refine cm_b10 c (hT.ext ⟨_, hm⟩ hx) hm' hdn hr (hk' q List.mem_cons_self) (by exact Nat.le_trans ‹_› ‹_›) (fun hq m'' x7 x8 x9 g1 g2 => ?_) (fun hq => ?_)
    · refine ⟨rest.length, by simp, _, [], rest, m'', x7, x8, x9, rfl, rfl, .inr (eqStep_dn hdn _), fun _ h => by simp at h, fun q hq => hk' q (List.mem_cons_of_mem _ hq), g1, hx.trans g2, ?_, ?_⟩
      · have := phi_eqStep (run := run) hdn q.2
        rw [List.nil_append, pha]; grind
      · rw [ ← hM ]
        obtain ⟨k, tx⟩ := q
        exact (mergeGo_keep hq).symm
    · refine ⟨rest.length, by simp, done, run ++ [q], rest, m', x7, x8, x9, rfl, rfl, hdn, ?_, fun q hq => hk' q (List.mem_cons_of_mem _ hq), ?_, hx, ?_, ?_⟩
      · intro p hp
        rcases List.mem_append.mp hp with hp | hp
        · exact hr p hp
        · rw [List.mem_singleton] at hp; subst hp
          rcases hk' p List.mem_cons_self with z | z | z
          · exact .inl z
          · exact absurd z hq
          · exact .inr z
      · rw [ hm' ]; simp
      · simpa using hφ'
      · rw [ ← hM ]; exact (mergeGo_turn hq).symm
end
section
variable {P : PC} {Q : Fl → St → Prop} {t d : Addr} {td ti : Tx} {cd ci : Int} {x7 x8 x9 x10 : Option V} {m : Mem}
structure At3 (L : Row) (p : Int) (A : Row) (a b c : Part) (C : Row) : Prop where
  e : L = A ++ a :: b :: c :: C
  hp : p = (A.length + 1 : Nat)
theorem At3.g1 {L : Row} {p : Int} {A : Row} {a b c : Part} {C : Row} (h : At3 L p A a b c C) : pyGet L (p - 1) = some a := by
  rw [ h.e ]; exact pyGet_at _ _ _ (by rw [ h.hp ]; grind)
theorem At3.g2 {L : Row} {p : Int} {A : Row} {a b c : Part} {C : Row} (h : At3 L p A a b c C) : pyGet L p = some b := by
  rw [ h.e, show A ++ a :: b :: c :: C = (A ++ [a]) ++ b :: c :: C by simp ]; exact pyGet_at _ _ _ (by rw [ h.hp ]; simp)
theorem At3.g3 {L : Row} {p : Int} {A : Row} {a b c : Part} {C : Row} (h : At3 L p A a b c C) : pyGet L (p + 1) = some c := by
  rw [h.e, show A ++ a :: b :: c :: C = (A ++ [a, b]) ++ c :: C by simp]; exact pyGet_at _ _ _ (by rw [h.hp]; simp; rfl)
theorem At3.i1 {L : Row} {p : Int} {A : Row} {a b c : Part} {C : Row} (h : At3 L p A a b c C) : pyIx (rv L).length (p - 1) = some A.length := by
  rw [h.e]; exact rv_ix _ _ _ (by rw [h.hp]; grind)
theorem At3.i2 {L : Row} {p : Int} {A : Row} {a b c : Part} {C : Row} (h : At3 L p A a b c C) : pyIx (rv L).length p = some (A ++ [a]).length := by
  rw [h.e, show A ++ a :: b :: c :: C = (A ++ [a]) ++ b :: c :: C by simp]; exact rv_ix _ _ _ (by rw [h.hp]; simp)
theorem At3.i3 {L : Row} {p : Int} {A : Row} {a b c : Part} {C : Row} (h : At3 L p A a b c C) : pyIx (rv L).length (p + 1) = some (A ++ [a, b]).length := by
  rw [h.e, show A ++ a :: b :: c :: C = (A ++ [a, b]) ++ c :: C by simp]; exact rv_ix _ _ _ (by rw [h.hp]; simp; rfl)
theorem At3.s1 {L : Row} {p : Int} {A : Row} {a b c : Part} {C : Row} (h : At3 L p A a b c C) (a' : Part) : (rv L).set A.length (pv a') = rv (A ++ a' :: b :: c :: C) := by
  rw [h.e]; exact rv_set _ _ _ _
theorem At3.s2 {L : Row} {p : Int} {A : Row} {a b c : Part} {C : Row} (h : At3 L p A a b c C) (b' : Part) : (rv L).set (A ++ [a]).length (pv b') = rv (A ++ a :: b' :: c :: C) := by
  rw [h.e, show A ++ a :: b :: c :: C = (A ++ [a]) ++ b :: c :: C by simp, rv_set]; simp
theorem At3.s3 {L : Row} {p : Int} {A : Row} {a b c : Part} {C : Row} (h : At3 L p A a b c C) (c' : Part) : (rv L).set (A ++ [a, b]).length (pv c') = rv (A ++ a :: b :: c' :: C) := by
  rw [h.e, show A ++ a :: b :: c :: C = (A ++ [a, b]) ++ c :: C by simp, rv_set]; simp
theorem At3.d1 {L : Row} {p : Int} {A : Row} {a b c : Part} {C : Row} (h : At3 L p A a b c C) : (rv L).eraseIdx A.length = rv (A ++ b :: c :: C) := by
  rw [h.e, rv_erase]
theorem At3.d3 {L : Row} {p : Int} {A : Row} {a b c : Part} {C : Row} (h : At3 L p A a b c C) : (rv L).eraseIdx (A ++ [a, b]).length = rv (A ++ a :: b :: C) := by
  rw [h.e, show A ++ a :: b :: c :: C = (A ++ [a, b]) ++ c :: C by simp, rv_erase]; simp
theorem At3.tin {L : Row} {p : Int} {A : Row} {a b c : Part} {C : Row} (h : At3 L p A a b c C) (hs : L.length ≤ 1000) : tiny (p - 1) ∧ tiny p ∧ tiny (p + 1) := by
  have e := h.hp
  have l : A.length ≤ 1000 := Nat.le_trans (by rw [h.e, List.length_append]; exact Nat.le_add_right ..) hs
  generalize A.length = n at *
  clear hs h
  subst e
  have t : ∀ k : Nat, k ≤ 2000 → tiny (k : Int) := fun k hk => ⟨Int.lt_of_lt_of_le (by decide) (Int.natCast_nonneg k), Int.lt_of_le_of_lt (Int.ofNat_le.mpr hk) (by decide)⟩
  exact ⟨by rw [show ((n + 1 : Nat) : Int) - 1 = (n : Int) by lia]; exact t _ (by lia), t _ (by lia), t (n + 2) (by lia)⟩
theorem cm_b12 {L A C : Row} {p : Int} {a b c : Part} (h3 : At3 L p A a b c C) (hm : m d = some (.list (rv L))) (hs : L.length ≤ 1000) (ha : a.2.length ≤ 1000) (hb : b.2.length ≤ 1000) (hc : c.2.length ≤ 1000) (he : a.2.length ≤ b.2.length)
    (h : ∀ m', m' d = some (.list (rv (A ++ (b.1, a.2 ++ b.2.take (b.2.length - a.2.length)) :: (c.1, a.2 ++ c.2) :: C))) → Ext d m m' → Q .next (cmS t d p cd ci td ti x7 x8 x9 (some (.bool true)) m')) :
    wpSs P m_diff_cleanupMergeB12 Q (cmS t d p cd ci td ti x7 x8 x9 x10 m) := by
  obtain ⟨t1, t2, t3⟩ := h3.tin hs
  have sm : ∀ {n : Nat}, n ≤ 2000 → sma n := fun h => by unfold sma; exact Nat.le_trans ‹_› (by decide)
  have tail : ∀ m' b' c', At3 (A ++ a :: b' :: c' :: C) p A a b' c' C → m' d = some (.list (rv (A ++ a :: b' :: c' :: C))) → Ext d m m' → b' = (b.1, a.2 ++ b.2.take (b.2.length - a.2.length)) → c' = (c.1, a.2 ++ c.2) →
      wpSs P [.del (.var 1) (.bin .Sub (.var 2) (.lit (.int 1))), .assign [.var 10] (.lit (.bool true))] Q (cmS t d p cd ci td ti x7 x8 x9 x10 m') := fun m' b' c' g hm' hx e1 e2 => by
    walk_at "D"
    refine ⟨d, _, _, A.length, rfl, rfl, t1, hm', g.i1, ?_, h _ ?_ (hx.trans (.upd _ _ _))⟩
    · rw [rv_len]; rw [h3.e] at hs; simp at hs; exact sm (by simp; exact Nat.le_trans ‹_› (by decide))
    · rw [ ups, g.d1, e1, e2 ]
  unfold m_diff_cleanupMergeB12
  refine ssx fun Q1 n1 => s_ife fun K kt kf => ?_
  walk_at "D"
  refine ix_row hm t1 h3.g1 (ix_snd ?_)
  walk_at "D"
  by_cases hz : a.2 = []
  · rw [ show (!decide (a.2 = [])) = false by simp [hz] ]
    refine kf _ (ss_nil (n1 _ (tail m b c ?_ ?_ (.refl _ _) ?_ ?_)))
    · exact ⟨rfl, h3.hp⟩
    · rw [ hm, h3.e ]
    · rw [ hz ]; simp
    · rw [ hz ]; rfl
  · rw [ show (!decide (a.2 = [])) = true by simp [hz] ]
    refine kt _ ?_
    have h0 : 0 < a.2.length := List.length_pos_iff.mpr hz
    unfold m_diff_cleanupMergeB11
    refine ssx fun Q2 n2 => ?_
    walk_at "D"
    refine ix_row hm t2 h3.g2 (ix_fst (ix_row hm t1 h3.g1 (ix_snd (ix_row hm t2 h3.g2 (ix_snd (ix_row hm t1 h3.g1 (ix_snd ?_)))))))
    walk_at "D"
    rw [ pySl_nto h0 he ]
    have g1 : At3 (A ++ a :: (b.1, a.2 ++ b.2.take (b.2.length - a.2.length)) :: c :: C) p A a (b.1, a.2 ++ b.2.take (b.2.length - a.2.length)) c C := ⟨rfl, h3.hp⟩
    refine ⟨sm (by lia), sm (by grind), sm (by grind), sm (by simp; (clear h0; lia)), d, _, _, _, rfl, rfl, t2, hm, h3.i2, n2 _ (ssx fun Q3 n3 => ?_)⟩
    have hm1 : upd m d (O.list ((rv L).set (A ++ [a]).length (V.tup [V.int b.1, V.str (a.2 ++ b.2.take (b.2.length - a.2.length))]))) d = some (.list (rv (A ++ a :: (b.1, a.2 ++ b.2.take (b.2.length - a.2.length)) :: c :: C))) := by
      rw [ups]; exact congrArg (fun l => some (O.list l)) (h3.s2 (b.1, a.2 ++ b.2.take (b.2.length - a.2.length)))
    walk_at "D"
    refine ix_row hm1 t3 g1.g3 (ix_fst (ix_row hm1 t1 g1.g1 (ix_snd (ix_row hm1 t3 g1.g3 (ix_snd ?_)))))
    walk_at "D"
    refine ⟨sm (by grind), sm (by grind), d, _, _, _, rfl, rfl, t3, hm1, g1.i3, n3 _ (ss_nil (n1 _ (tail _ _ _ ⟨rfl, h3.hp⟩ ?_ ((Ext.upd _ _ _).trans (.upd _ _ _)) rfl rfl)))⟩
    rw [ups]; exact congrArg (fun l => some (O.list l)) (g1.s3 (c.1, a.2 ++ c.2))
theorem cm_b13 {L A C : Row} {p : Int} {a b c : Part} (h3 : At3 L p A a b c C) (hm : m d = some (.list (rv L))) (hs : L.length ≤ 1000) (ha : a.2.length ≤ 1000) (hb : b.2.length ≤ 1000) (hc : c.2.length ≤ 1000) (he : c.2.length ≤ b.2.length)
    (h : ∀ m', m' d = some (.list (rv (A ++ (a.1, a.2 ++ c.2) :: (b.1, b.2.drop c.2.length ++ c.2) :: C))) → Ext d m m' → Q .next (cmS t d p cd ci td ti x7 x8 x9 (some (.bool true)) m')) :
    wpSs P m_diff_cleanupMergeB13 Q (cmS t d p cd ci td ti x7 x8 x9 x10 m) := by
  obtain ⟨t1, t2, t3⟩ := h3.tin hs
  have sm : ∀ {n : Nat}, n ≤ 2000 → sma n := fun h => by unfold sma; exact Nat.le_trans ‹_› (by decide)
  unfold m_diff_cleanupMergeB13
  refine ssx fun Q2 n2 => ?_
  walk_at "D"
  refine ix_row hm t1 h3.g1 (ix_fst (ix_row hm t1 h3.g1 (ix_snd (ix_row hm t3 h3.g3 (ix_snd ?_)))))
  walk_at "D"
  have g1 : At3 (A ++ (a.1, a.2 ++ c.2) :: b :: c :: C) p A (a.1, a.2 ++ c.2) b c C := ⟨rfl, h3.hp⟩
  refine ⟨sm (by exact Nat.le_trans ‹_› (by decide)), sm (by grind), d, _, _, _, rfl, rfl, t1, hm, h3.i1, n2 _ (ssx fun Q3 n3 => ?_)⟩
  have hm1 : upd m d (O.list ((rv L).set A.length (V.tup [V.int a.1, V.str (a.2 ++ c.2)]))) d = some (.list (rv (A ++ (a.1, a.2 ++ c.2) :: b :: c :: C))) := by
    rw [ups]; exact congrArg (fun l => some (O.list l)) (h3.s1 (a.1, a.2 ++ c.2))
  walk_at "D"
  refine ix_row hm1 t2 g1.g2 (ix_fst (ix_row hm1 t2 g1.g2 (ix_snd (ix_row hm1 t3 g1.g3 (ix_snd ?_)))))
  walk_at "D"
  refine ⟨sm (by grind), sm (by grind), ix_row hm1 t3 g1.g3 (ix_snd ?_)⟩
  walk_at "D"
  rw [ pySl_from b.2 he ]
  have g2 : At3 (A ++ (a.1, a.2 ++ c.2) :: (b.1, b.2.drop c.2.length ++ c.2) :: c :: C) p A (a.1, a.2 ++ c.2) (b.1, b.2.drop c.2.length ++ c.2) c C := ⟨rfl, h3.hp⟩
  refine ⟨sm (by simp; grind), sm (by grind), d, _, _, _, rfl, rfl, t2, hm1, g1.i2, n3 _ (ssx fun Q4 n4 => ?_)⟩
  have hm2 : upd (upd m d (O.list ((rv L).set A.length (V.tup [V.int a.1, V.str (a.2 ++ c.2)])))) d (O.list ((rv (A ++ (a.1, a.2 ++ c.2) :: b :: c :: C)).set (A ++ [(a.1, a.2 ++ c.2)]).length (V.tup [V.int b.1, V.str (b.2.drop c.2.length ++ c.2)]))) d =
      some (.list (rv (A ++ (a.1, a.2 ++ c.2) :: (b.1, b.2.drop c.2.length ++ c.2) :: c :: C))) := by
    rw [ups]; exact congrArg (fun l => some (O.list l)) (g1.s2 (b.1, b.2.drop c.2.length ++ c.2))
  walk_at "D"
  refine ⟨d, _, _, _, rfl, rfl, t3, hm2, g2.i3, ?_, n4 _ ?_⟩
  · rw [rv_len]; rw [h3.e] at hs; simp at hs; exact sm (by simp; exact Nat.le_trans ‹_› (by decide))
  · walk_at "D"
    refine h _ ?_ (((Ext.upd _ _ _).trans (.upd _ _ _)).trans (.upd _ _ _))
    rw [ups, g2.d3]
theorem cm_b14 (c : Cm P) {L A C : Row} {p : Int} {a b e : Part} {ch : Bool} (hT : Tool P m t) (h3 : At3 L p A a b e C) (hm : m d = some (.list (rv L))) (hs : L.length ≤ 1000) (ha : a.2.length ≤ 1000) (hb : b.2.length ≤ 1000) (hc : e.2.length ≤ 1000)
    (hl : a.1 = 0 → e.1 = 0 → a.2.length ≤ b.2.length ∧ b.2.drop (b.2.length - a.2.length) = a.2 → ∀ m', m' d = some (.list (rv (A ++ (b.1, a.2 ++ b.2.take (b.2.length - a.2.length)) :: (e.1, a.2 ++ e.2) :: C))) → Ext d m m' → Q .next (cmS t d (p + 1) cd ci td ti x7 x8 x9 (some (.bool true)) m'))
    (hr : a.1 = 0 → e.1 = 0 → ¬ (a.2.length ≤ b.2.length ∧ b.2.drop (b.2.length - a.2.length) = a.2) → b.2.take e.2.length = e.2 → ∀ m', m' d = some (.list (rv (A ++ (a.1, a.2 ++ e.2) :: (b.1, b.2.drop e.2.length ++ e.2) :: C))) → Ext d m m' → Q .next (cmS t d (p + 1) cd ci td ti x7 x8 x9 (some (.bool true)) m'))
    (hn : ¬ (a.1 = 0 ∧ e.1 = 0 ∧ ((a.2.length ≤ b.2.length ∧ b.2.drop (b.2.length - a.2.length) = a.2) ∨ b.2.take e.2.length = e.2)) → Q .next (cmS t d (p + 1) cd ci td ti x7 x8 x9 (some (.bool ch)) m)) :
    wpSs P m_diff_cleanupMergeB14 Q (cmS t d p cd ci td ti x7 x8 x9 (some (.bool ch)) m) := by
  obtain ⟨t1, t2, t3⟩ := h3.tin hs
  have tail : ∀ m' x, Q .next (cmS t d (p + 1) cd ci td ti x7 x8 x9 x m') → wpSs P [.aug 2 .Add (.lit (.int 1))] Q (cmS t d p cd ci td ti x7 x8 x9 x m') := fun m' x q => q
  unfold m_diff_cleanupMergeB14
  refine ssx fun Q1 n1 => s_ife fun K kt kf => ?_
  walk_at "D"
  refine ix_row hm t1 h3.g1 (ix_fst (at_cc hT c.cE.1 c.cE.2 ?_))
  walk_at "D"
  by_cases h0 : a.1 = 0
  · rw [show decide (a.1 = 0) = true from decide_eq_true h0, if_pos rfl]
    refine ix_row hm t3 h3.g3 (ix_fst (at_cc hT c.cE.1 c.cE.2 ?_))
    walk_at "D"
    by_cases h1 : e.1 = 0
    · rw [ show decide (e.1 = 0) = true from decide_eq_true h1, if_pos rfl ]
      refine kt _ (ssx fun Q2 n2 => s_ife fun K2 kt2 kf2 => ?_)
      walk_at "D"
      refine ix_row hm t2 h3.g2 (ix_snd ⟨trivial, ix_row hm t1 h3.g1 (ix_snd ?_)⟩)
      walk_at "D"
      by_cases hL : a.2.length ≤ b.2.length ∧ b.2.drop (b.2.length - a.2.length) = a.2
      · rw [ decide_eq_true hL ]
        exact kt2 _ (cm_b12 h3 hm hs ha hb hc hL.1 fun m' g1 g2 => n2 _ (ss_nil (n1 _ (tail _ _ (hl h0 h1 hL m' g1 g2)))))
      · rw [ decide_eq_false hL ]
        refine kf2 _ (ssx fun Q3 n3 => s_ife fun K3 kt3 kf3 => ?_)
        walk_at "D"
        refine ix_row hm t2 h3.g2 (ix_snd ⟨trivial, ix_row hm t3 h3.g3 (ix_snd ?_)⟩)
        walk_at "D"
        by_cases hR : b.2.take e.2.length = e.2
        · rw [ decide_eq_true hR ]
          have he : e.2.length ≤ b.2.length := by
            have := congrArg List.length hR
            rw [List.length_take] at this; grind
          exact kt3 _ (cm_b13 h3 hm hs ha hb hc he fun m' g1 g2 => n3 _ (ss_nil (n2 _ (ss_nil (n1 _ (tail _ _ (hr h0 h1 hL hR m' g1 g2)))))))
        · rw [ decide_eq_false hR ]
          exact kf3 _ (ss_nil (n3 _ (ss_nil (n2 _ (ss_nil (n1 _ (tail _ _ (hn fun q => q.2.2.elim hL hR))))))))
    · rw [ show decide (e.1 = 0) = false from decide_eq_false h1, if_neg (by decide) ]
      exact kf _ (ss_nil (n1 _ (tail _ _ (hn fun q => h1 q.2.1))))
  · rw [show decide (a.1 = 0) = false from decide_eq_false h0, if_neg (by decide)]
    exact kf _ (ss_nil (n1 _ (tail _ _ (hn fun q => h0 q.1))))
end
theorem slide_l {a b c : Part} {C : Row} (h0 : a.1 = 0) (h1 : c.1 = 0) (h : a.2.length ≤ b.2.length ∧ b.2.drop (b.2.length - a.2.length) = a.2) :
    sgo a (b :: c :: C) = ((b.1, a.2 ++ b.2.take (b.2.length - a.2.length)) :: (sgo (c.1, a.2 ++ c.2) C).1, true) := by
  rw [sgo, if_pos ⟨h0, h1⟩, if_pos h]
theorem slide_r {a b c : Part} {C : Row} (h0 : a.1 = 0) (h1 : c.1 = 0) (h : ¬ (a.2.length ≤ b.2.length ∧ b.2.drop (b.2.length - a.2.length) = a.2)) (h2 : b.2.take c.2.length = c.2) :
    sgo a (b :: c :: C) = ((a.1, a.2 ++ c.2) :: (sgo (b.1, b.2.drop c.2.length ++ c.2) C).1, true) := by
  rw [sgo, if_pos ⟨h0, h1⟩, if_neg h, if_pos h2]
theorem slide_n {a b c : Part} {C : Row} (h : ¬ (a.1 = 0 ∧ c.1 = 0 ∧ ((a.2.length ≤ b.2.length ∧ b.2.drop (b.2.length - a.2.length) = a.2) ∨ b.2.take c.2.length = c.2))) :
    sgo a (b :: c :: C) = (a :: (sgo b (c :: C)).1, (sgo b (c :: C)).2) := by
  rw [sgo]
  by_cases g : a.1 = 0 ∧ c.1 = 0
  · rw [if_pos g, if_neg (fun q => h ⟨g.1, g.2, .inl q⟩), if_neg (fun q => h ⟨g.1, g.2, .inr q⟩)]
  · rw [if_neg g]
section
variable {P : PC} {Q : Fl → St → Prop} {t d : Addr} {td ti : Tx} {cd ci : Int} {x7 x8 x9 x10 : Option V} {m : Mem}
inductive C2 (t d : Addr) (cd ci : Int) (td ti : Tx) (x7 x8 x9 : Option V) (a0 : Part) (r0 : Row) (m : Mem) (n : Nat) (σ : St) : Prop
  | mk (A : Row) (a : Part) (rest : Row) (ch : Bool) (m' : Mem) : σ = cmS t d ((A.length + 1 : Nat) : Int) cd ci td ti x7 x8 x9 (some (.bool ch)) m' → n = rest.length → m' d = some (.list (rv (A ++ a :: rest))) → Ext d m m' →
    A ++ (sgo a rest).1 = (sgo a0 r0).1 → (ch || (sgo a rest).2) = (sgo a0 r0).2 → phi (A ++ a :: rest) ≤ 1000 → C2 t d cd ci td ti x7 x8 x9 a0 r0 m n σ
theorem cm_loop2 (c : Cm P) {L : Row} (hT : Tool P m t) (hm : m d = some (.list (rv L))) (hφ : phi L ≤ 1000)
    (h : ∀ m' p, m' d = some (.list (rv (slide L).1)) → Ext d m m' → Q .next (cmS t d p cd ci td ti x7 x8 x9 (some (.bool (slide L).2)) m')) :
    wpS P (.whl (.cmp (.var 2) [.Lt] [.bin .Sub (.bi .len [.var 1]) (.lit (.int 1))]) m_diff_cleanupMergeB14) Q (cmS t d 1 cd ci td ti x7 x8 x9 (some (.bool false)) m) := by
  cases L with
  | nil =>
    refine ⟨fun n σ => σ = cmS t d 1 cd ci td ti x7 x8 x9 (some (.bool false)) m, ⟨0, rfl⟩, ?_⟩
    rintro n σ rfl
    walk_at "D"
    refine len_row hm (by unfold sma; simp) ?_
    walk_at "D"
    exact if_no (by simp) (h m 1 hm (.refl _ _))
  | cons a0 r0 =>
    refine ⟨C2 t d cd ci td ti x7 x8 x9 a0 r0 m, ⟨_, [], a0, r0, false, m, rfl, rfl, hm, .refl _ _, rfl, by simp, hφ⟩, ?_⟩
    rintro n σ ⟨A, a, rest, ch, m', rfl, rfl, hm', hx, hS, hC, hφ'⟩
    have hL := llp (A ++ a :: rest)
    have e2 : phi (A ++ a :: rest) = phi A + (a.2.length + 1 + phi rest) := by rw [pha, phi_cons]
    walk_at "D"
    refine len_row hm' (by unfold sma; lia) ?_
    walk_at "D"
    match rest, hS, hC, hm', hL, e2, hφ' with
    | [], hS, hC, hm', hL, e2, hφ' =>
      refine if_no (by simp; grind) ?_
      have := h m' ((A.length + 1 : Nat) : Int) (by rw [show (slide (a0 :: r0)).1 = (sgo a0 r0).1 from rfl, ← hS]; exact hm') hx
      rw [show (slide (a0 :: r0)).2 = (sgo a0 r0).2 from rfl, ← hC, show (sgo a []).2 = false from rfl, Bool.or_false] at this
      exact this
    | [b], hS, hC, hm', hL, e2, hφ' =>
      refine if_no (by simp; grind) ?_
      have := h m' ((A.length + 1 : Nat) : Int) (by rw [show (slide (a0 :: r0)).1 = (sgo a0 r0).1 from rfl, ← hS]; exact hm') hx
      rw [show (slide (a0 :: r0)).2 = (sgo a0 r0).2 from rfl, ← hC, show (sgo a [b]).2 = false from rfl, Bool.or_false] at this
      exact this
    | b :: e :: C, hS, hC, hm', hL, e2, hφ' =>
      refine if_yes (by simp; grind) ?_
      have h3 : At3 (A ++ a :: b :: e :: C) ((A.length + 1 : Nat) : Int) A a b e C := ⟨rfl, rfl⟩
      have e4 : phi (b :: e :: C) = b.2.length + 1 + (e.2.length + 1 + phi C) := by rw [phi_cons, phi_cons]
      refine cm_b14 c (hT.ext ⟨_, hm⟩ hx) h3 hm' (by lia) (by grind) (by grind) (by grind) (fun h0 h1 hl m'' g1 g2 => ?_) (fun h0 h1 hl hr m'' g1 g2 => ?_) (fun hn => ?_)
      · rw [slide_l h0 h1 hl] at hS hC
        refine ⟨C.length, by simp; exact Nat.le_add_right .., A ++ [(b.1, a.2 ++ b.2.take (b.2.length - a.2.length))], (e.1, a.2 ++ e.2), C, true, m'', ?_, rfl, ?_, hx.trans g2, ?_, ?_, ?_⟩
        · rw [List.length_append]; rfl
        · rw [g1]; simp
        · rw [← hS]; simp
        · rw [← hC]; simp
        · rw [pha, pha, phi_cons, phi_cons, phi_nil]
          simp only [List.length_append, List.length_take]
          have := hl.1
          rw [Nat.min_eq_left (by (clear hφ hC hL e2 hφ' e4 h0 h1 hl this; omega))]; grind
      · rw [slide_r h0 h1 hl hr] at hS hC
        have he : e.2.length ≤ b.2.length := by
          have := congrArg List.length hr
          rw [List.length_take] at this; (clear hφ hC hL e2 hφ' h0 h1 hl; grind)
        refine ⟨C.length, by simp; grind, A ++ [(a.1, a.2 ++ e.2)], (b.1, b.2.drop e.2.length ++ e.2), C, true, m'', ?_, rfl, ?_, hx.trans g2, ?_, ?_, ?_⟩
        · rw [List.length_append]; rfl
        · rw [g1]; simp
        · rw [← hS]; simp
        · rw [← hC]; simp
        · rw [pha, pha, phi_cons, phi_cons, phi_nil]
          simp only [List.length_append, List.length_drop]; grind
      · rw [slide_n hn] at hS hC
        refine ⟨(e :: C).length, by simp, A ++ [a], b, e :: C, ch, m', ?_, rfl, ?_, hx, ?_, hC, ?_⟩
        · rw [List.length_append]; rfl
        · rw [hm']; simp
        · rw [← hS]; simp
        · simpa using hφ'
theorem cm_last (c : Cm P) {n : Nat} {R : Row} {p : Int} (hT : Tool P m t) (hm : m d = some (.list (rv R))) (hk : Kinds R) (hφ : phi R ≤ 999)
    (hrec : ∀ L' m1 (Q' : V → Mem → Prop), Tool P m1 t → m1 d = some (.list (rv L')) → Kinds L' → phi L' < phi R → (∀ m', m' d = some (.list (rv (cleanN n L'))) → Ext d m1 m' → Q' .none m') → P.meth "diff_cleanupMerge" [.obj t, .obj d] Q' m1)
    (h : ∀ σ', σ'.mem d = some (.list (rv (if (slide R).2 then cleanN n (slide R).1 else (slide R).1))) → Ext d m σ'.mem → Q .next σ') :
    wpSs P [.assign [.var 10] (.lit (.bool false)), .assign [.var 2] (.lit (.int 1)),
      .whl (.cmp (.var 2) [.Lt] [.bin .Sub (.bi .len [.var 1]) (.lit (.int 1))]) m_diff_cleanupMergeB14, .ife (.var 10) [.expr (.imeth (.var 0) "diff_cleanupMerge" [.var 1])] []] Q (cmS t d p cd ci td ti x7 x8 x9 x10 m) := by
  have hTd : ∃ l, m d = some (.list l) := ⟨_, hm⟩
  refine ssx fun Q1 n1 => ?_
  walk_at "D"
  refine n1 _ (ssx fun Q2 n2 => ?_)
  walk_at "D"
  refine n2 _ (ssx fun Q4 n4 => cm_loop2 c hT hm (by exact Nat.le_trans ‹_› (by decide)) fun m4 p' hm4 hx4 => n4 _ ?_)
  have hφs := phi_slide R
  refine ssx fun Q5 n5 => s_ife fun K kt kf => ?_
  walk_at "D"
  cases hs : (slide R).2 with
  | false =>
    refine kf _ (ss_nil (n5 _ (ss_nil (h _ ?_ hx4))))
    show m4 d = _
    rw [hs, if_neg (by decide)]; exact hm4
  | true =>
    rw [hs] at hφs
    refine kt _ (ssx fun Q6 n6 => ?_)
    walk_at "D"
    have hT4 := hT.ext hTd hx4
    refine ⟨im_ok hT4 c.fm, hrec _ m4 _ hT4 hm4 (kinds_slide hk) (by simp at hφs; trivial) fun m5 hm5 hx5 => n6 _ (ss_nil (n5 _ (ss_nil (h _ ?_ (hx4.trans hx5)))))⟩
    show m5 d = _
    rw [hs, if_pos rfl]; exact hm5
theorem cm_pop {R dn : Row} {u : Tx} {p : Int} (hm : m d = some (.list (rv R))) (e : R = dn ++ [((0 : Int), u)]) (hφ : phi R ≤ 1000)
    (h : ∀ m', m' d = some (.list (rv (popE R))) → Ext d m m' → Q .next (cmS t d p cd ci td ti x7 x8 x9 x10 m')) :
    wpS P (.ife (.cmp (.idx (.idx (.var 1) (.neg (.lit (.int 1)))) (.lit (.int 1))) [.Eq] [.lit (.str [])]) [.expr (.me (.var 1) .pop [])] []) Q (cmS t d p cd ci td ti x7 x8 x9 x10 m) := by
  subst e
  have hL := llp (dn ++ [((0 : Int), u)])
  refine s_ife fun K kt kf => ?_
  have hg : pyGet (dn ++ [((0 : Int), u)]) (-1) = some ((0 : Int), u) := by rw [pyGet_last _ (by simp)]; simp
  walk_at "D"
  refine ix_row hm (by walk_at "t") hg (ix_snd ?_)
  walk_at "D"
  by_cases hu : u = []
  · rw [decide_eq_true hu]
    refine kt _ (ssx fun Q4 n4 => ?_)
    walk_at "D"
    refine ⟨⟨_, hm⟩, rfl, rv dn, pv (0, u), by rw [hm, rv_append]; rfl, ?_, n4 _ (ss_nil (h _ ?_ (.upd _ _ _)))⟩
    · rw [rv_len]; unfold sma; simp at hL; lia
    · rw [ups, popE_cat, if_pos hu]
  · rw [decide_eq_false hu]
    refine kf _ (ss_nil (h _ ?_ (.refl _ _)))
    rw [hm, popE_cat, if_neg hu]
theorem w_cleanupMerge (c : Cm P) {n : Nat} {L : Row} (hT : Tool P m t) (hm : m d = some (.list (rv L))) (hk : Kinds L) (hφ : phi L ≤ 999)
    (hrec : ∀ L' m1 (Q' : V → Mem → Prop), Tool P m1 t → m1 d = some (.list (rv L')) → Kinds L' → phi L' < phi L → (∀ m', m' d = some (.list (rv (cleanN n L'))) → Ext d m1 m' → Q' .none m') → P.meth "diff_cleanupMerge" [.obj t, .obj d] Q' m1)
    (h : ∀ σ', σ'.mem d = some (.list (rv (cleanN (n + 1) L))) → Ext d m σ'.mem → Q .next σ') :
    wpSs P m_diff_cleanupMergeBody Q ⟨[V.obj t, .obj d].map some ++ List.replicate 9 none, m⟩ := by
  have hTd : ∃ l, m d = some (.list l) := ⟨_, hm⟩
  have hL := llp L
  have e1 : phi (L ++ [((0 : Int), ([] : Tx))]) = phi L + 1 := by rw [pha]; rfl
  have hphi : phi (popE (merge L)) ≤ phi L := phi_merge L
  have hkind : Kinds (popE (merge L)) := kinds_popE _ (kinds_mergeGo _ _ _ .nil .nil (hk.append (.cons (.inr (.inl rfl)) .nil)))
  obtain ⟨dn, u, eM⟩ := mergeGo_dn [] L [] [] (.inl rfl)
  unfold m_diff_cleanupMergeBody
  refine ssx fun Q1 n1 => ?_
  walk_at "D"
  refine ⟨hTd, at_cc hT c.cE.1 c.cE.2 ?_⟩
  walk_at "D"
  refine ⟨_, hm, by rw [rv_len]; unfold sma; lia, n1 _ ?_⟩
  have hx1 : Ext d m (upd m d (.list (rv L ++ [V.tup [.int 0, .str []]]))) := .upd _ _ _
  have hm1 : upd m d (.list (rv L ++ [V.tup [.int 0, .str []]])) d = some (.list (rv (L ++ [((0 : Int), ([] : Tx))]))) := by rw [ups, rv_append]; rfl
  clear n1
  generalize upd m d (.list (rv L ++ [V.tup [.int 0, .str []]])) = m1 at hx1 hm1
  refine ssx fun Q2 n2 => ?_
  walk_at "D"
  refine n2 _ (ssx fun Q3 n3 => ?_)
  walk_at "D"
  refine n3 _ (ssx fun Q4 n4 => ?_)
  walk_at "D"
  refine n4 _ (ssx fun Q5 n5 => ?_)
  walk_at "D"
  refine n5 _ (ssx fun Q6 n6 => ?_)
  walk_at "D"
  refine n6 _ (ssx fun Q7 n7 => cm_loop1 c (hT.ext hTd hx1) hm1 (hk.append (.cons (.inr (.inl rfl)) .nil)) (by lia) fun m2 p cd ci td ti x7 x8 x9 hm2 hφ2 hx2 => n7 _ ?_)
  have hx2 := hx1.trans hx2
  refine ssx fun Q8 n8 => cm_pop hm2 eM (by lia) fun m3 hm3 hx3 => n8 _ ?_
  have hx3 := hx2.trans hx3
  refine cm_last c (hT.ext hTd hx3) hm3 hkind (by unfold merge at hphi; exact Nat.le_trans ‹_› ‹_›) (fun L' m1 Q' g1 g2 g3 g4 => hrec L' m1 Q' g1 g2 g3 (by unfold merge at hphi; exact Nat.lt_of_lt_of_le ‹_› ‹_›)) fun σ' g1 g2 => h σ' ?_ (hx3.trans g2)
  rw [cleanN]; exact g1
end
noncomputable def cmMeth (cls : Addr) (n : Nat) (f : String) (vs : List V) (Q : V → Mem → Prop) (m : Mem) : Prop :=
  (f = "diff_commonPrefix" ∧ ∃ s x y, vs = [s, .str x, .str y] ∧ sma x.length ∧ sma y.length ∧ Q (.int (lcp x y)) m) ∨
  (f = "diff_commonSuffix" ∧ ∃ s x y, vs = [s, .str x, .str y] ∧ sma x.length ∧ sma y.length ∧ Q (.int (lcs x y)) m) ∨
  (f = "diff_cleanupMerge" ∧ ∃ t d L, vs = [.obj t, .obj d] ∧ Tool (pcOf cls) m t ∧ m d = some (.list (rv L)) ∧ Kinds L ∧ phi L < n ∧ phi L ≤ 999 ∧ ∀ m', m' d = some (.list (rv (cleanN n L))) → Ext d m m' → Q .none m')
noncomputable def pcM (cls : Addr) (n : Nat) : PC := { pcOf cls with meth := cmMeth cls n }
theorem pcM_cm (cls : Addr) (n : Nat) : Cm (pcM cls n) where
  cD := ⟨rfl, rfl⟩
  cI := ⟨rfl, rfl⟩
  cE := ⟨rfl, rfl⟩
  fp := rfl
  fs := rfl
  fm := rfl
  cp := fun h1 h2 q => .inl ⟨rfl, _, _, _, rfl, h1, h2, q⟩
  cs := fun h1 h2 q => .inr (.inl ⟨rfl, _, _, _, rfl, h1, h2, q⟩)
noncomputable def cmChk (K : Frag) (cls : Addr) (fns meths : List String) : Bool :=
  fnChk K (meA K cls "diff_commonPrefix") m_diff_commonPrefixPs m_diff_commonPrefixRest (locSC m_diff_commonPrefixPs m_diff_commonPrefixRest m_diff_commonPrefixNames fns meths m_diff_commonPrefixCells) m_diff_commonPrefixBody &&
  fnChk K (meA K cls "diff_commonSuffix") m_diff_commonSuffixPs m_diff_commonSuffixRest (locSC m_diff_commonSuffixPs m_diff_commonSuffixRest m_diff_commonSuffixNames fns meths m_diff_commonSuffixCells) m_diff_commonSuffixBody &&
  fnChk K (meA K cls "diff_cleanupMerge") m_diff_cleanupMergePs m_diff_cleanupMergeRest (locSC m_diff_cleanupMergePs m_diff_cleanupMergeRest m_diff_cleanupMergeNames fns meths m_diff_cleanupMergeCells) m_diff_cleanupMergeBody
theorem cm_meth {G : GS} {cls : Addr} (b : Base G (pcOf cls)) (h : cmChk G.K cls G.fns G.meths = true) : ∀ (n : Nat) (A : Around), Lv A (n + 1) → ∀ f vs Q m, cmMeth cls n f vs Q m → CallS G A (.ref (meA G.K cls f)) vs Q m := by
  have h0 := h
  unfold cmChk at h
  simp only [Bool.and_eq_true] at h
  obtain ⟨⟨h1, h2⟩, h3⟩ := h
  intro n
  induction n with
  | zero =>
    intro A lv f vs Q m hc
    rcases hc with ⟨rfl, s, x, y, rfl, hx, hy, q⟩ | ⟨rfl, s, x, y, rfl, hx, hy, q⟩ | ⟨rfl, t, d, L, rfl, hT, hm, hk, hφ, _, _⟩
    · exact (call_fn b.gok b.gbi h1 lv.room (fun env => (lv.deeper env).rm) (fun env => run0 b) (fun _ h => h) (fun _ h => h) rfl (w_commonPrefix (pcOf cls) s x y m hx hy Q q)).toS
    · exact (call_fn b.gok b.gbi h2 lv.room (fun env => (lv.deeper env).rm) (fun env => run0 b) (fun _ h => h) (fun _ h => h) rfl (w_commonSuffix (pcOf cls) s x y m hx hy Q q)).toS
    · exact absurd hφ (Nat.not_lt_zero _)
  | succ n ih =>
    intro A lv f vs Q m hc
    rcases hc with ⟨rfl, s, x, y, rfl, hx, hy, q⟩ | ⟨rfl, s, x, y, rfl, hx, hy, q⟩ | ⟨rfl, t, d, L, rfl, hT, hm, hk, hφ, hφ9, q⟩
    · exact (call_fn b.gok b.gbi h1 lv.room (fun env => (lv.deeper env).rm) (fun env => run0 b) (fun _ h => h) (fun _ h => h) rfl (w_commonPrefix (pcOf cls) s x y m hx hy Q q)).toS
    · exact (call_fn b.gok b.gbi h2 lv.room (fun env => (lv.deeper env).rm) (fun env => run0 b) (fun _ h => h) (fun _ h => h) rfl (w_commonSuffix (pcOf cls) s x y m hx hy Q q)).toS
    · refine (call_fn (P := pcM cls n) b.gok b.gbi h3 lv.room (fun env => (lv.deeper env).rm) (fun env => ?_) (fun _ h => h) (fun _ h => h) rfl ?_).toS
      · exact run_mk (b.swap rfl rfl rfl) (fun _ _ _ _ _ h => h.elim) (fun f _ vs Q m hc => ih _ (lv.deeper env) f vs Q m hc) (fun _ _ _ _ h => h.elim)
      · refine w_cleanupMerge (pcM_cm cls n) hT hm hk hφ9 (fun L' m1 Q' g1 g2 g3 g4 g5 => ?_) fun σ' g1 g2 => q _ g1 g2
        exact .inr (.inr ⟨rfl, t, d, L', rfl, g1, g2, g3, by lia, by lia, g5⟩)
theorem wpComp_map {α : Type} {bind : V → (St → Prop) → St → Prop} {test : (Bool → St → Prop) → St → Prop} {elt : (V → St → Prop) → St → Prop} {g : Mem → Prop} {R : List V → St → Prop} (I : St → Prop) (h : α → V) (f : α → Option V) :
    ∀ (vs : List α) (us : List V) (σ : St), I σ → (∀ σ, I σ → g σ.mem) →
    (∀ v, v ∈ vs → ∀ σ, I σ → ∀ (K : V → St → Prop) (K' : St → Prop), (f v = none → ∀ σ', I σ' → K' σ') → (∀ u, f v = some u → ∀ σ', I σ' → K u σ') → bind (h v) (test fun b σ₁ => if b then elt K σ₁ else K' σ₁) σ) →
    (∀ σ', I σ' → R (us ++ vs.filterMap f) σ') → wpComp bind test elt g R (vs.map h) us σ
  | [], us, σ, i, hg, _, hR => ⟨hg σ i, by have := hR σ i; rwa [List.filterMap_nil, List.append_nil] at this⟩
  | v :: vs, us, σ, i, hg, hs, hR => by
    refine ⟨hg σ i, hs v List.mem_cons_self σ i _ _ (fun e σ' i' => ?_) (fun u e σ' i' => ?_)⟩
    · exact wpComp_map I h f vs us σ' i' hg (fun w hw => hs w (List.mem_cons_of_mem _ hw)) (by rwa [List.filterMap_cons_none e] at hR)
    · exact wpComp_map I h f vs (us ++ [u]) σ' i' hg (fun w hw => hs w (List.mem_cons_of_mem _ hw)) (by rw [List.filterMap_cons_some e] at hR; simpa using hR)
theorem loop_map {α : Type} {bind : V → (St → Prop) → St → Prop} {body : (Fl → St → Prop) → St → Prop} {g : Mem → Prop} {Q : Fl → St → Prop} (h : α → V) (I : List α → St → Prop) (hg : ∀ l σ, I l σ → g σ.mem)
    (step : ∀ p l σ, I (p :: l) σ → ∀ Q1 : Fl → St → Prop, (∀ σ', I l σ' → Q1 .next σ') → (∀ v σ', Q (.ret v) σ' → Q1 (.ret v) σ') → bind (h p) (body Q1) σ)
    (fin : ∀ σ, I [] σ → Q .next σ) : ∀ (l : List α) (σ : St), I l σ → wpLoop bind body g Q (l.map h) σ
  | [], σ, i => ⟨hg _ _ i, fin σ i⟩
  | p :: l, σ, i => ⟨hg _ _ i, step p l σ i _ (fun σ' i' => loop_map h I hg step fin l σ' i') (fun v σ' q => q)⟩
theorem rng_map (a : Nat) : ∀ n : Nat, rngFrom (a : Int) 1 n = (List.range' a n).map fun j : Nat => V.int j
  | 0 => rfl
  | n + 1 => by
    rw [List.range'_succ, List.map_cons, ← rng_map (a + 1) n]; rfl
theorem rng_two (a b : Nat) : rngL (a : Int) (b : Int) 1 = (List.range' a (b - a)).map fun j : Nat => V.int j := by
  unfold rngL Builtin.Range.rangeSize
  rw [if_pos (by decide), Int.ediv_one]
  have : (if (a : Int) < (b : Int) then (b : Int) - a - 1 + 1 else 0).toNat = b - a := by
    by_cases q : a < b
    · rw [if_pos (Int.ofNat_lt.mpr q), Int.sub_add_cancel, ← Int.ofNat_sub (Nat.le_of_lt q)]; rfl
    · rw [if_neg fun z => q (Int.ofNat_lt.mp z), Nat.sub_eq_zero_of_le (Nat.le_of_not_lt q)]; rfl
  rw [← rng_map]
  exact congrArg _ this
theorem it_row {m : Mem} {d : Addr} {r : Row} {K : List V → (Mem → Prop) → Prop} (hm : m d = some (.list (rv r))) (hs : r.length ≤ 1000) (h : K (rv r) fun m' => m' d = some (.list (rv r))) : wpItems m (.obj d) K :=
  ⟨_, hm, by rw [rv_len]; unfold sma; exact Nat.le_trans ‹_› (by decide), h⟩
noncomputable def m_initPs : List Str := ["self"]
noncomputable def m_initRest : List Str := []
noncomputable def m_initNames : List (Str × NameKind) := []
noncomputable def m_initCells : List Str := []
noncomputable def m_initBody : List Sm := [
    .assign [.attr (.var 0) "Diff_Timeout"] (.lit (.flt 4607182418800017408)),
    .assign [.attr (.var 0) "Diff_EditCost"] (.lit (.int 4)),
    .assign [.attr (.var 0) "Match_Threshold"] (.lit (.flt 4602678819172646912)),
    .assign [.attr (.var 0) "Match_Distance"] (.lit (.int 1000)),
    .assign [.attr (.var 0) "Patch_DeleteThreshold"] (.lit (.flt 4602678819172646912)),
    .assign [.attr (.var 0) "Patch_Margin"] (.lit (.int 4)),
    .assign [.attr (.var 0) "Match_MaxBits"] (.lit (.int 32))]
noncomputable def toolFs : List (Str × V) := [("Diff_Timeout", .flt 4607182418800017408), ("Diff_EditCost", .int 4), ("Match_Threshold", .flt 4602678819172646912), ("Match_Distance", .int 1000), ("Patch_DeleteThreshold", .flt 4602678819172646912), ("Patch_Margin", .int 4), ("Match_MaxBits", .int 32)]
theorem setF_new {n : String} {v : V} : ∀ {fs : List (Str × V)}, (fs.map (·.1)).contains (Str.ofString n) = false → setF n v fs = fs ++ [(Str.ofString n, v)]
  | [], _ => rfl
  | (x, u) :: r, h => by
    simp only [List.map_cons, List.contains_cons, Bool.or_eq_false_iff, beq_eq_false_iff_ne] at h
    unfold setF
    rw [if_neg (Ne.symm h.1), setF_new h.2]; rfl
theorem lookF_none {n : String} : ∀ {fs : List (Str × V)}, (fs.map (·.1)).contains (Str.ofString n) = false → lookF n fs = none
  | [], _ => rfl
  | (x, u) :: r, h => by
    simp only [List.map_cons, List.contains_cons, Bool.or_eq_false_iff, beq_eq_false_iff_ne] at h
    unfold lookF
    rw [if_neg (Ne.symm h.1), lookF_none h.2]
noncomputable def toolNames : List Str := ["Diff_Timeout", "Diff_EditCost", "Match_Threshold", "Match_Distance", "Patch_DeleteThreshold", "Patch_Margin", "Match_MaxBits"]
theorem tool_names : toolFs.map (·.1) = toolNames := rfl
theorem no_names : ∀ n ∈ noFldL, toolNames.contains (Str.ofString n) = false := by decide +kernel
theorem tool_no (n : String) (h : noFld n = true) : lookF n toolFs = none := lookF_none (by rw [tool_names]; exact no_names n (List.contains_iff_mem.mp h))
theorem tg_attr {P : PC} {σ : St} {o : Ex} {n : String} {v : V} {Q : St → Prop} : wpTg P (.attr o n) v Q σ = wpE P o (fun ov σ₁ => ∃ a d fs, ov = .obj a ∧ σ₁.mem a = some (.inst P.cls d) ∧ σ₁.mem d = some (.dict fs) ∧ fs.length ≤ 100 ∧ P.fld n = true ∧
      Q { σ₁ with mem := upd σ₁.mem d (.dict (setF n v fs)) }) σ := rfl
theorem fld_ok (cls : Addr) (n : String) (h : ["Diff_Timeout", "Diff_EditCost", "Match_Threshold", "Match_Distance", "Patch_DeleteThreshold", "Patch_Margin", "Match_MaxBits"].contains n = true) : (pcOf cls).fld n = true := h
theorem w_init (cls t d : Addr) (m : Mem) (hI : m t = some (.inst cls d)) (hD : m d = some (.dict [])) (Q : V → Mem → Prop) (q : ∀ m', m' t = some (.inst cls d) → m' d = some (.dict toolFs) → (∀ a o, a ≠ d → m a = some o → m' a = some o) → Q .none m') :
    wpSs (pcOf cls) m_initBody (fun fl σ' => Q (retV fl) σ'.mem) ⟨[V.obj t].map some ++ List.replicate 0 none, m⟩ := by
  have hne : t ≠ d := fun e => by subst e; rw [hI] at hD; cases hD
  have one : ∀ (n : String) (v : V) (k : Nat) (m : Mem) (ss : List Sm) (Q : Fl → St → Prop), m t = some (.inst cls d) → m d = some (.dict (toolFs.take k)) → (pcOf cls).fld n = true → setF n v (toolFs.take k) = toolFs.take (k + 1) →
      (∀ m', m' = upd m d (.dict (toolFs.take (k + 1))) → m' t = some (.inst cls d) → m' d = some (.dict (toolFs.take (k + 1))) → wpSs (pcOf cls) ss Q ⟨[some (.obj t)], m'⟩) → wpSs (pcOf cls) (.assign [.attr (.var 0) n] (.lit v) :: ss) Q ⟨[some (.obj t)], m⟩ := fun n v k m ss Q h1 h2 h3 h4 h5 => by
    refine ssx fun Q1 n1 => ?_
    dsimp only [r_lit, r_var, r_bin, r_neg, r_not, r_list, r_tup, r_cmp, r_band, r_bor, r_idx, r_slc, r_attr, r_bi, r_call, r_me, r_imeth, r_comp, r_comp2, r_ite, r_ch2, r_es0, r_es1, r_ch1, r_bo1, r_bo2, r_tnot, r_tband, r_tbor, r_tcmp, r_tvar, r_tcall, r_tme, r_tidx, r_tbi, r_ts0, r_ts1, r_tgs0, r_tgs1, r_sexpr, r_sassign, r_saug, r_sdel, r_sife, r_swhl, r_sfr, r_sret, r_ss0, r_ss1, tg_var, tg_tup, tg_idx, tg_slc, bin_add, bin_sub, bin_mul, bin_div, bin_mod, bin_cat, cmp_eqi, cmp_eqs, cmp_nei, cmp_nes, cmp_lt, cmp_le, cmp_gt, cmp_ge, cmp_isn, cmp_ist, cmp_notn, cmp_nott, tr_none, tr_bool, tr_int, tr_str, tr_tup, ix_str, ix_tup, sl_ii, sl_in, sl_ni, bi_lens, bi_lent, bi_min, bi_max, bi_rng, bi_rng2, me_find, me_find2, ok_find, me_app, ok_app, me_ins, me_pop, me_join, me_ends, me_starts, ok_ins, ok_pop, ok_join, ok_ends, ok_starts, it_str, it_rng, neg_int, aug_addi, aug_adds, aug_subi, St.set, St.setAll, List.map_cons, List.map_nil, List.replicate, List.cons_append, List.nil_append, List.getElem?_cons_succ, List.getElem?_cons_zero, List.set_cons_succ, List.set_cons_zero, List.length_cons, List.length_nil, dreduceIte, retV, tg_attr]
    refine ⟨t, d, _, rfl, h1, h2, by simp [toolFs]; lia, h3, n1 _ ?_⟩
    rw [h4]
    exact h5 _ rfl (by rw [upn _ _ hne]; exact h1) (ups _ _ _)
  unfold m_initBody
  refine one _ _ 0 m _ _ hI hD (fld_ok _ _ (by decide +kernel)) rfl fun m1 e1 i1 d1 => ?_
  refine one _ _ 1 m1 _ _ i1 d1 (fld_ok _ _ (by decide +kernel)) (by rw [setF_new (by decide +kernel)]; rfl) fun m2 e2 i2 d2 => ?_
  refine one _ _ 2 m2 _ _ i2 d2 (fld_ok _ _ (by decide +kernel)) (by rw [setF_new (by decide +kernel)]; rfl) fun m3 e3 i3 d3 => ?_
  refine one _ _ 3 m3 _ _ i3 d3 (fld_ok _ _ (by decide +kernel)) (by rw [setF_new (by decide +kernel)]; rfl) fun m4 e4 i4 d4 => ?_
  refine one _ _ 4 m4 _ _ i4 d4 (fld_ok _ _ (by decide +kernel)) (by rw [setF_new (by decide +kernel)]; rfl) fun m5 e5 i5 d5 => ?_
  refine one _ _ 5 m5 _ _ i5 d5 (fld_ok _ _ (by decide +kernel)) (by rw [setF_new (by decide +kernel)]; rfl) fun m6 e6 i6 d6 => ?_
  refine one _ _ 6 m6 _ _ i6 d6 (fld_ok _ _ (by decide +kernel)) (by rw [setF_new (by decide +kernel)]; rfl) fun m7 e7 i7 d7 => ?_
  refine ss_nil (q m7 i7 d7 fun a o ha h => ?_)
  rw [e7, upn _ _ ha, e6, upn _ _ ha, e5, upn _ _ ha, e4, upn _ _ ha, e3, upn _ _ ha, e2, upn _ _ ha, e1, upn _ _ ha]; exact h
theorem Lv.call {A : Around} {k : Nat} (h : Lv A (k + 1)) (C : Addr) : Lv (A.under (.builtin "type.__call__" ⟨[.ref C], []⟩)) k := by
  have hw : Code.weight (.builtin "type.__call__" ⟨[.ref C], []⟩) ≤ 1 := Nat.le_of_eq (by kernel_rfl)
  have hu : Code.cUnits (.builtin "type.__call__" ⟨[.ref C], []⟩) ≤ 4 := by
    have e : Code.cUnits (.builtin "type.__call__" ⟨[.ref C], []⟩) = 1 := by kernel_rfl
    exact Nat.succ_pos _
  refine ⟨h.hd, ?_, ?_⟩
  · have := h.dp; show A.depth + _ + k < _; grind
  · have := h.un; show A.units + _ + 4 * k + 80 < _; grind
theorem fa_law {K : Frag} {h : Heap} {mg : Str → Option Value} {n : String} {f : Value} (X : K.In h) (g : h.Ns mainGlobals mg) (e : mg (Str.ofString n) = some f) (h1 : fnV K n = .ref (fnA K n)) : f = .ref (fnA K n) := by
  unfold fnV at h1
  cases q : nsIn K mainGlobals (Str.ofString n) with
  | none => rw [q] at h1; cases h1
  | some o =>
    cases o with
    | none => rw [q] at h1; cases h1
    | some v =>
      have := mg_of X g q
      rw [e] at this
      cases this
      rw [q] at h1
      exact h1
theorem bindIs_one {i : Nat} {v : V} {Q : St → Prop} {σ : St} : bindIs true [i] v Q σ = Q (σ.set i v) := rfl
noncomputable def turnT (p : Part) : Option V := if p.1 = 0 then none else some (.int p.2.length)
theorem turn_list : ∀ r : Row, ∃ ns : List Int, r.filterMap turnT = ns.map V.int ∧ ns.sum = turned r
  | [] => ⟨[], rfl, rfl⟩
  | p :: r => by
    obtain ⟨ns, a, b⟩ := turn_list r
    by_cases h : p.1 = 0
    · refine ⟨ns, ?_, ?_⟩
      · rw [List.filterMap_cons_none (show turnT p = none from if_pos h), a]
      · rw [b, turned, if_pos h, Nat.zero_add]
    · refine ⟨p.2.length :: ns, ?_, ?_⟩
      · rw [List.filterMap_cons_some (show turnT p = some (.int p.2.length) from if_neg h), a]; rfl
      · rw [List.sum_cons, b, turned, if_neg h]; simp
theorem sum_turned {P : PC} {d : Addr} {R : Row} {m : Mem} {i : Nat} {L : List (Option V)} {K : V → St → Prop} (hm : m d = some (.list (rv R))) (hs : phi R ≤ 1000) (hL : L[i]? = some (some (.obj d))) (h : ∀ m', Gr m m' → K (.int (turned R)) ⟨L, m'⟩) :
    wpE P (.bi .sum [.comp (.bi .len [.var 1]) false [0, 1] (.var i) [.cmp (.var 0) [.NotEq] [.lit (.int 0)]] 2 []]) K ⟨L, m⟩ := by
  have hl := llp R
  (dsimp only [r_bi, r_es1, r_comp]; rw [r_var])
  show match L[i]? with | some (some v) => _ | _ => False
  rw [hL]
  refine it_row hm (by lia) ⟨by rw [rv_len]; unfold sma; lia, ?_⟩
  refine wpComp_map (fun σ => ∃ x y, σ = ⟨[x, y], m⟩) pv turnT R [] _ ⟨none, none, rfl⟩ (by rintro _ ⟨x, y, rfl⟩; exact hm) ?_ ?_
  · rintro ⟨j, t⟩ hp _ ⟨x, y, rfl⟩ K K' h1 h2
    have g1 : j = 0 → ∀ σ', (∃ x y, σ' = ⟨[x, y], m⟩) → K' σ' := fun q => h1 (if_pos q)
    have g2 : ¬ j = 0 → ∀ σ', (∃ x y, σ' = ⟨[x, y], m⟩) → K (.int t.length) σ' := fun q => h2 _ (if_neg q)
    have ht : t.length < phi R := txt_le_phi hp
    refine ⟨rfl, ?_⟩
    walk_at "D"
    by_cases q : j = 0
    · rw [decide_eq_true q]
      exact g1 q _ ⟨_, _, rfl⟩
    · rw [decide_eq_false q]
      exact ⟨by unfold sma; lia, g2 q _ ⟨_, _, rfl⟩⟩
  · rintro _ ⟨x, y, rfl⟩ a ha
    obtain ⟨ns, e1, e2⟩ := turn_list R
    refine ⟨ns, ?_, ?_⟩
    · left
      show upd m a _ a = _
      rw [ups, List.nil_append, e1]
    · rw [e2]
      exact h _ (.new ha _)
noncomputable def m_diff_bisectPs : List Str := ["self", "text1", "text2", "deadline"]
noncomputable def m_diff_bisectRest : List Str := ["text1_length", "text2_length", "max_d", "v_offset", "v_length", "v1", "v2", "delta", "front", "k1start", "k1end", "k2start", "k2end", "d", "k1", "k1_offset", "x1", "y1", "k2_offset", "x2", "k2", "y2"]
noncomputable def m_diff_bisectNames : List (Str × NameKind) := [("len", .globalImplicit), ("range", .globalImplicit)]
noncomputable def m_diff_bisectCells : List Str := []
noncomputable def m_diff_bisectB1 : List Sm := [
    .aug 20 .Add (.lit (.int 1)),
    .aug 21 .Add (.lit (.int 1))]
noncomputable def m_diff_bisectB2 : List Sm := [
    .assign [.var 23] (.bin .Sub (.var 4) (.idx (.var 10) (.var 22))),
    .ife (.cmp (.var 20) [.GtE] [.var 23]) [
      .ret (.imeth (.var 0) "diff_bisectSplit" [.var 1, .var 2, .var 20, .var 21, .var 3])] []]
noncomputable def m_diff_bisectB3 : List Sm := [
    .assign [.var 22] (.bin .Sub (.bin .Add (.var 7) (.var 11)) (.var 18)),
    .ife (.band [.cmp (.var 22) [.GtE] [.lit (.int 0)], .cmp (.var 22) [.Lt] [.var 8], .cmp (.idx (.var 10) (.var 22)) [.NotEq] [.neg (.lit (.int 1))]]) m_diff_bisectB2 []]
noncomputable def m_diff_bisectB4 : List Sm := [
    .assign [.var 19] (.bin .Add (.var 7) (.var 18)),
    .ife (.bor [.cmp (.var 18) [.Eq] [.neg (.var 17)], .band [.cmp (.var 18) [.NotEq] [.var 17], .cmp (.idx (.var 9) (.bin .Sub (.var 19) (.lit (.int 1)))) [.Lt] [.idx (.var 9) (.bin .Add (.var 19) (.lit (.int 1)))]]]) [
      .assign [.var 20] (.idx (.var 9) (.bin .Add (.var 19) (.lit (.int 1))))] [
      .assign [.var 20] (.bin .Add (.idx (.var 9) (.bin .Sub (.var 19) (.lit (.int 1)))) (.lit (.int 1)))],
    .assign [.var 21] (.bin .Sub (.var 20) (.var 18)),
    .whl (.band [.cmp (.var 20) [.Lt] [.var 4], .cmp (.var 21) [.Lt] [.var 5], .cmp (.idx (.var 1) (.var 20)) [.Eq] [.idx (.var 2) (.var 21)]]) m_diff_bisectB1,
    .assign [.idx (.var 9) (.var 19)] (.var 20),
    .ife (.cmp (.var 20) [.Gt] [.var 4]) [
      .aug 14 .Add (.lit (.int 2))] [
      .ife (.cmp (.var 21) [.Gt] [.var 5]) [
        .aug 13 .Add (.lit (.int 2))] [
        .ife (.var 12) m_diff_bisectB3 []]]]
noncomputable def m_diff_bisectB5 : List Sm := [
    .aug 23 .Add (.lit (.int 1)),
    .aug 25 .Add (.lit (.int 1))]
noncomputable def m_diff_bisectB6 : List Sm := [
    .assign [.var 20] (.idx (.var 9) (.var 19)),
    .assign [.var 21] (.bin .Sub (.bin .Add (.var 7) (.var 20)) (.var 19)),
    .assign [.var 23] (.bin .Sub (.var 4) (.var 23)),
    .ife (.cmp (.var 20) [.GtE] [.var 23]) [
      .ret (.imeth (.var 0) "diff_bisectSplit" [.var 1, .var 2, .var 20, .var 21, .var 3])] []]
noncomputable def m_diff_bisectB7 : List Sm := [
    .assign [.var 19] (.bin .Sub (.bin .Add (.var 7) (.var 11)) (.var 24)),
    .ife (.band [.cmp (.var 19) [.GtE] [.lit (.int 0)], .cmp (.var 19) [.Lt] [.var 8], .cmp (.idx (.var 9) (.var 19)) [.NotEq] [.neg (.lit (.int 1))]]) m_diff_bisectB6 []]
noncomputable def m_diff_bisectB8 : List Sm := [
    .assign [.var 22] (.bin .Add (.var 7) (.var 24)),
    .ife (.bor [.cmp (.var 24) [.Eq] [.neg (.var 17)], .band [.cmp (.var 24) [.NotEq] [.var 17], .cmp (.idx (.var 10) (.bin .Sub (.var 22) (.lit (.int 1)))) [.Lt] [.idx (.var 10) (.bin .Add (.var 22) (.lit (.int 1)))]]]) [
      .assign [.var 23] (.idx (.var 10) (.bin .Add (.var 22) (.lit (.int 1))))] [
      .assign [.var 23] (.bin .Add (.idx (.var 10) (.bin .Sub (.var 22) (.lit (.int 1)))) (.lit (.int 1)))],
    .assign [.var 25] (.bin .Sub (.var 23) (.var 24)),
    .whl (.band [.cmp (.var 23) [.Lt] [.var 4], .cmp (.var 25) [.Lt] [.var 5], .cmp (.idx (.var 1) (.bin .Sub (.neg (.var 23)) (.lit (.int 1)))) [.Eq] [.idx (.var 2) (.bin .Sub (.neg (.var 25)) (.lit (.int 1)))]]) m_diff_bisectB5,
    .assign [.idx (.var 10) (.var 22)] (.var 23),
    .ife (.cmp (.var 23) [.Gt] [.var 4]) [
      .aug 16 .Add (.lit (.int 2))] [
      .ife (.cmp (.var 25) [.Gt] [.var 5]) [
        .aug 15 .Add (.lit (.int 2))] [
        .ife (.not (.var 12)) m_diff_bisectB7 []]]]
noncomputable def m_diff_bisectB9 : List Sm := [
    .fr (.var 18) (.bi .range [.bin .Add (.neg (.var 17)) (.var 13), .bin .Sub (.bin .Add (.var 17) (.lit (.int 1))) (.var 14), .lit (.int 2)]) m_diff_bisectB4,
    .fr (.var 24) (.bi .range [.bin .Add (.neg (.var 17)) (.var 15), .bin .Sub (.bin .Add (.var 17) (.lit (.int 1))) (.var 16), .lit (.int 2)]) m_diff_bisectB8]
noncomputable def m_diff_bisectBody : List Sm := [
    .assign [.var 4] (.bi .len [.var 1]),
    .assign [.var 5] (.bi .len [.var 2]),
    .assign [.var 6] (.bin .FloorDiv (.bin .Add (.bin .Add (.var 4) (.var 5)) (.lit (.int 1))) (.lit (.int 2))),
    .assign [.var 7] (.var 6),
    .assign [.var 8] (.bin .Mult (.lit (.int 2)) (.var 6)),
    .assign [.var 9] (.bin .Mult (.list [.neg (.lit (.int 1))]) (.var 8)),
    .assign [.idx (.var 9) (.bin .Add (.var 7) (.lit (.int 1)))] (.lit (.int 0)),
    .assign [.var 10] (.slc (.var 9) (.lit .none) (.lit .none) (.lit .none)),
    .assign [.var 11] (.bin .Sub (.var 4) (.var 5)),
    .assign [.var 12] (.cmp (.bin .Mod (.var 11) (.lit (.int 2))) [.NotEq] [.lit (.int 0)]),
    .assign [.var 13] (.lit (.int 0)),
    .assign [.var 14] (.lit (.int 0)),
    .assign [.var 15] (.lit (.int 0)),
    .assign [.var 16] (.lit (.int 0)),
    .fr (.var 17) (.bi .range [.var 6]) m_diff_bisectB9,
    .ret (.list [.tup [.attr (.var 0) "DIFF_DELETE", .var 1], .tup [.attr (.var 0) "DIFF_INSERT", .var 2]])]
noncomputable def vl (off : Nat) (f : Int → Int) : List V := (List.range (2 * off)).map fun (i : Nat) => V.int (f ((i : Int) - off))
theorem vl_len (off : Nat) (f : Int → Int) : (vl off f).length = 2 * off := by unfold vl; rw [List.length_map, List.length_range]
theorem vl_at {off : Nat} {f : Int → Int} {i : Nat} (h : i < 2 * off) : (vl off f)[i]? = some (.int (f ((i : Int) - off))) := by
  unfold vl; rw [List.getElem?_map, List.getElem?_range h]; rfl
theorem vl_get {off : Nat} {f : Int → Int} {k : Int} (h1 : -(off : Int) ≤ k) (h2 : k < off) : pyGet (vl off f) ((off : Int) + k) = some (.int (f k)) := by
  obtain ⟨i, hi⟩ : ∃ i : Nat, (off : Int) + k = i := ⟨((off : Int) + k).toNat, by grind⟩
  rw [hi, pyGet_nn _ _ (by rw [vl_len]; grind), vl_at (by grind)]
  congr 3; grind
theorem vl_set {off : Nat} {f : Int → Int} {k v : Int} {i : Nat} (hi : (off : Int) + k = i) (h : i < 2 * off) : (vl off f).set i (.int v) = vl off (up f k v) := by
  apply List.ext_getElem?
  intro j
  by_cases hj : j < 2 * off
  · rw [vl_at hj]
    by_cases e : i = j
    · subst e
      rw [List.getElem?_set_self (by rw [vl_len]; exact h), show ((i : Int) - off) = k by grind, up_self]
    · rw [List.getElem?_set_ne e, vl_at hj, up_ne _ _ (by grind)]
  · rw [List.getElem?_eq_none (by rw [List.length_set, vl_len]; lia), List.getElem?_eq_none (by rw [vl_len]; grind)]
theorem ix_tab {m : Mem} {l : Addr} {off : Nat} {f : Int → Int} {k i : Int} {K : V → Prop} (hm : m l = some (.list (vl off f))) (hi : i = (off : Int) + k) (h1 : -(off : Int) ≤ k) (h2 : k < off) (ho : off ≤ 1000) (q : K (.int (f k))) : wpIdx m (.obj l) (.int i) K := by
  subst hi
  exact ⟨by unfold tiny; lia, _, _, hm, vl_get h1 h2, q⟩
theorem or_no {p : Prop} [Decidable p] {X Y : Prop} (hp : ¬ p) (x : X) : if decide p = false then X else Y := by rw [if_pos (decide_eq_false hp)]; exact x
theorem or_yes {p : Prop} [Decidable p] {X Y : Prop} (hp : p) (y : Y) : if decide p = false then X else Y := by rw [if_neg (by rw [decide_eq_true hp]; decide)]; exact y
noncomputable abbrev bsS (s : V) (a b : Tx) (dl : V) (off : Nat) (l1 l2 : Addr) (ks ke ks2 ke2 : Nat) (d : Int) (u18 u19 u20 u21 u22 u23 u24 u25 : Option V) (m : Mem) : St :=
  ⟨[some s, some (.str a), some (.str b), some dl, some (.int a.length), some (.int b.length), some (.int off), some (.int off), some (.int (2 * off)), some (.obj l1), some (.obj l2), some (.int ((a.length : Int) - b.length)), some (.bool (oddD a b)),
    some (.int ks), some (.int ke), some (.int ks2), some (.int ke2), some (.int d), u18, u19, u20, u21, u22, u23, u24, u25], m⟩
section
variable {P : PC} {Q : Fl → St → Prop} {s dl : V} {a b : Tx} {off : Nat} {l1 l2 : Addr} {ks ke ks2 ke2 : Nat} {d : Nat} {u18 u19 u20 u21 u22 u23 u24 u25 : Option V} {m : Mem} {f g : Int → Int}
inductive IW (N : Nat) (S : Nat → St) (n : Nat) (σ : St) : Prop
  | mk (t : Nat) : t ≤ N → n = N - t → σ = S t → IW N S n σ
theorem bs_w1 {p : Int} {x y : Nat} (hx : sma a.length) (hy : sma b.length) (h : Q .next (bsS s a b dl off l1 l2 ks ke ks2 ke2 d (some (.int p)) u19 (some (.int ((x + lcp (a.drop x) (b.drop y) : Nat) : Int))) (some (.int ((y + lcp (a.drop x) (b.drop y) : Nat) : Int))) u22 u23 u24 u25 m)) :
    wpS P (.whl (.band [.cmp (.var 20) [.Lt] [.var 4], .cmp (.var 21) [.Lt] [.var 5], .cmp (.idx (.var 1) (.var 20)) [.Eq] [.idx (.var 2) (.var 21)]]) m_diff_bisectB1) Q (bsS s a b dl off l1 l2 ks ke ks2 ke2 d (some (.int p)) u19 (some (.int x)) (some (.int y)) u22 u23 u24 u25 m) := by
  refine ⟨IW (lcp (a.drop x) (b.drop y)) fun t => bsS s a b dl off l1 l2 ks ke ks2 ke2 d (some (.int p)) u19 (some (.int ((x + t : Nat) : Int))) (some (.int ((y + t : Nat) : Int))) u22 u23 u24 u25 m, ⟨_, 0, Nat.zero_le _, rfl, rfl⟩, ?_⟩
  rintro n σ ⟨t, ht, rfl, rfl⟩
  have hl := lcp_le (a.drop x) (b.drop y)
  rw [List.length_drop, List.length_drop] at hl
  unfold m_diff_bisectB1
  walk_at "D"
  have out : ¬ t < lcp (a.drop x) (b.drop y) → Q .next (bsS s a b dl off l1 l2 ks ke ks2 ke2 d (some (.int p)) u19 (some (.int ((x + t : Nat) : Int))) (some (.int ((y + t : Nat) : Int))) u22 u23 u24 u25 m) := fun q => by
    have : t = lcp (a.drop x) (b.drop y) := Nat.le_antisymm ht (Nat.le_of_not_lt q)
    rw [this]; exact h
  by_cases c1 : x + t < a.length
  · refine if_yes (Int.ofNat_lt.mpr c1) ?_
    by_cases c2 : y + t < b.length
    · refine if_yes (Int.ofNat_lt.mpr c2) ⟨tiny_n (Nat.le_trans (Nat.le_of_lt c1) hx), _, (pyGet_nn a _ c1).trans (List.getElem?_eq_getElem c1), tiny_n (Nat.le_trans (Nat.le_of_lt c2) hy), _, (pyGet_nn b _ c2).trans (List.getElem?_eq_getElem c2), ?_⟩
      have key : t < lcp (a.drop x) (b.drop y) ↔ a[x + t] = b[y + t] := by
        constructor
        · intro q
          have e := (lcp_iff (t + 1) (a.drop x) (b.drop y) (Nat.le_trans q (lcp_le _ _).1) (Nat.le_trans q (lcp_le _ _).2)).mp q
          have := congrArg (fun l => l[t]?) e
          simp only [List.getElem?_take, List.getElem?_drop] at this
          rw [if_pos (Nat.lt_succ_self t), if_pos (Nat.lt_succ_self t), List.getElem?_eq_getElem c1, List.getElem?_eq_getElem c2] at this
          exact Option.some.inj this
        · intro e
          refine Nat.lt_of_not_le fun q => ?_
          have e2 : t = lcp (a.drop x) (b.drop y) := Nat.le_antisymm ht q
          subst e2
          exact (lcp_snake a b x y).stop c1 c2 e
      by_cases c3 : t < lcp (a.drop x) (b.drop y)
      · refine if_yes (by rw [key.mp c3]) ?_
        exact ⟨_, Nat.sub_lt_sub_left c3 (Nat.lt_succ_self t), t + 1, c3, rfl, rfl⟩
      · exact if_no (fun q => c3 (key.mpr (by simpa using q))) (out c3)
    · exact if_no (fun q => c2 (Int.ofNat_lt.mp q)) (out fun q => c2 (Nat.add_lt_of_lt_sub' (Nat.lt_of_lt_of_le q hl.2)))
  · exact if_no (fun q => c1 (Int.ofNat_lt.mp q)) (out fun q => c1 (Nat.add_lt_of_lt_sub' (Nat.lt_of_lt_of_le q hl.1)))
end
theorem pyIx_nat {n i : Nat} (h : i < n) : pyIx n (i : Int) = some i := by
  unfold pyIx seqIndex?
  have e : (if (i : Int) < 0 then (i : Int) + n else (i : Int)) = i := if_neg (by grind)
  simp only [e]
  rw [if_pos (by simp; omega)]; simp
section
variable {P : PC} {Q : Fl → St → Prop} {s dl : V} {a b : Tx} {off : Nat} {l1 l2 : Addr} {ks ke ks2 ke2 : Nat} {d : Nat} {u18 u19 u20 u21 u22 u23 u24 u25 : Option V} {m : Mem} {f g : Int → Int}
theorem bs_pick {p : Int} (hm : m l1 = some (.list (vl off f))) (ho : off ≤ 1000) (ho2 : 2 ≤ off) (hd : d < off) (h1 : -(d : Int) ≤ p) (h2 : p ≤ d)
    (h : Q .next (bsS s a b dl off l1 l2 ks ke ks2 ke2 d (some (.int p)) (some (.int ((off : Int) + p))) (some (.int (pick d p f))) u21 u22 u23 u24 u25 m)) :
    wpS P (.ife (.bor [.cmp (.var 18) [.Eq] [.neg (.var 17)], .band [.cmp (.var 18) [.NotEq] [.var 17], .cmp (.idx (.var 9) (.bin .Sub (.var 19) (.lit (.int 1)))) [.Lt] [.idx (.var 9) (.bin .Add (.var 19) (.lit (.int 1)))]]]) [
      .assign [.var 20] (.idx (.var 9) (.bin .Add (.var 19) (.lit (.int 1))))] [
      .assign [.var 20] (.bin .Add (.idx (.var 9) (.bin .Sub (.var 19) (.lit (.int 1)))) (.lit (.int 1)))]) Q
      (bsS s a b dl off l1 l2 ks ke ks2 ke2 d (some (.int p)) (some (.int ((off : Int) + p))) u20 u21 u22 u23 u24 u25 m) := by
  refine s_ife fun K kt kf => ?_
  have yes : ∀ (_ : pick d p f = f (p + 1)) (_ : p + 1 < off), K true (bsS s a b dl off l1 l2 ks ke ks2 ke2 d (some (.int p)) (some (.int ((off : Int) + p))) u20 u21 u22 u23 u24 u25 m) := fun e q => kt _ (by
    walk_at "D"
    rw [e] at h
    exact ix_tab hm (k := p + 1) (by grind) (by grind) q ho h)
  have no : ∀ (_ : pick d p f = f (p - 1) + 1) (_ : -(off : Int) ≤ p - 1), K false (bsS s a b dl off l1 l2 ks ke ks2 ke2 d (some (.int p)) (some (.int ((off : Int) + p))) u20 u21 u22 u23 u24 u25 m) := fun e q => kf _ (by
    walk_at "D"
    rw [e] at h
    exact ix_tab hm (k := p - 1) (by grind) q (by lia) ho h)
  clear h kt kf
  walk_at "D"
  by_cases c1 : p = -(d : Int)
  · exact or_yes c1 (yes (if_pos (.inl c1)) (by lia))
  · refine or_no c1 ?_
    by_cases c2 : p = (d : Int)
    · exact if_not_yes c2 (no (if_neg (by rintro (q | q); exact c1 q; exact q.1 c2)) (by (clear ho hd h2 c1; lia)))
    · refine if_not_no c2 (ix_tab hm (k := p - 1) (by grind) (by (clear ho ho2 h2 c1 c2; lia)) (by grind) ho (ix_tab hm (k := p + 1) (by grind) (by (clear ho ho2 h2 c1 c2; lia)) (by lia) ho ?_))
      walk_at "D"
      by_cases c3 : f (p - 1) < f (p + 1)
      · rw [decide_eq_true c3]; exact yes (if_pos (.inr ⟨c2, c3⟩)) (by grind)
      · rw [decide_eq_false c3]; exact no (if_neg (by rintro (q | q); exact c1 q; exact c3 q.2)) (by grind)
theorem bs_hit {p : Int} {x y : Nat} (hm : m l2 = some (.list (vl off g))) (ho : off ≤ 1000) (hp : p = (x : Int) - y) (hx : x ≤ a.length) (hy : y ≤ b.length)
    (hN : ¬ Hit a b off g p x → ∀ u22 u23, Q .next (bsS s a b dl off l1 l2 ks ke ks2 ke2 d (some (.int p)) u19 (some (.int x)) (some (.int y)) u22 u23 u24 u25 m))
    (hR : Hit a b off g p x → ∀ loc, P.meth "diff_bisectSplit" [s, .str a, .str b, .int x, .int y, dl] (fun r m' => Q (.ret r) ⟨loc, m'⟩) m)
    (hs : ∃ A dd fs, s = .obj A ∧ m A = some (.inst P.cls dd) ∧ m dd = some (.dict fs) ∧ lookF "diff_bisectSplit" fs = none) :
    wpSs P m_diff_bisectB3 Q (bsS s a b dl off l1 l2 ks ke ks2 ke2 d (some (.int p)) u19 (some (.int x)) (some (.int y)) u22 u23 u24 u25 m) := by
  unfold m_diff_bisectB3
  refine ssx fun Q1 n1 => ?_
  walk_at "D"
  refine n1 _ (ssn (s_ife fun K kt kf => ?_))
  have hlx : (x : Int) ≤ a.length := Int.ofNat_le.mpr hx
  have hly : (x : Int) - p ≤ b.length := by rw [ hp ]; lia
  have no : ¬ Hit a b off g p x → K false (bsS s a b dl off l1 l2 ks ke ks2 ke2 d (some (.int p)) u19 (some (.int x)) (some (.int y)) (some (.int ((off : Int) + ((a.length : Int) - b.length) - p))) u23 u24 u25 m) := fun q => kf _ (hN q _ _)
  walk_at "D"
  by_cases c1 : 0 ≤ (off : Int) + ((a.length : Int) - b.length) - p
  · refine if_yes c1 ?_
    by_cases c2 : (off : Int) + ((a.length : Int) - b.length) - p < 2 * off
    · refine if_yes c2 (ix_tab hm (k := (a.length : Int) - b.length - p) (by grind) (by (clear ho hp hx hy hlx hly c2; lia)) (by (clear ho hp hx hy hlx hly c1; lia)) ho ?_)
      walk_at "D"
      by_cases c3 : g ((a.length : Int) - b.length - p) = -1
      · rw [ decide_eq_true c3 ]
        exact no fun q => q.2.2.2.2.1 c3
      · rw [ decide_eq_false c3 ]
        refine kt _ ?_
        unfold m_diff_bisectB2
        refine ssx fun Q2 n2 => ?_
        walk_at "D"
        refine ix_tab hm (k := (a.length : Int) - b.length - p) (by grind) (by grind) (by grind) ho ?_
        walk_at "D"
        refine n2 _ (ssn (s_ife fun K' kt' kf' => ?_))
        walk_at "D"
        by_cases c4 : (a.length : Int) - g ((a.length : Int) - b.length - p) ≤ x
        · rw [ decide_eq_true c4 ]
          refine kt' _ ?_
          walk_at "D"
          exact ⟨hs, hR ⟨hlx, hly, by grind, by grind, c3, c4⟩ _⟩
        · rw [ decide_eq_false c4 ]
          exact kf' _ (hN (fun q => c4 q.2.2.2.2.2) _ _)
    · exact if_no c2 (no fun q => by have := q.2.2.2.1; (clear ho hp hx hy hlx hly c1; lia))
  · exact if_no c1 (no fun q => by have := q.2.2.1; (clear ho hp hx hy hlx hly; lia))
noncomputable def Ext2 (l1 l2 : Addr) (m m' : Mem) : Prop := ∀ a o, a ≠ l1 → a ≠ l2 → m a = some o → m' a = some o
theorem Ext2.refl (l1 l2 : Addr) (m : Mem) : Ext2 l1 l2 m m := fun _ _ _ _ e => e
theorem Ext2.trans {l1 l2 : Addr} {m m' m'' : Mem} (x : Ext2 l1 l2 m m') (y : Ext2 l1 l2 m' m'') : Ext2 l1 l2 m m'' := fun a o h h2 e => y a o h h2 (x a o h h2 e)
theorem bs_endF {p : Int} {x1 y1 : Nat} (hm2 : m l2 = some (.list (vl off g))) (ho : off ≤ 1000) (hp : p = (x1 : Int) - (y1 : Int))
    (hN : ∀ {i j : Nat}, i = ks' a b x1 y1 ks → j = ke' a x1 ke → ¬ (oddD a b = true ∧ Hit a b off g p x1) → ∀ u22 u23, Q .next (bsS s a b dl off l1 l2 i j ks2 ke2 d (some (.int p)) u19 (some (.int x1)) (some (.int y1)) u22 u23 u24 u25 m))
    (hR : oddD a b = true ∧ Hit a b off g p x1 → ∀ loc, P.meth "diff_bisectSplit" [s, .str a, .str b, .int x1, .int y1, dl] (fun r m' => Q (.ret r) ⟨loc, m'⟩) m)
    (hs : ∃ A dd fs, s = .obj A ∧ m A = some (.inst P.cls dd) ∧ m dd = some (.dict fs) ∧ lookF "diff_bisectSplit" fs = none) :
    wpSs P [.ife (.cmp (.var 20) [.Gt] [.var 4]) [.aug 14 .Add (.lit (.int 2))] [.ife (.cmp (.var 21) [.Gt] [.var 5]) [.aug 13 .Add (.lit (.int 2))] [.ife (.var 12) m_diff_bisectB3 []]]] Q
      (bsS s a b dl off l1 l2 ks ke ks2 ke2 d (some (.int p)) u19 (some (.int x1)) (some (.int y1)) u22 u23 u24 u25 m) := by
  refine ssn (s_ife fun K kt kf => ?_)
  walk_at "D"
  by_cases c1 : a.length < x1
  · rw [ decide_eq_true (Int.ofNat_lt.mpr c1) ]
    exact kt _ (hN (if_pos c1).symm (if_pos c1).symm (fun q => absurd (Int.ofNat_le.mp q.2.1) (Nat.not_le_of_lt c1)) _ _)
  · rw [ decide_eq_false fun q => c1 (Int.ofNat_lt.mp q) ]
    refine kf _ (ssn (s_ife fun K' kt' kf' => ?_))
    walk_at "D"
    by_cases c2 : b.length < y1
    · rw [ decide_eq_true (Int.ofNat_lt.mpr c2) ]
      exact kt' _ (hN ((if_neg c1).trans (if_pos c2)).symm (if_neg c1).symm (fun q => absurd q.2.2.1 (by rw [ hp ]; lia)) _ _)
    · rw [ decide_eq_false fun q => c2 (Int.ofNat_lt.mp q) ]
      refine kf' _ (ssn (s_ife fun K2 kt2 kf2 => ?_))
      have hN := hN ((if_neg c1).trans (if_neg c2)).symm (if_neg c1).symm
      suffices go : ∀ t, oddD a b = t → K2 t (bsS s a b dl off l1 l2 ks ke ks2 ke2 d (some (.int p)) u19 (some (.int x1)) (some (.int y1)) u22 u23 u24 u25 m) from go _ rfl
      intro t co
      cases t with
      | false => exact kf2 _ (hN (fun q => by rw [co] at q; cases q.1) _ _)
      | true => exact kt2 _ (bs_hit hm2 ho hp (Nat.le_of_not_lt c1) (Nat.le_of_not_lt c2) (fun q => hN fun z => q z.2) (fun q loc => hR ⟨co, q⟩ loc) hs)
theorem bs_turnF {p : Int} {x y : Nat} {T : Tab} (hT : T.ks = ks ∧ T.ke = ke) (hm : m l1 = some (.list (vl off T.f))) (hm2 : m l2 = some (.list (vl off g))) (hne : l1 ≠ l2) (ho : off ≤ 1000) (ho2 : 2 ≤ off) (hd : d < off) (h1 : -(d : Int) ≤ p) (h2 : p ≤ d) (hx : sma a.length) (hy : sma b.length)
    (e1 : pick d p T.f = x) (e2 : p = (x : Int) - y)
    (hN : ¬ (oddD a b = true ∧ Hit a b off g p (tx a b d p T.f)) → ∀ m' u19 u20 u21 u22 u23, m' l1 = some (.list (vl off (step a b d p T).f)) → m' l2 = some (.list (vl off g)) → Ext2 l1 l2 m m' →
      Q .next (bsS s a b dl off l1 l2 (step a b d p T).ks (step a b d p T).ke ks2 ke2 d (some (.int p)) u19 u20 u21 u22 u23 u24 u25 m'))
    (hR : oddD a b = true ∧ Hit a b off g p (tx a b d p T.f) → ∀ m' loc, Ext2 l1 l2 m m' → P.meth "diff_bisectSplit" [s, .str a, .str b, .int (tx a b d p T.f), .int (tx a b d p T.f - p), dl] (fun r m' => Q (.ret r) ⟨loc, m'⟩) m')
    (hs : ∀ m', Ext2 l1 l2 m m' → ∃ A dd fs, s = .obj A ∧ m' A = some (.inst P.cls dd) ∧ m' dd = some (.dict fs) ∧ lookF "diff_bisectSplit" fs = none) :
    wpSs P m_diff_bisectB4 Q (bsS s a b dl off l1 l2 ks ke ks2 ke2 d (some (.int p)) u19 u20 u21 u22 u23 u24 u25 m) := by
  obtain ⟨rfl, rfl⟩ := hT
  have ht : tx a b d p T.f = ((x + lcp (a.drop x) (b.drop y) : Nat) : Int) := by
    unfold tx; rw [ e1, show ((x : Int) - p).toNat = y by lia, Int.toNat_natCast ]; grind
  have ht2 : tx a b d p T.f - p = ((y + lcp (a.drop x) (b.drop y) : Nat) : Int) := by rw [ ht ]; grind
  unfold m_diff_bisectB4
  refine ssx fun Q1 n1 => ?_
  walk_at "D"
  refine n1 _ (ssx fun Q2 n2 => bs_pick (f := T.f) hm ho ho2 hd h1 h2 (n2 _ (ssx fun Q3 n3 => ?_)))
  walk_at "D"
  rw [ e1, show (x : Int) - p = (y : Int) by grind ]
  refine n3 _ (ssx fun Q4 n4 => bs_w1 hx hy (n4 _ (ssx fun Q5 n5 => ?_)))
  have hp : p = ((x + lcp (a.drop x) (b.drop y) : Nat) : Int) - ((y + lcp (a.drop x) (b.drop y) : Nat) : Int) := by lia
  have hf : up T.f p ((x + lcp (a.drop x) (b.drop y) : Nat) : Int) = (step a b d p T).f := by rw [ ← ht ]; rfl
  have hS : (step a b d p T).ks = ks' a b (x + lcp (a.drop x) (b.drop y)) (y + lcp (a.drop x) (b.drop y)) T.ks ∧ (step a b d p T).ke = ke' a (x + lcp (a.drop x) (b.drop y)) T.ke := by
    unfold step; rw [ ht2, ht, Int.toNat_natCast, Int.toNat_natCast ]; exact ⟨rfl, rfl⟩
  rw [ht2] at hR
  rw [ht] at hN hR
  clear ht ht2 e1
  generalize x + lcp (a.drop x) (b.drop y) = x1 at *
  generalize y + lcp (a.drop x) (b.drop y) = y1 at *
  walk_at "D"
  obtain ⟨i, hi⟩ : ∃ i : Nat, (off : Int) + p = i := ⟨((off : Int) + p).toNat, by grind⟩
  refine ⟨l1, (off : Int) + p, _, i, rfl, rfl, by unfold tiny; grind, hm, ?_, n5 _ ?_⟩
  · rw [vl_len, hi]; exact pyIx_nat (by grind)
  rw [ vl_set hi (by grind), hf ]
  have mx : Ext2 l1 l2 m (upd m l1 (.list (vl off (step a b d p T).f))) := fun a o h _ e => by rw [ upn _ _ h ]; exact e
  exact bs_endF (by rw [ upn _ _ (Ne.symm hne) ]; exact hm2) ho hp (fun {i j} ei ej c u22 u23 => by
    obtain rfl := ei.trans hS.1.symm
    obtain rfl := ej.trans hS.2.symm
    exact hN c _ _ _ _ _ _ (ups _ _ _) (by rw [ upn _ _ (Ne.symm hne) ]; exact hm2) mx) (fun c loc => hR c _ loc mx) (hs _ mx)
end
theorem pyGet_rev {α : Type} (xs : List α) {x : Nat} (h : x < xs.reverse.length) : pyGet xs (-(x : Int) - 1) = some xs.reverse[x] := by
  have h' : x < xs.length := by rw [List.length_reverse] at h; exact h
  unfold pyGet
  have : seqIndex? (-(x : Int) - 1) xs.length = some (xs.length - 1 - x) := by
    unfold seqIndex?
    have e : (if -(x : Int) - 1 < 0 then -(x : Int) - 1 + xs.length else -(x : Int) - 1) = ((xs.length - 1 - x : Nat) : Int) := by rw [if_pos (by grind)]; grind
    simp only [e]
    rw [if_pos (by simp; (clear h e; omega))]; simp
  rw [this, List.getElem_reverse]
  exact List.getElem?_eq_getElem (by grind)
section
variable {P : PC} {Q : Fl → St → Prop} {s dl : V} {a b : Tx} {off : Nat} {l1 l2 : Addr} {ks ke ks2 ke2 : Nat} {d : Nat} {u18 u19 u20 u21 u22 u23 u24 u25 : Option V} {m : Mem} {f g : Int → Int}
theorem bs_w2 {p : Int} {x y : Nat} (hx : sma a.length) (hy : sma b.length) (h : Q .next (bsS s a b dl off l1 l2 ks ke ks2 ke2 d u18 u19 u20 u21 u22 (some (.int ((x + lcp (a.reverse.drop x) (b.reverse.drop y) : Nat) : Int))) (some (.int p)) (some (.int ((y + lcp (a.reverse.drop x) (b.reverse.drop y) : Nat) : Int))) m)) :
    wpS P (.whl (.band [.cmp (.var 23) [.Lt] [.var 4], .cmp (.var 25) [.Lt] [.var 5], .cmp (.idx (.var 1) (.bin .Sub (.neg (.var 23)) (.lit (.int 1)))) [.Eq] [.idx (.var 2) (.bin .Sub (.neg (.var 25)) (.lit (.int 1)))]]) m_diff_bisectB5) Q (bsS s a b dl off l1 l2 ks ke ks2 ke2 d u18 u19 u20 u21 u22 (some (.int x)) (some (.int p)) (some (.int y)) m) := by
  refine ⟨IW (lcp (a.reverse.drop x) (b.reverse.drop y)) fun t => bsS s a b dl off l1 l2 ks ke ks2 ke2 d u18 u19 u20 u21 u22 (some (.int ((x + t : Nat) : Int))) (some (.int p)) (some (.int ((y + t : Nat) : Int))) m, ⟨_, 0, Nat.zero_le _, rfl, rfl⟩, ?_⟩
  rintro n σ ⟨t, ht, rfl, rfl⟩
  have ea : a.reverse.length = a.length := List.length_reverse
  have eb : b.reverse.length = b.length := List.length_reverse
  have stop := (lcp_snake a.reverse b.reverse x y).stop
  have iff := lcp_iff (t + 1) (a.reverse.drop x) (b.reverse.drop y)
  have ga := fun h => pyGet_rev a (x := x + t) h
  have gb := fun h => pyGet_rev b (x := y + t) h
  have hl := lcp_le (a.reverse.drop x) (b.reverse.drop y)
  rw [List.length_drop, List.length_drop, ea, eb] at hl
  unfold m_diff_bisectB5
  walk_at "D"
  have out : ¬ t < lcp (a.reverse.drop x) (b.reverse.drop y) → Q .next (bsS s a b dl off l1 l2 ks ke ks2 ke2 d u18 u19 u20 u21 u22 (some (.int ((x + t : Nat) : Int))) (some (.int p)) (some (.int ((y + t : Nat) : Int))) m) := fun q => by
    have : t = lcp (a.reverse.drop x) (b.reverse.drop y) := Nat.le_antisymm ht (Nat.le_of_not_lt q)
    rw [this]; exact h
  by_cases c1 : x + t < a.length
  · refine if_yes (Int.ofNat_lt.mpr c1) ?_
    by_cases c2 : y + t < b.length
    · have c1' : x + t < a.reverse.length := by rw [ea]; exact c1
      have c2' : y + t < b.reverse.length := by rw [eb]; exact c2
      refine if_yes (Int.ofNat_lt.mpr c2) ⟨by unfold sma at hx; unfold tiny; (clear ht hl out; lia), _, ga c1', by unfold sma at hy; unfold tiny; (clear ht hl out; lia), _, gb c2', ?_⟩
      have key : t < lcp (a.reverse.drop x) (b.reverse.drop y) ↔ a.reverse[x + t] = b.reverse[y + t] := by
        constructor
        · intro q
          have e := (iff (Nat.le_trans q (lcp_le _ _).1) (Nat.le_trans q (lcp_le _ _).2)).mp q
          have := congrArg (fun l => l[t]?) e
          simp only [List.getElem?_take, List.getElem?_drop] at this
          rw [if_pos (Nat.lt_succ_self t), if_pos (Nat.lt_succ_self t), List.getElem?_eq_getElem c1', List.getElem?_eq_getElem c2'] at this
          exact Option.some.inj this
        · intro e
          refine Nat.lt_of_not_le fun q => ?_
          have e2 : t = lcp (a.reverse.drop x) (b.reverse.drop y) := Nat.le_antisymm ht q
          subst e2
          exact stop c1' c2' e
      by_cases c3 : t < lcp (a.reverse.drop x) (b.reverse.drop y)
      · refine if_yes (by rw [key.mp c3]) ?_
        exact ⟨_, Nat.sub_lt_sub_left c3 (Nat.lt_succ_self t), t + 1, c3, rfl, rfl⟩
      · exact if_no (fun q => c3 (key.mpr (by simpa using q))) (out c3)
    · exact if_no (fun q => c2 (Int.ofNat_lt.mp q)) (out fun q => c2 (Nat.add_lt_of_lt_sub' (Nat.lt_of_lt_of_le q hl.2)))
  · exact if_no (fun q => c1 (Int.ofNat_lt.mp q)) (out fun q => c1 (Nat.add_lt_of_lt_sub' (Nat.lt_of_lt_of_le q hl.1)))
theorem bs_pick2 {p : Int} (hm : m l2 = some (.list (vl off f))) (ho : off ≤ 1000) (ho2 : 2 ≤ off) (hd : d < off) (h1 : -(d : Int) ≤ p) (h2 : p ≤ d)
    (h : Q .next (bsS s a b dl off l1 l2 ks ke ks2 ke2 d u18 u19 u20 u21 (some (.int ((off : Int) + p))) (some (.int (pick d p f))) (some (.int p)) u25 m)) :
    wpS P (.ife (.bor [.cmp (.var 24) [.Eq] [.neg (.var 17)], .band [.cmp (.var 24) [.NotEq] [.var 17], .cmp (.idx (.var 10) (.bin .Sub (.var 22) (.lit (.int 1)))) [.Lt] [.idx (.var 10) (.bin .Add (.var 22) (.lit (.int 1)))]]]) [
      .assign [.var 23] (.idx (.var 10) (.bin .Add (.var 22) (.lit (.int 1))))] [
      .assign [.var 23] (.bin .Add (.idx (.var 10) (.bin .Sub (.var 22) (.lit (.int 1)))) (.lit (.int 1)))]) Q
      (bsS s a b dl off l1 l2 ks ke ks2 ke2 d u18 u19 u20 u21 (some (.int ((off : Int) + p))) u23 (some (.int p)) u25 m) := by
  refine s_ife fun K kt kf => ?_
  have yes : ∀ (_ : pick d p f = f (p + 1)) (_ : p + 1 < off), K true (bsS s a b dl off l1 l2 ks ke ks2 ke2 d u18 u19 u20 u21 (some (.int ((off : Int) + p))) u23 (some (.int p)) u25 m) := fun e q => kt _ (by
    walk_at "D"
    rw [e] at h
    exact ix_tab hm (k := p + 1) (by grind) (by grind) q ho h)
  have no : ∀ (_ : pick d p f = f (p - 1) + 1) (_ : -(off : Int) ≤ p - 1), K false (bsS s a b dl off l1 l2 ks ke ks2 ke2 d u18 u19 u20 u21 (some (.int ((off : Int) + p))) u23 (some (.int p)) u25 m) := fun e q => kf _ (by
    walk_at "D"
    rw [e] at h
    exact ix_tab hm (k := p - 1) (by grind) q (by lia) ho h)
  clear h kt kf
  walk_at "D"
  by_cases c1 : p = -(d : Int)
  · exact or_yes c1 (yes (if_pos (.inl c1)) (by lia))
  · refine or_no c1 ?_
    by_cases c2 : p = (d : Int)
    · exact if_not_yes c2 (no (if_neg (by rintro (q | q); exact c1 q; exact q.1 c2)) (by (clear ho hd h2 c1; lia)))
    · refine if_not_no c2 (ix_tab hm (k := p - 1) (by grind) (by (clear ho ho2 h2 c1 c2; lia)) (by grind) ho (ix_tab hm (k := p + 1) (by grind) (by (clear ho ho2 h2 c1 c2; lia)) (by lia) ho ?_))
      walk_at "D"
      by_cases c3 : f (p - 1) < f (p + 1)
      · rw [decide_eq_true c3]; exact yes (if_pos (.inr ⟨c2, c3⟩)) (by grind)
      · rw [decide_eq_false c3]; exact no (if_neg (by rintro (q | q); exact c1 q; exact c3 q.2)) (by grind)
theorem bs_hit2 {p : Int} {x y : Nat} (hm : m l1 = some (.list (vl off g))) (ho : off ≤ 1000) (hp : p = (x : Int) - y) (hx : x ≤ a.length) (hy : y ≤ b.length)
    (hN : ¬ Hit a.reverse b.reverse off g p x → ∀ u19 u20 u21 u23, Q .next (bsS s a b dl off l1 l2 ks ke ks2 ke2 d u18 u19 u20 u21 u22 u23 (some (.int p)) (some (.int y)) m))
    (hR : Hit a.reverse b.reverse off g p x → ∀ loc, P.meth "diff_bisectSplit" [s, .str a, .str b, .int (g ((a.length : Int) - b.length - p)), .int (g ((a.length : Int) - b.length - p) - ((a.length : Int) - b.length - p)), dl] (fun r m' => Q (.ret r) ⟨loc, m'⟩) m)
    (hs : ∃ A dd fs, s = .obj A ∧ m A = some (.inst P.cls dd) ∧ m dd = some (.dict fs) ∧ lookF "diff_bisectSplit" fs = none) :
    wpSs P m_diff_bisectB7 Q (bsS s a b dl off l1 l2 ks ke ks2 ke2 d u18 u19 u20 u21 u22 (some (.int x)) (some (.int p)) (some (.int y)) m) := by
  unfold Hit at hN hR
  rw [List.length_reverse, List.length_reverse] at hN hR
  have hlx : (x : Int) ≤ a.length := Int.ofNat_le.mpr hx
  have hly : (x : Int) - p ≤ b.length := by rw [ hp ]; lia
  unfold m_diff_bisectB7
  refine ssx fun Q1 n1 => ?_
  walk_at "D"
  refine n1 _ (ssn (s_ife fun K kt kf => ?_))
  walk_at "D"
  by_cases c1 : 0 ≤ (off : Int) + ((a.length : Int) - b.length) - p
  · refine if_yes c1 ?_
    by_cases c2 : (off : Int) + ((a.length : Int) - b.length) - p < 2 * off
    · refine if_yes c2 (ix_tab hm (k := (a.length : Int) - b.length - p) (by grind) (by (clear ho hp hx hy hlx hly c2; lia)) (by (clear ho hp hx hy hlx hly c1; lia)) ho ?_)
      walk_at "D"
      by_cases c3 : g ((a.length : Int) - b.length - p) = -1
      · rw [ decide_eq_true c3 ]
        exact kf _ (hN (fun q => q.2.2.2.2.1 c3) _ _ _ _)
      · rw [ decide_eq_false c3 ]
        refine kt _ ?_
        unfold m_diff_bisectB6
        refine ssx fun Q2 n2 => ?_
        walk_at "D"
        refine ix_tab hm (k := (a.length : Int) - b.length - p) (by grind) (by grind) (by grind) ho ?_
        refine n2 _ (ssx fun Q3 n3 => ?_)
        walk_at "D"
        rw [ show (off : Int) + g ((a.length : Int) - b.length - p) - ((off : Int) + ((a.length : Int) - b.length) - p) = g ((a.length : Int) - b.length - p) - ((a.length : Int) - b.length - p) by grind ]
        refine n3 _ (ssx fun Q4 n4 => ?_)
        walk_at "D"
        refine n4 _ (ssn (s_ife fun K' kt' kf' => ?_))
        walk_at "D"
        by_cases c4 : (a.length : Int) - x ≤ g ((a.length : Int) - b.length - p)
        · rw [ decide_eq_true c4 ]
          refine kt' _ ?_
          walk_at "D"
          exact ⟨hs, hR ⟨hlx, hly, by grind, by grind, c3, by lia⟩ _⟩
        · rw [ decide_eq_false c4 ]
          exact kf' _ (hN (fun q => by have := q.2.2.2.2.2; omega) _ _ _ _)
    · exact if_no c2 (kf _ (hN (fun q => by have := q.2.2.2.1; (clear ho hp hx hy hlx hly c1 this; omega)) _ _ _ _))
  · exact if_no c1 (kf _ (hN (fun q => by have := q.2.2.1; (clear ho hp hx hy hlx hly this; omega)) _ _ _ _))
theorem bs_endB {p : Int} {x1 y1 : Nat} (hm2 : m l1 = some (.list (vl off g))) (ho : off ≤ 1000) (hp : p = (x1 : Int) - (y1 : Int))
    (hN : ∀ {i j : Nat}, i = ks' a.reverse b.reverse x1 y1 ks2 → j = ke' a.reverse x1 ke2 → ¬ ((!oddD a b) = true ∧ Hit a.reverse b.reverse off g p x1) → ∀ u19 u20 u21 u22 u23 u25, Q .next (bsS s a b dl off l1 l2 ks ke i j d u18 u19 u20 u21 u22 u23 (some (.int p)) u25 m))
    (hR : (!oddD a b) = true ∧ Hit a.reverse b.reverse off g p x1 → ∀ loc, P.meth "diff_bisectSplit" [s, .str a, .str b, .int (g ((a.length : Int) - b.length - p)), .int (g ((a.length : Int) - b.length - p) - ((a.length : Int) - b.length - p)), dl] (fun r m' => Q (.ret r) ⟨loc, m'⟩) m)
    (hs : ∃ A dd fs, s = .obj A ∧ m A = some (.inst P.cls dd) ∧ m dd = some (.dict fs) ∧ lookF "diff_bisectSplit" fs = none) :
    wpSs P [.ife (.cmp (.var 23) [.Gt] [.var 4]) [.aug 16 .Add (.lit (.int 2))] [.ife (.cmp (.var 25) [.Gt] [.var 5]) [.aug 15 .Add (.lit (.int 2))] [.ife (.not (.var 12)) m_diff_bisectB7 []]]] Q
      (bsS s a b dl off l1 l2 ks ke ks2 ke2 d u18 u19 u20 u21 u22 (some (.int x1)) (some (.int p)) (some (.int y1)) m) := by
  have hh : Hit a.reverse b.reverse off g p x1 → x1 ≤ a.length ∧ y1 ≤ b.length := fun q => by
    have h1 := q.1; have h2 := q.2.1
    rw [List.length_reverse] at h1 h2
    lia
  refine ssn (s_ife fun K kt kf => ?_)
  walk_at "D"
  by_cases c1 : a.length < x1
  · rw [ decide_eq_true (Int.ofNat_lt.mpr c1) ]
    have r1 : a.reverse.length < x1 := by rw [ List.length_reverse ]; exact c1
    exact kt _ (hN (if_pos r1).symm (if_pos r1).symm (fun q => absurd (hh q.2).1 (Nat.not_le_of_lt c1)) _ _ _ _ _ _)
  · rw [ decide_eq_false fun q => c1 (Int.ofNat_lt.mp q) ]
    have r1 : ¬ a.reverse.length < x1 := by rw [ List.length_reverse ]; exact c1
    refine kf _ (ssn (s_ife fun K' kt' kf' => ?_))
    walk_at "D"
    by_cases c2 : b.length < y1
    · rw [ decide_eq_true (Int.ofNat_lt.mpr c2) ]
      have r2 : b.reverse.length < y1 := by rw [ List.length_reverse ]; exact c2
      exact kt' _ (hN ((if_neg r1).trans (if_pos r2)).symm (if_neg r1).symm (fun q => absurd (hh q.2).2 (Nat.not_le_of_lt c2)) _ _ _ _ _ _)
    · rw [ decide_eq_false fun q => c2 (Int.ofNat_lt.mp q) ]
      have r2 : ¬ b.reverse.length < y1 := by rw [ List.length_reverse ]; exact c2
      refine kf' _ (ssn (s_ife fun K2 kt2 kf2 => ?_))
      walk_at "D"
      have hN := hN ((if_neg r1).trans (if_neg r2)).symm (if_neg r1).symm
      suffices go : ∀ t, oddD a b = t → K2 (!t) (bsS s a b dl off l1 l2 ks ke ks2 ke2 d u18 u19 u20 u21 u22 (some (.int x1)) (some (.int p)) (some (.int y1)) m) from go _ rfl
      intro t co
      cases t with
      | true => exact kf2 _ (hN (fun q => by rw [co] at q; cases q.1) _ _ _ _ _ _)
      | false => exact kt2 _ (bs_hit2 hm2 ho hp (Nat.le_of_not_lt c1) (Nat.le_of_not_lt c2) (fun q u19 u20 u21 u23 => hN (fun z => q z.2) _ _ _ _ _ _) (fun q loc => hR ⟨by rw [ co ]; rfl, q⟩ loc) hs)
theorem bs_turnB {p : Int} {x y : Nat} {T : Tab} (hT : T.ks = ks2 ∧ T.ke = ke2) (hm : m l2 = some (.list (vl off T.f))) (hm2 : m l1 = some (.list (vl off g))) (hne : l1 ≠ l2) (ho : off ≤ 1000) (ho2 : 2 ≤ off) (hd : d < off) (h1 : -(d : Int) ≤ p) (h2 : p ≤ d) (hx : sma a.length) (hy : sma b.length)
    (e1 : pick d p T.f = x) (e2 : p = (x : Int) - y)
    (hN : ¬ ((!oddD a b) = true ∧ Hit a.reverse b.reverse off g p (tx a.reverse b.reverse d p T.f)) → ∀ m' u19 u20 u21 u22 u23 u25, m' l2 = some (.list (vl off (step a.reverse b.reverse d p T).f)) → m' l1 = some (.list (vl off g)) → Ext2 l1 l2 m m' →
      Q .next (bsS s a b dl off l1 l2 ks ke (step a.reverse b.reverse d p T).ks (step a.reverse b.reverse d p T).ke d u18 u19 u20 u21 u22 u23 (some (.int p)) u25 m'))
    (hR : (!oddD a b) = true ∧ Hit a.reverse b.reverse off g p (tx a.reverse b.reverse d p T.f) → ∀ m' loc, Ext2 l1 l2 m m' → P.meth "diff_bisectSplit" [s, .str a, .str b, .int (g ((a.length : Int) - b.length - p)), .int (g ((a.length : Int) - b.length - p) - ((a.length : Int) - b.length - p)), dl] (fun r m' => Q (.ret r) ⟨loc, m'⟩) m')
    (hs : ∀ m', Ext2 l1 l2 m m' → ∃ A dd fs, s = .obj A ∧ m' A = some (.inst P.cls dd) ∧ m' dd = some (.dict fs) ∧ lookF "diff_bisectSplit" fs = none) :
    wpSs P m_diff_bisectB8 Q (bsS s a b dl off l1 l2 ks ke ks2 ke2 d u18 u19 u20 u21 u22 u23 (some (.int p)) u25 m) := by
  obtain ⟨rfl, rfl⟩ := hT
  have ht : tx a.reverse b.reverse d p T.f = ((x + lcp (a.reverse.drop x) (b.reverse.drop y) : Nat) : Int) := by
    unfold tx; rw [ e1, show ((x : Int) - p).toNat = y by lia, Int.toNat_natCast ]; grind
  have ht2 : tx a.reverse b.reverse d p T.f - p = ((y + lcp (a.reverse.drop x) (b.reverse.drop y) : Nat) : Int) := by rw [ ht ]; grind
  unfold m_diff_bisectB8
  refine ssx fun Q1 n1 => ?_
  walk_at "D"
  refine n1 _ (ssx fun Q2 n2 => bs_pick2 (f := T.f) hm ho ho2 hd h1 h2 (n2 _ (ssx fun Q3 n3 => ?_)))
  walk_at "D"
  rw [ e1, show (x : Int) - p = (y : Int) by grind ]
  refine n3 _ (ssx fun Q4 n4 => bs_w2 hx hy (n4 _ (ssx fun Q5 n5 => ?_)))
  have hp : p = ((x + lcp (a.reverse.drop x) (b.reverse.drop y) : Nat) : Int) - ((y + lcp (a.reverse.drop x) (b.reverse.drop y) : Nat) : Int) := by lia
  have hf : up T.f p ((x + lcp (a.reverse.drop x) (b.reverse.drop y) : Nat) : Int) = (step a.reverse b.reverse d p T).f := by rw [ ← ht ]; rfl
  have hS : (step a.reverse b.reverse d p T).ks = ks' a.reverse b.reverse (x + lcp (a.reverse.drop x) (b.reverse.drop y)) (y + lcp (a.reverse.drop x) (b.reverse.drop y)) T.ks ∧ (step a.reverse b.reverse d p T).ke = ke' a.reverse (x + lcp (a.reverse.drop x) (b.reverse.drop y)) T.ke := by
    unfold step; rw [ ht2, ht, Int.toNat_natCast, Int.toNat_natCast ]; exact ⟨rfl, rfl⟩
  rw [ht] at hN hR
  clear ht ht2 e1
  generalize x + lcp (a.reverse.drop x) (b.reverse.drop y) = x1 at *
  generalize y + lcp (a.reverse.drop x) (b.reverse.drop y) = y1 at *
  walk_at "D"
  obtain ⟨i, hi⟩ : ∃ i : Nat, (off : Int) + p = i := ⟨((off : Int) + p).toNat, by grind⟩
  refine ⟨l2, (off : Int) + p, _, i, rfl, rfl, by unfold tiny; grind, hm, ?_, n5 _ ?_⟩
  · rw [vl_len, hi]; exact pyIx_nat (by grind)
  rw [ vl_set hi (by grind), hf ]
  have mx : Ext2 l1 l2 m (upd m l2 (.list (vl off (step a.reverse b.reverse d p T).f))) := fun a o _ h e => by rw [ upn _ _ h ]; exact e
  exact bs_endB (by rw [ upn _ _ hne ]; exact hm2) ho hp (fun {i j} ei ej c u19 u20 u21 u22 u23 u25 => by
    obtain rfl := ei.trans hS.1.symm
    obtain rfl := ej.trans hS.2.symm
    exact hN c _ _ _ _ _ _ _ (ups _ _ _) (by rw [ upn _ _ hne ]; exact hm2) mx) (fun c loc => hR c _ loc mx) (hs _ mx)
end
section
variable {P : PC} {Q : Fl → St → Prop} {s dl : V} {a b : Tx} {off : Nat} {l1 l2 : Addr} {d : Nat} {f g : Int → Int}
theorem sweep_hit {look : Bool} {n : Nat} {p : Int} {T : Tab} (c : look = true ∧ Hit a b off g p (tx a b d p T.f)) : sweep a b off d look g (n + 1) p T = (some p, step a b d p T) := if_pos c
theorem sweep_on {look : Bool} {n : Nat} {p : Int} {T : Tab} (c : ¬ (look = true ∧ Hit a b off g p (tx a b d p T.f))) : sweep a b off d look g (n + 1) p T = sweep a b off d look g n (p + 2) (step a b d p T) := if_neg c
noncomputable def SplitOk (P : PC) (s : V) (l1 l2 : Addr) (m : Mem) : Prop := ∀ m', Ext2 l1 l2 m m' → ∃ A dd fs, s = .obj A ∧ m' A = some (.inst P.cls dd) ∧ m' dd = some (.dict fs) ∧ lookF "diff_bisectSplit" fs = none
theorem SplitOk.ext {l1 l2 : Addr} {m m' : Mem} (h : SplitOk P s l1 l2 m) (x : Ext2 l1 l2 m m') : SplitOk P s l1 l2 m' := fun m'' y => h m'' (x.trans y)
theorem bs_loopF {f0 : Int → Int} {ks0 ke0 ks2 ke2 : Nat} (Pf : Pre a b d f0 ks0 ke0) (hD : 2 * d ≤ dist a b + 1) (hne : l1 ≠ l2) (ho : off ≤ 1000) (ho2 : 2 ≤ off) (hd : d < off) (hx : sma a.length) (hy : sma b.length) :
    ∀ (n : Nat) (p : Int) (T : Tab) (u18 u19 u20 u21 u22 u23 u24 u25 : Option V) (m : Mem), Sw a b d f0 ks0 ke0 p T.f T.ks T.ke → (0 < n → p + 2 * n ≤ (d : Int) - ke0 + 2) →
    m l1 = some (.list (vl off T.f)) → m l2 = some (.list (vl off g)) → SplitOk P s l1 l2 m →
    (∀ T' m' u18 u19 u20 u21 u22 u23 u24 u25, sweep a b off d (oddD a b) g n p T = (none, T') → m' l1 = some (.list (vl off T'.f)) → m' l2 = some (.list (vl off g)) → Ext2 l1 l2 m m' → Q .next (bsS s a b dl off l1 l2 T'.ks T'.ke ks2 ke2 d u18 u19 u20 u21 u22 u23 u24 u25 m')) →
    (∀ q T' m' loc, sweep a b off d (oddD a b) g n p T = (some q, T') → Ext2 l1 l2 m m' → P.meth "diff_bisectSplit" [s, .str a, .str b, .int (T'.f q), .int (T'.f q - q), dl] (fun r m' => Q (.ret r) ⟨loc, m'⟩) m') →
    wpLoop (wpTg P (.var 18)) (wpSs P m_diff_bisectB4) (fun _ => True) Q (rngFrom p 2 n) (bsS s a b dl off l1 l2 T.ks T.ke ks2 ke2 d u18 u19 u20 u21 u22 u23 u24 u25 m)
  | 0, p, T, u18, u19, u20, u21, u22, u23, u24, u25, m, S, hn, hm, hm2, hs, hN, hR => ⟨trivial, hN T m _ _ _ _ _ _ _ _ rfl hm hm2 (.refl _ _ _)⟩
  | n + 1, p, T, u18, u19, u20, u21, u22, u23, u24, u25, m, S, hn, hm, hm2, hs, hN, hR => by
    have hp : p ≤ (d : Int) - ke0 := by have := hn (Nat.succ_pos n); (clear hD ho ho2 hd hn; lia)
    refine bc fun z9 => ?_
    obtain ⟨x, y, x1, y1, e1, e2, e3, e4, e5, e6, S'⟩ := sw_step Pf hD S hp
    refine z9 ?_
    have hlo := S.lo
    refine ⟨trivial, ?_⟩
    refine bs_turnF (P := P) (T := T) ⟨rfl, rfl⟩ hm hm2 hne ho ho2 hd (by grind) (by (clear hD ho ho2 hd hn e1 e3 e5 e6 hlo; lia)) hx hy e1 e2 ?_ ?_ hs
    · intro c m' v19 v20 v21 v22 v23 g1 g2 gx
      refine bs_loopF Pf hD hne ho ho2 hd hx hy n (p + 2) (step a b d p T) _ _ _ _ _ _ _ _ m' S' (fun q => by have := hn (Nat.succ_pos n); (clear hD ho ho2 hd hn hp e1 e2 e3 e4 e5 e6 hlo c q; lia)) g1 g2 (hs.ext gx) ?_ ?_
      · intro T' m'' w18 w19 w20 w21 w22 w23 w24 w25 e h1 h2 hx2
        exact hN T' m'' _ _ _ _ _ _ _ _ ((sweep_on c).trans e) h1 h2 (gx.trans hx2)
      · intro q T' m'' loc e hx2
        exact hR q T' m'' loc ((sweep_on c).trans e) (gx.trans hx2)
    · intro c m' loc gx
      have := hR p (step a b d p T) m' loc (sweep_hit c) gx
      rw [step_f] at this
      exact this
theorem bs_loopB {g0 : Int → Int} {ks ke ks0 ke0 : Nat} (Pb : Pre a.reverse b.reverse d g0 ks0 ke0) (hD : 2 * d ≤ dist a b + 1) (hne : l1 ≠ l2) (ho : off ≤ 1000) (ho2 : 2 ≤ off) (hd : d < off) (hx : sma a.length) (hy : sma b.length) :
    ∀ (n : Nat) (p : Int) (T : Tab) (u18 u19 u20 u21 u22 u23 u24 u25 : Option V) (m : Mem), Sw a.reverse b.reverse d g0 ks0 ke0 p T.f T.ks T.ke → (0 < n → p + 2 * n ≤ (d : Int) - ke0 + 2) →
    m l2 = some (.list (vl off T.f)) → m l1 = some (.list (vl off f)) → SplitOk P s l1 l2 m →
    (∀ T' m' u18 u19 u20 u21 u22 u23 u24 u25, sweep a.reverse b.reverse off d (!oddD a b) f n p T = (none, T') → m' l2 = some (.list (vl off T'.f)) → m' l1 = some (.list (vl off f)) → Ext2 l1 l2 m m' → Q .next (bsS s a b dl off l1 l2 ks ke T'.ks T'.ke d u18 u19 u20 u21 u22 u23 u24 u25 m')) →
    (∀ q T' m' loc, sweep a.reverse b.reverse off d (!oddD a b) f n p T = (some q, T') → Ext2 l1 l2 m m' → P.meth "diff_bisectSplit" [s, .str a, .str b, .int (f ((a.length : Int) - b.length - q)), .int (f ((a.length : Int) - b.length - q) - ((a.length : Int) - b.length - q)), dl] (fun r m' => Q (.ret r) ⟨loc, m'⟩) m') →
    wpLoop (wpTg P (.var 24)) (wpSs P m_diff_bisectB8) (fun _ => True) Q (rngFrom p 2 n) (bsS s a b dl off l1 l2 ks ke T.ks T.ke d u18 u19 u20 u21 u22 u23 u24 u25 m)
  | 0, p, T, u18, u19, u20, u21, u22, u23, u24, u25, m, S, hn, hm, hm2, hs, hN, hR => ⟨trivial, hN T m _ _ _ _ _ _ _ _ rfl hm hm2 (.refl _ _ _)⟩
  | n + 1, p, T, u18, u19, u20, u21, u22, u23, u24, u25, m, S, hn, hm, hm2, hs, hN, hR => by
    have hp : p ≤ (d : Int) - ke0 := by have := hn (Nat.succ_pos n); (clear hD ho ho2 hd hn; lia)
    refine bc fun z9 => ?_
    obtain ⟨x, y, x1, y1, e1, e2, e3, e4, e5, e6, S'⟩ := sw_step Pb (by rw [dist_rev]; exact hD) S hp
    refine z9 ?_
    have hlo := S.lo
    refine ⟨trivial, ?_⟩
    refine bs_turnB (P := P) (T := T) ⟨rfl, rfl⟩ hm hm2 hne ho ho2 hd (by grind) (by (clear hD ho ho2 hd hn e1 e3 e5 e6 hlo; lia)) hx hy e1 e2 ?_ ?_ hs
    · intro c m' v19 v20 v21 v22 v23 v25 g1 g2 gx
      refine bs_loopB Pb hD hne ho ho2 hd hx hy n (p + 2) (step a.reverse b.reverse d p T) _ _ _ _ _ _ _ _ m' S' (fun q => by have := hn (Nat.succ_pos n); (clear hD ho ho2 hd hn hp e1 e2 e3 e4 e5 e6 hlo c q; lia)) g1 g2 (hs.ext gx) ?_ ?_
      · intro T' m'' w18 w19 w20 w21 w22 w23 w24 w25 e h1 h2 hx2
        exact hN T' m'' _ _ _ _ _ _ _ _ ((sweep_on c).trans e) h1 h2 (gx.trans hx2)
      · intro q T' m'' loc e hx2
        exact hR q T' m'' loc ((sweep_on c).trans e) (gx.trans hx2)
    · intro c m' loc gx
      exact hR p (step a.reverse b.reverse d p T) m' loc (sweep_hit c) gx
theorem it_rng3 {m : Mem} {a b c : Int} {K : List V → (Mem → Prop) → Prop} (ha : tiny a) (hb : tiny b) (hc : tiny c) (h0 : 0 < c) (h : K (rngL a b c) fun _ => True) : wpItems m (.rng a b c) K := ⟨ha, hb, hc, h0, h⟩
theorem pre_bounds {d : Nat} {f : Int → Int} {ks ke : Nat} (Pf : Pre a b d f ks ke) (hd : d ≤ dist a b) : ks ≤ 2 * d ∧ ke ≤ 2 * d := by have := Pf.some hd; grind
noncomputable abbrev bsU (s : V) (a b : Tx) (dl : V) (off : Nat) (l1 l2 : Addr) (S T : Tab) (u17 u18 u19 u20 u21 u22 u23 u24 u25 : Option V) (m : Mem) : St :=
  ⟨[some s, some (.str a), some (.str b), some dl, some (.int a.length), some (.int b.length), some (.int off), some (.int off), some (.int (2 * off)), some (.obj l1), some (.obj l2), some (.int ((a.length : Int) - b.length)), some (.bool (oddD a b)),
      some (.int S.ks), some (.int S.ke), some (.int T.ks), some (.int T.ke), u17, u18, u19, u20, u21, u22, u23, u24, u25], m⟩
theorem bs_stages (hD2 : 2 ≤ dist a b) (hne : l1 ≠ l2) (ho : off ≤ 1000) (ho2 : 2 ≤ off) (hx : sma a.length) (hy : sma b.length) :
    ∀ (n d : Nat) (S T : Tab) (u17 u18 u19 u20 u21 u22 u23 u24 u25 : Option V) (m : Mem), d + n = off → Pre a b d S.f S.ks S.ke → Pre a.reverse b.reverse d T.f T.ks T.ke → 2 * d ≤ dist a b + 1 →
    m l1 = some (.list (vl off S.f)) → m l2 = some (.list (vl off T.f)) → SplitOk P s l1 l2 m →
    (∀ S' T' m' u17 u18 u19 u20 u21 u22 u23 u24 u25, bisG a b off n d S T = none → Ext2 l1 l2 m m' → Q .next (bsU s a b dl off l1 l2 S' T' u17 u18 u19 u20 u21 u22 u23 u24 u25 m')) →
    (∀ u v m' (K : V → Mem → Prop), bisG a b off n d S T = some (u, v) → Ext2 l1 l2 m m' → (∀ r m', (∀ loc, Q (.ret r) ⟨loc, m'⟩) → K r m') → P.meth "diff_bisectSplit" [s, .str a, .str b, .int u, .int v, dl] K m') →
    wpLoop (wpTg P (.var 17)) (wpSs P m_diff_bisectB9) (fun _ => True) Q (rngFrom d 1 n) (bsU s a b dl off l1 l2 S T u17 u18 u19 u20 u21 u22 u23 u24 u25 m)
  | 0, d, S, T, u17, u18, u19, u20, u21, u22, u23, u24, u25, m, hn, Pf, Pb, hD, hm, hm2, hs, hN, hR => ⟨trivial, hN S T m _ _ _ _ _ _ _ _ _ rfl (.refl _ _ _)⟩
  | n + 1, d, S, T, u17, u18, u19, u20, u21, u22, u23, u24, u25, m, hn, Pf, Pb, hD, hm, hm2, hs, hN, hR => by
    have hd : d < off := by grind
    have hdD : d ≤ dist a b := by (clear ho ho2 hd; lia)
    refine ⟨trivial, ?_⟩
    unfold m_diff_bisectB9
    show wpSs P [_, _] _ (bsS s a b dl off l1 l2 S.ks S.ke T.ks T.ke d u18 u19 u20 u21 u22 u23 u24 u25 m)
    refine ss_ret fun Q1 n1 r1 => ?_
    walk_at "D"
    obtain ⟨b1, b2⟩ := pre_bounds Pf hdD
    obtain ⟨b3, b4⟩ := pre_bounds Pb (by rw [dist_rev]; exact hdD)
    have t2 : tiny 2 := by walk_at "t"
    have rg : ∀ (k e : Nat), k ≤ 2 * d → e ≤ 2 * d → tiny (-(d : Int) + k) ∧ tiny ((d : Int) + 1 - e) := fun k e h1 h2 => by walk_at "t"
    have rl : ∀ (k e : Nat), rngL (-(d : Int) + k) ((d : Int) + 1 - e) 2 = rngFrom (-(d : Int) + k) 2 (cnt2 (-(d : Int) + k) ((d : Int) - e)) := fun k e => by
      unfold rngL cnt2; rw [show (d : Int) + 1 - e = (d : Int) - e + 1 by grind]
    have hF := stageF_ok (off := off) Pf Pb hD hD2 hd
    have en : ∀ {x : Tx} {y : Tx} {F : Tab}, Pre x y d F.f F.ks F.ke → d ≤ dist x y → -(d : Int) + F.ks + 2 * (cnt2 (-(d : Int) + F.ks) ((d : Int) - F.ke) : Nat) ≤ (d : Int) - F.ke + 2 := fun {x y F} PP h => by
      have := PP.ev
      have := cnt2_end (PP.some h) (by (clear hD2 ho ho2 hD hd hdD b1 b2 b3 b4 h; lia)); (clear hD2 ho ho2 hD hd hdD b1 b2 b3 b4 h; lia)
    refine ⟨(rg _ _ b1 b2).1, (rg _ _ b1 b2).2, t2, by decide, it_rng3 (rg _ _ b1 b2).1 (rg _ _ b1 b2).2 t2 (by decide) ?_⟩
    rw [rl]
    refine bs_loopF (f0 := S.f) Pf hD hne ho ho2 hd hx hy _ _ S u18 u19 u20 u21 u22 u23 u24 u25 m (Sw.start Pf) (fun _ => en Pf hdD) hm hm2 hs ?_ ?_
    · intro S' m1 v18 v19 v20 v21 v22 v23 v24 v25 e g1 g2 gx
      have e : stageF a b off d S T = (none, S') := e
      rw [e] at hF
      obtain ⟨q1, q2, q3, q4⟩ := hF
      have hB := stageB_ok (off := off) q2 q3 Pb q4 hD2 hd
      refine n1 _ (ss_ret fun Q2 n2 r2 => ?_)
      walk_at "D"
      refine ⟨(rg _ _ b3 b4).1, (rg _ _ b3 b4).2, t2, by decide, it_rng3 (rg _ _ b3 b4).1 (rg _ _ b3 b4).2 t2 (by decide) ?_⟩
      rw [rl]
      refine bs_loopB (g0 := T.f) Pb hD hne ho ho2 hd hx hy _ _ T v18 v19 v20 v21 v22 v23 v24 v25 m1 (Sw.start Pb) (fun _ => en Pb (by rw [dist_rev]; exact hdD)) g2 g1 (hs.ext gx) ?_ ?_
      · intro T' m2 w18 w19 w20 w21 w22 w23 w24 w25 e' h2 h1 hx2
        have e' : stageB a b off d S' T = (none, T') := e'
        rw [e'] at hB
        have eG : bisG a b off (n + 1) d S T = bisG a b off n (d + 1) S' T' := by
          show (match stageF a b off d S T with | (some p, s') => _ | (none, s') => _) = _
          rw [e]
          show (match stageB a b off d S' T with | (some p, s') => _ | (none, s') => _) = _
          rw [e']
        refine n2 _ (ss_nil ?_)
        have := bs_stages hD2 hne ho ho2 hx hy n (d + 1) S' T' (some (.int d)) w18 w19 w20 w21 w22 w23 w24 w25 m2 (by lia) q1 hB.1 hB.2 h1 h2 (hs.ext (gx.trans hx2))
          (fun S2 T2 m' a17 a18 a19 a20 a21 a22 a23 a24 a25 z zx => hN S2 T2 m' _ _ _ _ _ _ _ _ _ (eG.trans z) ((gx.trans hx2).trans zx))
          (fun u v m' K z zx => hR u v m' K (eG.trans z) ((gx.trans hx2).trans zx))
        exact this
      · intro q T' m2 loc e' hx2
        have e' : stageB a b off d S' T = (some q, T') := e'
        refine hR _ _ m2 _ ?_ (gx.trans hx2) fun r m' h => r2 _ _ (h loc)
        show (match stageF a b off d S T with | (some p, s') => _ | (none, s') => _) = _
        rw [e]
        show (match stageB a b off d S' T with | (some p, s') => _ | (none, s') => _) = _
        rw [e']
    · intro q S' m1 loc e gx
      have e : stageF a b off d S T = (some q, S') := e
      refine hR _ _ m1 _ ?_ gx fun r m' h => r1 _ _ (h loc)
      show (match stageF a b off d S T with | (some p, s') => _ | (none, s') => _) = _
      rw [e]
end
noncomputable def TZ (P : PC) (z : Int) (m : Mem) (t : Addr) : Prop := ∃ dd fs, m t = some (.inst P.cls dd) ∧ m dd = some (.dict fs) ∧ (∀ n, noFld n = true → lookF n fs = none) ∧ lookF "Diff_Timeout" fs = some (.int z)
theorem TZ.tool {P : PC} {z : Int} {m : Mem} {t : Addr} (h : TZ P z m t) : Tool P m t := let ⟨dd, fs, a, b, c, _⟩ := h; ⟨dd, fs, a, b, c⟩
theorem TZ.gr {P : PC} {z : Int} {m m' : Mem} {t : Addr} (h : TZ P z m t) (g : Gr m m') : TZ P z m' t := let ⟨dd, fs, a, b, c⟩ := h; ⟨dd, fs, g _ _ a, g _ _ b, c⟩
theorem TZ.ext {P : PC} {z : Int} {m m' : Mem} {t d : Addr} (h : TZ P z m t) (hd : ∃ l, m d = some (.list l)) (x : Ext d m m') : TZ P z m' t := by
  obtain ⟨dd, fs, h1, h2, h3⟩ := h
  obtain ⟨l, hl⟩ := hd
  refine ⟨dd, fs, x _ _ (fun q => ?_) h1, x _ _ (fun q => ?_) h2, h3⟩
  · rw [q, hl] at h1; cases h1
  · rw [q, hl] at h2; cases h2
theorem at_ccZ {P : PC} {z : Int} {m : Mem} {t : Addr} {n : String} {v : V} {K : V → Prop} (h : TZ P z m t) (hf : noFld n = true) (hc : P.cc n = some v) (q : K v) : wpAttr P m (.obj t) n K := at_cc h.tool hf hc q
theorem im_okZ {P : PC} {z : Int} {m : Mem} {t : Addr} {n : String} (h : TZ P z m t) (hf : noFld n = true) : ∃ a d fs, V.obj t = .obj a ∧ m a = some (.inst P.cls d) ∧ m d = some (.dict fs) ∧ lookF n fs = none := im_ok h.tool hf
theorem vl0 (off : Nat) (h : 2 ≤ off) : (List.replicate (2 * off) (V.int (-1))).set (off + 1) (.int 0) = vl off tab0.f := by
  apply List.ext_getElem?
  intro j
  by_cases hj : j < 2 * off
  · rw [vl_at hj]
    by_cases e : off + 1 = j
    · subst e
      rw [List.getElem?_set_self (by rw [List.length_replicate]; exact hj), show (((off + 1 : Nat) : Int) - off) = 1 by grind]; rfl
    · rw [List.getElem?_set_ne e, List.getElem?_replicate, if_pos hj]
      show _ = some (V.int (if (j : Int) - off = 1 then 0 else -1))
      rw [if_neg (by grind)]
  · rw [List.getElem?_eq_none (by rw [List.length_set, List.length_replicate]; exact Nat.le_of_not_lt ‹_›), List.getElem?_eq_none (by rw [vl_len]; grind)]
theorem pySl_all {α : Type} (xs : List α) : pySl xs none none = xs := by unfold pySl slLo slHi; exact List.take_of_length_le (by simp)
theorem rng_stages (n : Nat) : rngL 0 n 1 = rngFrom (0 : Nat) 1 n := by
  unfold rngL Builtin.Range.rangeSize
  rw [if_pos (by decide)]
  have : (if (0 : Int) < (n : Int) then ((n : Int) - 0 - 1) / 1 + 1 else 0).toNat = n := by split <;> grind
  rw [this]; rfl
theorem odd_is (x : Int) : (!decide (x % 2 = 0)) = decide (x % 2 ≠ 0) := by rw [decide_not]
section
variable {P : PC} {Q : V → Mem → Prop} {t : Addr} {dl : V} {a b : Tx} {m : Mem} {z : Int}
set_option maxHeartbeats 2000000 in
theorem w_bisect (cD : P.cc "DIFF_DELETE" = some (.int (-1))) (cI : P.cc "DIFF_INSERT" = some (.int 1)) (hT : TZ P z m t) (hD2 : 2 ≤ dist a b) (hab : a.length + b.length ≤ 1000) (ho2 : 2 ≤ offD a b)
    (hN : bis a b = none → ∀ m' r, Gr m m' → m r = none → m' r = some (.list (rv [(-1, a), (1, b)])) → Q (.obj r) m')
    (hR : ∀ u v m' (K : V → Mem → Prop), bis a b = some (u, v) → Gr m m' → (∀ r m', Q r m' → K r m') → P.meth "diff_bisectSplit" [.obj t, .str a, .str b, .int u, .int v, dl] K m') :
    wpSs P m_diff_bisectBody (fun fl σ' => Q (retV fl) σ'.mem) ⟨[.obj t, .str a, .str b, dl].map some ++ List.replicate 22 none, m⟩ := by
  have hsa : sma a.length := Nat.le_trans (Nat.le_trans (Nat.le_add_right _ _) hab) (by decide)
  have hsb : sma b.length := Nat.le_trans (Nat.le_trans (Nat.le_add_left _ _) hab) (by decide)
  have ho : offD a b ≤ 1000 := by unfold offD; lia
  have h2o : 2 * offD a b ≤ 1000000 := Nat.le_trans (Nat.mul_le_mul_left 2 ho) (by decide)
  show wpSs P _ _ ⟨[some (.obj t), some (.str a), some (.str b), some dl, none, none, none, none, none, none, none, none, none, none, none, none, none, none, none, none, none, none, none, none, none, none], m⟩
  unfold m_diff_bisectBody
  refine ss_ret fun Q1 n1 r1 => ?_
  walk_at "D"
  refine ⟨hsa, n1 _ (ss_ret fun Q2 n2 r2 => ?_)⟩
  walk_at "D"
  refine ⟨hsb, n2 _ (ss_ret fun Q3 n3 r3 => ?_)⟩
  walk_at "D"
  refine ⟨by decide, by walk_at "t", n3 _ (ss_ret fun Q4 n4 r4 => ?_)⟩
  rw [ show ((a.length : Int) + b.length + 1) / 2 = (offD a b : Int) by unfold offD; rfl ]
  walk_at "D"
  refine n4 _ (ss_ret fun Q5 n5 r5 => ?_)
  walk_at "D"
  refine ⟨by walk_at "t", n5 _ (ss_ret fun Q6 n6 r6 => ?_)⟩
  walk_at "D"
  intro l0 hl0
  refine ⟨_, ups _ _ _, by walk_at "t", h2o, fun l1 hl1 => n6 _ (ss_ret fun Q7 n7 r7 => ?_)⟩
  walk_at "D"
  rw [ show ((2 : Int) * (offD a b : Int)).toNat = 2 * offD a b by rfl ]
  refine ⟨l1, _, _, offD a b + 1, rfl, rfl, by walk_at "t", ups _ _ _, ?_, n7 _ (ss_ret fun Q8 n8 r8 => ?_)⟩
  · rw [ List.length_replicate, show ((offD a b : Int) + 1) = ((offD a b + 1 : Nat) : Int) from rfl ]; exact pyIx_nat (by clear hD2 hab ho h2o; lia)
  rw [ vl0 _ ho2 ]
  have g1 : Gr m (upd (upd (upd m l0 (.list [.int (-1)])) l1 (.list (List.replicate (2 * offD a b) (.int (-1))))) l1 (.list (vl (offD a b) tab0.f))) := by
    rw [upd_upd]; exact (Gr.new hl0 _).set (by
      have h1 : (upd m l0 (.list [.int (-1)])) l1 = none := hl1
      by_cases e : l1 = l0
      · subst e; exact hl0
      · rwa [upn _ _ e] at h1) _
  have h1 : (upd (upd (upd m l0 (.list [.int (-1)])) l1 (.list (List.replicate (2 * offD a b) (.int (-1))))) l1 (.list (vl (offD a b) tab0.f))) l1 = some (.list (vl (offD a b) tab0.f)) := ups _ _ _
  have hl1' : m l1 = none := by
    cases z : m l1 with
    | none => rfl
    | some o =>
      have := (Gr.new hl0 (.list [.int (-1)])) l1 o z
      rw [show upd m l0 (.list [.int (-1)]) l1 = none from hl1] at this; cases this
  generalize upd (upd (upd m l0 (.list [.int (-1)])) l1 (.list (List.replicate (2 * offD a b) (.int (-1))))) l1 (.list (vl (offD a b) tab0.f)) = m1 at g1 h1 ⊢
  walk_at "D"
  refine ⟨_, .inl h1, by rw [vl_len]; exact h2o, fun l2 hl2 => n8 _ ?_⟩
  rw [ show pySt (vl (offD a b) tab0.f) none none none = vl (offD a b) tab0.f from pySl_all _ ]
  have hne : l1 ≠ l2 := fun e => by subst e; rw [show m1 l1 = none from hl2] at h1; exact (Option.some_ne_none _ h1.symm).elim
  have h2 : upd m1 l2 (.list (vl (offD a b) tab0.f)) l2 = some (.list (vl (offD a b) tab0.f)) := ups _ _ _
  have h1' : upd m1 l2 (.list (vl (offD a b) tab0.f)) l1 = some (.list (vl (offD a b) tab0.f)) := by rw [ upn _ _ hne ]; exact h1
  have g2 : Gr m (upd m1 l2 (.list (vl (offD a b) tab0.f))) := g1.trans (Gr.new hl2 _)
  have hl2' : m l2 = none := by
    cases z : m l2 with
    | none => rfl
    | some o => have := g1 l2 o z; rw [show m1 l2 = none from hl2] at this; cases this
  generalize upd m1 l2 (.list (vl (offD a b) tab0.f)) = m2 at h2 h1' g2 ⊢
  have gx : ∀ m', Ext2 l1 l2 m2 m' → Gr m m' := fun m' x c o e => x c o (fun q => by subst q; rw [hl1'] at e; exact (Option.some_ne_none _ e.symm).elim) (fun q => by subst q; rw [hl2'] at e; exact (Option.some_ne_none _ e.symm).elim) (g2 c o e)
  refine ss_ret fun Q9 n9 r9 => ?_
  walk_at "D"
  refine n9 _ (ss_ret fun Q10 n10 r10 => ?_)
  walk_at "D"
  refine ⟨by decide, ?_⟩
  rw [odd_is]
  refine n10 _ (ss_ret fun Q11 n11 r11 => ?_)
  walk_at "D"
  refine n11 _ (ss_ret fun Q12 n12 r12 => ?_)
  walk_at "D"
  refine n12 _ (ss_ret fun Q13 n13 r13 => ?_)
  walk_at "D"
  refine n13 _ (ss_ret fun Q14 n14 r14 => ?_)
  walk_at "D"
  refine n14 _ (ss_ret fun Q15 n15 r15 => ?_)
  walk_at "D"
  refine ⟨by walk_at "t", by walk_at "t", by walk_at "t", by walk_at "t", by decide, ?_⟩
  rw [rng_stages]
  refine bs_stages hD2 hne ho ho2 hsa hsb (offD a b) 0 tab0 tab0 none none none none none none none none none m2 (Nat.zero_add _) (pre0 a b) (pre0 _ _) (Nat.zero_le _) h1' h2 ?_ ?_ ?_
  · exact fun m' x => im_okZ (hT.gr (gx m' x)) rfl
  · intro S' T' m' u17 u18 u19 u20 u21 u22 u23 u24 u25 e x
    refine n15 _ (ssn ?_)
    walk_at "D"
    have hT' := hT.gr (gx m' x)
    refine at_ccZ hT' rfl cD (at_ccZ hT' rfl cI fun r hr => hN e _ r ((gx m' x).trans (Gr.new hr _)) ((gx m' x).fresh hr) (ups _ _ _))
  · exact fun u v m' K e x h => hR u v m' K e (gx m' x) fun r m' q => h r m' fun loc => r15 _ _ q
end
noncomputable def m_diff_mainPs : List Str := ["self", "text1", "text2", "checklines", "deadline"]
noncomputable def m_diff_mainRest : List Str := ["commonlength", "commonprefix", "commonsuffix", "diffs"]
noncomputable def m_diff_mainNames : List (Str × NameKind) := []
noncomputable def m_diff_mainCells : List Str := []
noncomputable def m_diff_mainB1 : List Sm := [
    .ife (.var 1) [
      .ret (.list [.tup [.attr (.var 0) "DIFF_EQUAL", .var 1]])] [],
    .ret (.list [])]
noncomputable def m_diff_mainB2 : List Sm := [
    .assign [.var 7] (.slc (.var 1) (.neg (.var 5)) (.lit .none) (.lit .none)),
    .assign [.var 1] (.slc (.var 1) (.lit .none) (.neg (.var 5)) (.lit .none)),
    .assign [.var 2] (.slc (.var 2) (.lit .none) (.neg (.var 5)) (.lit .none))]
noncomputable def m_diff_mainBody : List Sm := [
    .ife (.bor [.cmp (.var 1) [.Eq] [.lit .none], .cmp (.var 2) [.Eq] [.lit .none]]) [
      .junk] [],
    .ife (.cmp (.var 1) [.Eq] [.var 2]) m_diff_mainB1 [],
    .assign [.var 5] (.imeth (.var 0) "diff_commonPrefix" [.var 1, .var 2]),
    .assign [.var 6] (.slc (.var 1) (.lit .none) (.var 5) (.lit .none)),
    .assign [.var 1] (.slc (.var 1) (.var 5) (.lit .none) (.lit .none)),
    .assign [.var 2] (.slc (.var 2) (.var 5) (.lit .none) (.lit .none)),
    .assign [.var 5] (.imeth (.var 0) "diff_commonSuffix" [.var 1, .var 2]),
    .ife (.cmp (.var 5) [.Eq] [.lit (.int 0)]) [
      .assign [.var 7] (.lit (.str []))] m_diff_mainB2,
    .assign [.var 8] (.imeth (.var 0) "diff_compute" [.var 1, .var 2, .var 3, .var 4]),
    .ife (.var 6) [
      .assign [.slc (.var 8) (.lit .none) (.lit (.int 0))] (.list [.tup [.attr (.var 0) "DIFF_EQUAL", .var 6]])] [],
    .ife (.var 7) [
      .expr (.me (.var 8) .append [.tup [.attr (.var 0) "DIFF_EQUAL", .var 7]])] [],
    .expr (.imeth (.var 0) "diff_cleanupMerge" [.var 8]),
    .ret (.var 8)]
noncomputable def m_diff_computePs : List Str := ["self", "text1", "text2", "checklines", "deadline"]
noncomputable def m_diff_computeRest : List Str := ["longtext", "shorttext", "i", "diffs", "hm", "text1_a", "text1_b", "text2_a", "text2_b", "mid_common", "diffs_a", "diffs_b"]
noncomputable def m_diff_computeNames : List (Str × NameKind) := [("len", .globalImplicit)]
noncomputable def m_diff_computeCells : List Str := []
noncomputable def m_diff_computeB1 : List Sm := [
    .assign [.idx (.var 8) (.lit (.int 0))] (.tup [.attr (.var 0) "DIFF_DELETE", .idx (.idx (.var 8) (.lit (.int 0))) (.lit (.int 1))]),
    .assign [.idx (.var 8) (.lit (.int 2))] (.tup [.attr (.var 0) "DIFF_DELETE", .idx (.idx (.var 8) (.lit (.int 2))) (.lit (.int 1))])]
noncomputable def m_diff_computeB2 : List Sm := [
    .assign [.var 8] (.list [.tup [.attr (.var 0) "DIFF_INSERT", .slc (.var 5) (.lit .none) (.var 7) (.lit .none)], .tup [.attr (.var 0) "DIFF_EQUAL", .var 6], .tup [.attr (.var 0) "DIFF_INSERT", .slc (.var 5) (.bin .Add (.var 7) (.bi .len [.var 6])) (.lit .none) (.lit .none)]]),
    .ife (.cmp (.bi .len [.var 1]) [.Gt] [.bi .len [.var 2]]) m_diff_computeB1 [],
    .ret (.var 8)]
noncomputable def m_diff_computeB3 : List Sm := [
    .assign [.tup [10, 11, 12, 13, 14]] (.var 9),
    .assign [.var 15] (.imeth (.var 0) "diff_main" [.var 10, .var 12, .var 3, .var 4]),
    .assign [.var 16] (.imeth (.var 0) "diff_main" [.var 11, .var 13, .var 3, .var 4]),
    .ret (.bin .Add (.bin .Add (.var 15) (.list [.tup [.attr (.var 0) "DIFF_EQUAL", .var 14]])) (.var 16))]
noncomputable def m_diff_computeBody : List Sm := [
    .ife (.not (.var 1)) [
      .ret (.list [.tup [.attr (.var 0) "DIFF_INSERT", .var 2]])] [],
    .ife (.not (.var 2)) [
      .ret (.list [.tup [.attr (.var 0) "DIFF_DELETE", .var 1]])] [],
    .ife (.cmp (.bi .len [.var 1]) [.Gt] [.bi .len [.var 2]]) [
      .assign [.tup [5, 6]] (.tup [.var 1, .var 2])] [
      .assign [.tup [6, 5]] (.tup [.var 1, .var 2])],
    .assign [.var 7] (.me (.var 5) .find [.var 6]),
    .ife (.cmp (.var 7) [.NotEq] [.neg (.lit (.int 1))]) m_diff_computeB2 [],
    .ife (.cmp (.bi .len [.var 6]) [.Eq] [.lit (.int 1)]) [
      .ret (.list [.tup [.attr (.var 0) "DIFF_DELETE", .var 1], .tup [.attr (.var 0) "DIFF_INSERT", .var 2]])] [],
    .assign [.var 9] (.imeth (.var 0) "diff_halfMatch" [.var 1, .var 2]),
    .ife (.var 9) m_diff_computeB3 [],
    .ife (.band [.var 3, .cmp (.bi .len [.var 1]) [.Gt] [.lit (.int 100)], .cmp (.bi .len [.var 2]) [.Gt] [.lit (.int 100)]]) [
      .junk] [],
    .ret (.imeth (.var 0) "diff_bisect" [.var 1, .var 2, .var 4])]
noncomputable def m_diff_bisectSplitPs : List Str := ["self", "text1", "text2", "x", "y", "deadline"]
noncomputable def m_diff_bisectSplitRest : List Str := ["text1a", "text2a", "text1b", "text2b", "diffs", "diffsb"]
noncomputable def m_diff_bisectSplitNames : List (Str × NameKind) := []
noncomputable def m_diff_bisectSplitCells : List Str := []
noncomputable def m_diff_bisectSplitBody : List Sm := [
    .assign [.var 6] (.slc (.var 1) (.lit .none) (.var 3) (.lit .none)),
    .assign [.var 7] (.slc (.var 2) (.lit .none) (.var 4) (.lit .none)),
    .assign [.var 8] (.slc (.var 1) (.var 3) (.lit .none) (.lit .none)),
    .assign [.var 9] (.slc (.var 2) (.var 4) (.lit .none) (.lit .none)),
    .assign [.var 10] (.imeth (.var 0) "diff_main" [.var 6, .var 7, .lit (.bool false), .var 5]),
    .assign [.var 11] (.imeth (.var 0) "diff_main" [.var 8, .var 9, .lit (.bool false), .var 5]),
    .ret (.bin .Add (.var 10) (.var 11))]
theorem rv_app (A B : Row) : rv A ++ rv B = rv (A ++ B) := by unfold rv; rw [List.map_append]
section
variable {P : PC} {Q : V → Mem → Prop} {t : Addr} {dl : V} {a b : Tx} {m : Mem} {H : Tx → Tx → Option HM → Prop} {z : Int}
noncomputable def MainIs (P : PC) (z : Int) (H : Tx → Tx → Option HM → Prop) (t : Addr) (dl : V) (n : Nat) : Prop := ∀ (a b : Tx) (m : Mem) (Q : V → Mem → Prop), a.length + b.length ≤ n → TZ P z m t →
  (∀ m' r L, Gr m m' → m r = none → m' r = some (.list (rv L)) → MainR H a b L → Q (.obj r) m') → P.meth "diff_main" [.obj t, .str a, .str b, .bool false, dl] Q m
theorem rv_small {H : Tx → Tx → Option HM → Prop} {a b : Tx} {L : Row} {n : Nat} (R : MainR H a b L) (h : a.length + b.length ≤ n) (hn : n ≤ 40) : sma (rv L).length := by
  have G := main_good R
  have p := llp L
  have q := row_phi G.n G.k
  rw [G.m, G.p] at q
  rw [rv_len]; unfold sma; lia
theorem w_split {x y n : Nat} (hM : MainIs P z H t dl n) (hT : TZ P z m t) (hm : Meet a b x y) (hn : a.length + b.length ≤ n + 1) (hs : n ≤ 40)
    (h : ∀ m' r L1 L2, Gr m m' → m r = none → m' r = some (.list (rv (L1 ++ L2))) → MainR H (a.take x) (b.take y) L1 → MainR H (a.drop x) (b.drop y) L2 → Q (.obj r) m') :
    wpSs P m_diff_bisectSplitBody (fun fl σ' => Q (retV fl) σ'.mem) ⟨[.obj t, .str a, .str b, .int x, .int y, dl].map some ++ List.replicate 6 none, m⟩ := by
  have hx := hm.hx
  have hy := hm.hy
  have hlo := hm.lo
  have hhi := hm.hi
  have k1 : (a.take x).length + (b.take y).length ≤ n := by rw [ List.length_take_of_le hx, List.length_take_of_le hy ]; exact Nat.le_of_lt_succ (Nat.lt_of_lt_of_le hhi hn)
  have k2 : (a.drop x).length + (b.drop y).length ≤ n := by rw [ List.length_drop, List.length_drop ]; clear k1 hhi hs; lia
  have hsa : sma a.length := Nat.le_trans (Nat.le_trans (Nat.le_add_right _ _) hn) (Nat.succ_le_succ (Nat.le_trans hs (by decide)))
  have hsb : sma b.length := Nat.le_trans (Nat.le_trans (Nat.le_add_left _ _) hn) (Nat.succ_le_succ (Nat.le_trans hs (by decide)))
  show wpSs P _ _ ⟨[some (.obj t), some (.str a), some (.str b), some (.int x), some (.int y), some dl, none, none, none, none, none, none], m⟩
  unfold m_diff_bisectSplitBody
  refine ss_ret fun Q1 n1 r1 => ?_
  walk_at "D"
  refine ⟨hsa, n1 _ (ss_ret fun Q2 n2 r2 => ?_)⟩
  walk_at "D"
  refine ⟨hsb, n2 _ (ss_ret fun Q3 n3 r3 => ?_)⟩
  walk_at "D"
  refine ⟨hsa, n3 _ (ss_ret fun Q4 n4 r4 => ?_)⟩
  walk_at "D"
  refine ⟨hsb, n4 _ (ss_ret fun Q5 n5 r5 => ?_)⟩
  walk_at "D"
  rw [ pySl_to a hx, pySl_to b hy, pySl_from a hx, pySl_from b hy ]
  refine ⟨im_okZ hT rfl, hM _ _ _ _ k1 hT fun m1 l1 L1 g1 _ h1 R1 => n5 _ (ss_ret fun Q6 n6 r6 => ?_)⟩
  walk_at "D"
  refine ⟨im_okZ (hT.gr g1) rfl, hM _ _ _ _ k2 (hT.gr g1) fun m2 l2 L2 g2 _ h2 R2 => n6 _ (ssn ?_)⟩
  walk_at "D"
  refine ⟨_, _, g2 _ _ h1, h2, rv_small R1 k1 hs, rv_small R2 k2 hs, fun r hr => h _ r L1 L2 ((g1.trans g2).trans (Gr.new hr _)) ((g1.trans g2).fresh hr) ?_ R1 R2⟩
  rw [rv_app]; exact ups _ _ _
end
theorem occ_split {l s : Tx} {i : Nat} (h : Occ l s i) : l = l.take i ++ s ++ l.drop (i + s.length) := by
  obtain ⟨h1, h2⟩ := h
  have e : l.drop i = s ++ l.drop (i + s.length) := by
    rw [← List.drop_drop]
    have := List.take_append_drop s.length (l.drop i)
    rw [h2] at this; exact this.symm
  rw [List.append_assoc, ← e, List.take_append_drop]
theorem comp_inB {H : Tx → Tx → Option HM → Prop} {a b : Tx} {i : Nat} (ha : a ≠ []) (hl : a.length ≤ b.length) (hi : Occ b a i) (hf : ∀ j, j < i → ¬ Occ b a j) : CompR H a b [(1, b.take i), (0, a), (1, b.drop (i + a.length))] := by
  have e := occ_split hi
  have hu : (b.take i).length = i := by rw [ List.length_take ]; exact Nat.min_eq_left (Nat.le_trans (Nat.le_add_right ..) hi.1)
  generalize b.take i = u at *
  generalize b.drop (i + a.length) = v at *
  subst e
  exact .inB ha hl fun j hj => hf j (hu ▸ hj)
theorem comp_inA {H : Tx → Tx → Option HM → Prop} {a b : Tx} {i : Nat} (hb : b ≠ []) (hl : b.length < a.length) (hi : Occ a b i) (hf : ∀ j, j < i → ¬ Occ a b j) : CompR H a b [(-1, a.take i), (0, b), (-1, a.drop (i + b.length))] := by
  have e := occ_split hi
  have hu : (a.take i).length = i := by rw [List.length_take]; exact Nat.min_eq_left (Nat.le_trans (Nat.le_add_right ..) hi.1)
  generalize a.take i = u at *
  generalize a.drop (i + b.length) = v at *
  subst e
  exact .inA hb hl fun j hj => hf j (hu ▸ hj)
section
variable {P : PC} {Q : V → Mem → Prop} {t : Addr} {dl : V} {a b : Tx} {m : Mem} {H : Tx → Tx → Option HM → Prop} {z : Int}
noncomputable def HalfIs (P : PC) (z : Int) (H : Tx → Tx → Option HM → Prop) (t : Addr) : Prop := ∀ (a b : Tx) (m : Mem) (Q : V → Mem → Prop), a.length + b.length ≤ 41 → a ≠ [] → b ≠ [] → TZ P z m t → (∀ m', Gr m m' → H a b none → Q .none m') → P.meth "diff_halfMatch" [.obj t, .str a, .str b] Q m
noncomputable def BisIs (P : PC) (z : Int) (H : Tx → Tx → Option HM → Prop) (t : Addr) (dl : V) (a b : Tx) : Prop := 4 ≤ a.length + b.length → ∀ (m : Mem) (Q : V → Mem → Prop), TZ P z m t →
  (∀ m' r L, Gr m m' → m r = none → m' r = some (.list (rv L)) → (H a b none → (∀ j, ¬ Occ (if b.length < a.length then a else b) (if b.length < a.length then b else a) j) → CompR H a b L) → Q (.obj r) m') → P.meth "diff_bisect" [.obj t, .str a, .str b, dl] Q m
noncomputable abbrev cpS (t : Addr) (a b : Tx) (dl : V) (l s : Tx) (u7 u8 u9 u10 u11 u12 u13 u14 u15 u16 : Option V) (m : Mem) : St :=
  ⟨[some (.obj t), some (.str a), some (.str b), some (.bool false), some dl, some (.str l), some (.str s), u7, u8, u9, u10, u11, u12, u13, u14, u15, u16], m⟩
theorem cp_rest {l s : Tx} {n : Nat} (cD : P.cc "DIFF_DELETE" = some (.int (-1))) (cI : P.cc "DIFF_INSERT" = some (.int 1)) (cE : P.cc "DIFF_EQUAL" = some (.int 0)) (hM : MainIs P z H t dl n) (hH : HalfIs P z H t) (hB : BisIs P z H t dl a b) (hT : TZ P z m t)
    (ha : a ≠ []) (hb : b ≠ []) (hn : a.length + b.length ≤ n + 1) (hs : n ≤ 40) (hl : l = if b.length < a.length then a else b) (hsh : s = if b.length < a.length then b else a)
    (h : ∀ m' r L, Gr m m' → m r = none → m' r = some (.list (rv L)) → CompR H a b L → Q (.obj r) m') :
    wpSs P [.assign [.var 7] (.me (.var 5) .find [.var 6]),
    .ife (.cmp (.var 7) [.NotEq] [.neg (.lit (.int 1))]) m_diff_computeB2 [],
    .ife (.cmp (.bi .len [.var 6]) [.Eq] [.lit (.int 1)]) [
      .ret (.list [.tup [.attr (.var 0) "DIFF_DELETE", .var 1], .tup [.attr (.var 0) "DIFF_INSERT", .var 2]])] [],
    .assign [.var 9] (.imeth (.var 0) "diff_halfMatch" [.var 1, .var 2]),
    .ife (.var 9) m_diff_computeB3 [],
    .ife (.band [.var 3, .cmp (.bi .len [.var 1]) [.Gt] [.lit (.int 100)], .cmp (.bi .len [.var 2]) [.Gt] [.lit (.int 100)]]) [.junk] [],
    .ret (.imeth (.var 0) "diff_bisect" [.var 1, .var 2, .var 4])] (fun fl σ' => Q (retV fl) σ'.mem) (cpS t a b dl l s none none none none none none none none none none m) := by
  have hla : sma l.length := by unfold sma; rw [ hl ]; split <;> grind
  have hls : sma s.length := by unfold sma; rw [ hsh ]; split <;> grind
  have hsa : sma a.length := by unfold sma; grind
  have hsb : sma b.length := by unfold sma; grind
  refine ss_ret fun Q1 n1 r1 => ?_
  walk_at "D"
  refine ⟨trivial, hla, hls, fun i hi => n1 _ (ss_ret fun Q2 n2 r2 => s_ife fun K kt kf => ?_)⟩
  walk_at "D"
  rcases hi with ⟨rfl, no⟩ | ⟨i, rfl, _, hi, hf⟩
  · refine kf _ (ss_nil (n2 _ (ss_ret fun Q3 n3 r3 => s_ife fun K' kt' kf' => ?_)))
    walk_at "D"
    refine ⟨hls, ?_⟩
    have hlen : s.length = if b.length < a.length then b.length else a.length := by rw [ hsh ]; split <;> rfl
    have no' : ∀ j, ¬ Occ (if b.length < a.length then a else b) (if b.length < a.length then b else a) j := fun j q => no j (Nat.zero_le _) (by rw [ hl, hsh ]; exact q)
    by_cases c1 : s.length = 1
    · rw [ decide_eq_true (by grind : (s.length : Int) = 1) ]
      refine kt' _ (ssn ?_)
      walk_at "D"
      exact at_ccZ hT rfl cD (at_ccZ hT rfl cI fun r hr => r3 _ _ (h _ r _ (Gr.new hr _) hr (ups _ _ _) (.one ha hb (hlen ▸ c1) no')))
    · rw [ decide_eq_false (by grind : ¬ (s.length : Int) = 1) ]
      refine kf' _ (ss_nil (n3 _ (ss_ret fun Q4 n4 r4 => ?_)))
      walk_at "D"
      refine ⟨im_okZ hT rfl, hH a b m _ (by lia) ha hb hT fun m1 g1 hr' => n4 _ (ss_ret fun Q5 n5 r5 => s_ife fun K2 kt2 kf2 => ?_)⟩
      have h4 : 4 ≤ a.length + b.length := by
        have h1 := List.length_pos_iff.mpr ha
        have h2 := List.length_pos_iff.mpr hb
        split at hlen <;> lia
      walk_at "D"
      refine kf2 _ (ss_nil (n5 _ (ss_ret fun Q6 n6 r6 => s_ife fun K3 kt3 kf3 => ?_)))
      walk_at "D"
      refine kf3 _ (ss_nil (n6 _ (ssn ?_)))
      walk_at "D"
      exact ⟨im_okZ (hT.gr g1) rfl, hB h4 m1 _ (hT.gr g1) fun m2 r L g2 hf2 hr2 hc => h m2 r L (g1.trans g2) (g1.fresh hf2) hr2 (hc hr' no')⟩
  · rw [ decide_eq_false (by grind : ¬ (i : Int) = -1) ]
    refine kt _ ?_
    unfold m_diff_computeB2
    have e := occ_split hi
    have hi1 : i ≤ l.length := Nat.le_trans (Nat.le_add_right ..) hi.1
    refine ss_ret fun Q3 n3 r3 => ?_
    walk_at "D"
    refine at_ccZ hT rfl cI ⟨hla, at_ccZ hT rfl cE (at_ccZ hT rfl cI ⟨hls, hla, fun c hc => n3 _ ?_⟩)⟩
    rw [ pySl_to l hi1, show (i : Int) + (s.length : Int) = ((i + s.length : Nat) : Int) by rfl, pySl_from l hi.1 ]
    have gc := Gr.new hc (.list (rv [(1, l.take i), (0, s), (1, l.drop (i + s.length))]))
    have mc : upd m c (.list (rv [(1, l.take i), (0, s), (1, l.drop (i + s.length))])) c = some (.list (rv [(1, l.take i), (0, s), (1, l.drop (i + s.length))])) := ups _ _ _
    have fin : ∀ (m' : Mem) (L : Row), m' c = some (.list (rv L)) → Ext c (upd m c (.list (rv [(1, l.take i), (0, s), (1, l.drop (i + s.length))]))) m' → CompR H a b L → Q (.obj c) m' := fun m' L h1 hx hc' => h m' c L (fun x o e => hx x o (fun q => by subst q; rw [show m x = none from hc] at e; exact (Option.some_ne_none _ e.symm).elim) (gc x o e)) hc h1 hc'
    show wpSs P _ Q2 (cpS t a b dl l s (some (.int i)) (some (.obj c)) none none none none none none none none (upd m c (.list (rv [(1, l.take i), (0, s), (1, l.drop (i + s.length))]))))
    have hT' := hT.gr gc
    generalize upd m c (.list (rv [(1, l.take i), (0, s), (1, l.drop (i + s.length))])) = m1 at mc hT' fin ⊢
    refine ss_ret fun Q4 n4 r4 => s_ife fun K' kt' kf' => ?_
    walk_at "D"
    refine ⟨hsa, hsb, ?_⟩
    by_cases c1 : b.length < a.length
    · rw [ decide_eq_true (Int.ofNat_lt.mpr c1) ]
      rw [if_pos c1] at hl hsh
      subst hl hsh
      refine kt' _ ?_
      unfold m_diff_computeB1
      have t0 := tiny_lit 0 (by exact Nat.succ_pos _)
      have t2 := tiny_lit 2 (by exact Nat.le_add_left ..)
      have hex : ∃ l, m1 c = some (.list l) := ⟨_, mc⟩
      refine ss_ret fun Q5 n5 r5 => ?_
      walk_at "D"
      refine at_ccZ hT' rfl cD (ix_row mc t0 (q := (1, l.take i)) rfl (ix_snd ⟨c, 0, _, 0, rfl, rfl, t0, mc, rfl, n5 _ ?_⟩))
      have mc2 : upd m1 c (.list (rv [(-1, l.take i), (0, s), (1, l.drop (i + s.length))])) c = some (.list (rv [(-1, l.take i), (0, s), (1, l.drop (i + s.length))])) := ups _ _ _
      have x2 : Ext c m1 (upd m1 c (.list (rv [(-1, l.take i), (0, s), (1, l.drop (i + s.length))]))) := .upd _ _ _
      show wpSs P _ Q4 (cpS t _ _ dl _ _ (some (.int i)) (some (.obj c)) none none none none none none none none (upd m1 c (.list (rv [(-1, l.take i), (0, s), (1, l.drop (i + s.length))]))))
      have hT2 := hT'.ext hex x2
      generalize upd m1 c (.list (rv [(-1, l.take i), (0, s), (1, l.drop (i + s.length))])) = m2 at mc2 x2 hT2 ⊢
      refine ssn ?_
      walk_at "D"
      refine at_ccZ hT2 rfl cD (ix_row mc2 t2 (q := (1, l.drop (i + s.length))) rfl (ix_snd ⟨c, 2, _, 2, rfl, rfl, t2, mc2, rfl, n4 _ (ssn ?_)⟩))
      walk_at "D"
      have mc3 : upd m2 c (.list (rv [(-1, l.take i), (0, s), (-1, l.drop (i + s.length))])) c = some (.list (rv [(-1, l.take i), (0, s), (-1, l.drop (i + s.length))])) := ups _ _ _
      exact r2 _ _ (fin _ _ mc3 (x2.trans (.upd _ _ _)) (comp_inA hb c1 hi fun j hj => hf j (Nat.zero_le _) hj))
    · rw [decide_eq_false (by lia : ¬ (b.length : Int) < a.length)]
      rw [if_neg c1] at hl hsh
      subst hl hsh
      refine kf' _ (ss_nil (n4 _ (ssn ?_)))
      walk_at "D"
      exact r2 _ _ (fin _ _ mc (.refl _ _) (comp_inB ha (by exact Nat.le_of_not_lt ‹_›) hi fun j hj => hf j (Nat.zero_le _) hj))
end
section
variable {P : PC} {Q : V → Mem → Prop} {t : Addr} {dl : V} {a b : Tx} {m : Mem} {H : Tx → Tx → Option HM → Prop} {z : Int}
theorem w_compute {n : Nat} (cD : P.cc "DIFF_DELETE" = some (.int (-1))) (cI : P.cc "DIFF_INSERT" = some (.int 1)) (cE : P.cc "DIFF_EQUAL" = some (.int 0)) (hM : MainIs P z H t dl n) (hH : HalfIs P z H t) (hB : a ≠ [] → b ≠ [] → BisIs P z H t dl a b) (hT : TZ P z m t)
    (hne : a ≠ [] ∨ b ≠ []) (hn : a.length + b.length ≤ n + 1) (hs : n ≤ 40)
    (h : ∀ m' r L, Gr m m' → m r = none → m' r = some (.list (rv L)) → CompR H a b L → Q (.obj r) m') :
    wpSs P m_diff_computeBody (fun fl σ' => Q (retV fl) σ'.mem) ⟨[.obj t, .str a, .str b, .bool false, dl].map some ++ List.replicate 12 none, m⟩ := by
  have hsa : sma a.length := by unfold sma; lia
  have hsb : sma b.length := by unfold sma; lia
  show wpSs P _ _ ⟨[some (.obj t), some (.str a), some (.str b), some (.bool false), some dl, none, none, none, none, none, none, none, none, none, none, none, none], m⟩
  unfold m_diff_computeBody
  refine ss_ret fun Q1 n1 r1 => s_ife fun K kt kf => ?_
  walk_at "D"
  refine ⟨hsa, ?_⟩
  cases a with
  | nil =>
    refine kt _ (ssn ?_)
    walk_at "D"
    exact at_ccZ hT rfl cI fun r hr => r1 _ _ (h _ r _ (Gr.new hr _) hr (ups _ _ _) (.ins (hne.resolve_left fun q => q rfl)))
  | cons x as =>
  refine kf _ (ss_nil (n1 _ (ss_ret fun Q2 n2 r2 => s_ife fun K' kt' kf' => ?_)))
  walk_at "D"
  refine ⟨hsb, ?_⟩
  cases b with
  | nil =>
    refine kt' _ (ssn ?_)
    walk_at "D"
    exact at_ccZ hT rfl cD fun r hr => r2 _ _ (h _ r _ (Gr.new hr _) hr (ups _ _ _) (.del (fun q => nomatch q)))
  | cons y bs =>
  have ha : x :: as ≠ [] := fun q => nomatch q
  have hb : y :: bs ≠ [] := fun q => nomatch q
  refine kf' _ (ss_nil (n2 _ ?_))
  clear kt kf kt' kf' n1 n2 r1 r2
  generalize x :: as = a at *
  generalize y :: bs = b at *
  refine ss_ret fun Q3 n3 r3 => s_ife fun K2 kt2 kf2 => ?_
  walk_at "D"
  refine ⟨hsa, hsb, ?_⟩
  have rest : ∀ l s, (l = if b.length < a.length then a else b) → (s = if b.length < a.length then b else a) → Q3 .next (cpS t a b dl l s none none none none none none none none none none m) := fun l s e1 e2 =>
    n3 _ (cp_rest cD cI cE hM hH (hB ha hb) hT ha hb hn hs e1 e2 h)
  by_cases c : b.length < a.length
  · rw [decide_eq_true (Int.ofNat_lt.mpr c)]
    refine kt2 _ (ssn ?_)
    walk_at "D"
    exact ⟨rfl, rest a b (if_pos c).symm (if_pos c).symm⟩
  · rw [decide_eq_false (by lia : ¬ (b.length : Int) < a.length)]
    refine kf2 _ (ssn ?_)
    walk_at "D"
    exact ⟨rfl, rest b a (if_neg c).symm (if_neg c).symm⟩
end
theorem pyIns0 {α : Type} (xs ys : List α) : xs.take (slLo xs.length none) ++ ys ++ xs.drop (max (slLo xs.length none) (slHi xs.length (some 0))) = ys ++ xs := by
  have : slHi xs.length (some 0) = 0 := by unfold slHi; exact (clip_nn (n := xs.length) (i := 0)).trans (Nat.zero_min _)
  rw [this]; rfl
theorem cmp_none {m : Mem} {x : Tx} {K : Bool → Prop} (h : K false) : wpCmp m .Eq (.str x) .none K :=
  ⟨.str (mkS x), .none, rfl, rfl, by rw [show PyData.eqv (.str (mkS x)) .none = false by simp [PyData.eqv]]; exact h⟩
theorem apart_rr (a b : Tx) : Apart (rn b a) (ro b a) where
  hd x y as bs h1 h2 := by
    have := ro_head (o := b) (n := a) (by rw [h2]; exact fun q => nomatch q) (by rw [h1]; exact fun q => nomatch q)
    rw [h1, h2] at this
    exact fun q => this (by rw [q]; rfl)
  tl x y as bs h1 h2 := by
    have := ro_last (o := b) (n := a) (by rw [h2]; simp) (by rw [h1]; simp)
    rw [h1, h2] at this
    exact fun q => this (by rw [q]; simp)
section
variable {P : PC} {Q : V → Mem → Prop} {t : Addr} {dl : V} {a b : Tx} {m : Mem} {H : Tx → Tx → Option HM → Prop} {z : Int}
noncomputable def CleanIs (P : PC) (z : Int) (t : Addr) : Prop := ∀ (d : Addr) (L : Row) (m : Mem) (Q : V → Mem → Prop), TZ P z m t → m d = some (.list (rv L)) → Kinds L → phi L < 100 → (∀ m', m' d = some (.list (rv (cleanN 100 L))) → Ext d m m' → Q .none m') → P.meth "diff_cleanupMerge" [.obj t, .obj d] Q m
noncomputable def CompIs (P : PC) (z : Int) (H : Tx → Tx → Option HM → Prop) (t : Addr) (dl : V) (n : Nat) : Prop := ∀ (a b : Tx) (m : Mem) (Q : V → Mem → Prop), a.length + b.length ≤ n → (a ≠ [] ∨ b ≠ []) → Apart a b → TZ P z m t →
  (∀ m' r L, Gr m m' → m r = none → m' r = some (.list (rv L)) → CompR H a b L → Q (.obj r) m') → P.meth "diff_compute" [.obj t, .str a, .str b, .bool false, dl] Q m
noncomputable abbrev mnS (t : Addr) (a b : Tx) (dl : V) (u5 u6 u7 u8 : Option V) (m : Mem) : St := ⟨[some (.obj t), some (.str a), some (.str b), some (.bool false), some dl, u5, u6, u7, u8], m⟩
theorem mn_end {a2 b2 p s : Tx} {L : Row} {d : Addr} {u5 : Option V} (c : Cm P) (hC : CleanIs P z t) (hT : TZ P z m t) (hne : p ++ a2 ++ s ≠ p ++ b2 ++ s) (hlp : lcp (p ++ a2 ++ s) (p ++ b2 ++ s) = p.length) (hA : Apart a2 b2) (hn : (p ++ a2 ++ s).length + (p ++ b2 ++ s).length ≤ 40)
    (hm : m d = some (.list (rv L))) (hc : CompR H a2 b2 L) (h : ∀ m' L, Ext d m m' → m' d = some (.list (rv L)) → MainR H (p ++ a2 ++ s) (p ++ b2 ++ s) L → Q (.obj d) m') :
    wpSs P [.ife (.var 6) [
      .assign [.slc (.var 8) (.lit .none) (.lit (.int 0))] (.list [.tup [.attr (.var 0) "DIFF_EQUAL", .var 6]])] [],
    .ife (.var 7) [
      .expr (.me (.var 8) .append [.tup [.attr (.var 0) "DIFF_EQUAL", .var 7]])] [],
    .expr (.imeth (.var 0) "diff_cleanupMerge" [.var 8]),
    .ret (.var 8)] (fun fl σ' => Q (retV fl) σ'.mem) (mnS t a2 b2 dl u5 (some (.str p)) (some (.str s)) (some (.obj d)) m) := by
  simp only [List.length_append] at hn
  have C := comp_good hc hA
  have hp1 := row_phi C.n C.k
  rw [C.m, C.p] at hp1
  have hL := llp L
  have one_phi : ∀ x : Tx, phi (one0 x) ≤ x.length + 1 := fun x => by
    unfold one0; split
    · exact Nat.zero_le _
    · rw [phi_cons]; exact Nat.le_refl _
  have hph : phi (one0 p ++ L ++ one0 s) < 100 := by
    rw [pha, pha]
    have := one_phi p; have := one_phi s; grind
  have hK : Kinds (one0 p ++ L ++ one0 s) := ((kinds_one0 p).append C.k).append (kinds_one0 s)
  have fin : ∀ m', m' d = some (.list (rv (one0 p ++ L ++ one0 s))) → Ext d m m' → wpSs P [.expr (.imeth (.var 0) "diff_cleanupMerge" [.var 8]), .ret (.var 8)] (fun fl σ' => Q (retV fl) σ'.mem) (mnS t a2 b2 dl u5 (some (.str p)) (some (.str s)) (some (.obj d)) m') := fun m' h1 hx => by
    have hT' := hT.ext ⟨_, hm⟩ hx
    refine ss_ret fun Q1 n1 r1 => ?_
    walk_at "D"
    refine ⟨im_okZ hT' rfl, hC d _ m' _ hT' h1 hK hph fun m'' h2 hx2 => n1 _ (ssn ?_)⟩
    exact h m'' _ (hx.trans hx2) h2 (.diff hne hlp hA hc hph)
  have app : ∀ m', m' d = some (.list (rv (one0 p ++ L))) → Ext d m m' → wpSs P [.ife (.var 7) [
      .expr (.me (.var 8) .append [.tup [.attr (.var 0) "DIFF_EQUAL", .var 7]])] [],
    .expr (.imeth (.var 0) "diff_cleanupMerge" [.var 8]), .ret (.var 8)] (fun fl σ' => Q (retV fl) σ'.mem) (mnS t a2 b2 dl u5 (some (.str p)) (some (.str s)) (some (.obj d)) m') := fun m' h1 hx => by
    have hT' := hT.ext ⟨_, hm⟩ hx
    refine ss_ret fun Q1 n1 r1 => s_ife fun K kt kf => ?_
    walk_at "D"
    refine ⟨by unfold sma; grind, ?_⟩
    cases s with
    | nil => exact kf _ (ss_nil (n1 _ (fin m' (by rw [show one0 p ++ L ++ one0 [] = one0 p ++ L from List.append_nil _]; exact h1) hx)))
    | cons x s =>
      refine kt _ (ssn ?_)
      walk_at "D"
      refine ⟨⟨_, h1⟩, at_ccZ hT' c.cE.1 c.cE.2 ⟨_, h1, ?_, n1 _ (fin _ ?_ (hx.trans (.upd _ _ _)))⟩⟩
      · rw [rv_len, List.length_append]
        have : (one0 p).length ≤ 1 := by unfold one0; split <;> simp
        unfold sma; grind
      · rw [ups, show [V.tup [V.int 0, V.str (x :: s)]] = rv (one0 (x :: s)) from rfl, rv_app]
  refine ss_ret fun Q1 n1 r1 => s_ife fun K kt kf => ?_
  walk_at "D"
  refine ⟨by unfold sma; grind, ?_⟩
  cases p with
  | nil => exact kf _ (ss_nil (n1 _ (app m hm (.refl _ _))))
  | cons x p =>
    refine kt _ (ssn ?_)
    walk_at "D"
    refine at_ccZ hT c.cE.1 c.cE.2 fun e he => ?_
    have hde : d ≠ e := fun q => by subst q; rw [show m d = none from he] at hm; cases hm
    refine ⟨d, e, none, some 0, _, _, rfl, rfl, rfl, rfl, hde, (Gr.new he _) _ _ hm, ups _ _ _, by rw [rv_len]; unfold sma; grind, by unfold sma; exact (by decide : 1 ≤ 1000000), n1 _ (app _ ?_ ?_)⟩
    · rw [ups, pyIns0]
      rw [show [V.tup [V.int 0, V.str (x :: p)]] = rv (one0 (x :: p)) from rfl, rv_app]
    · exact (Ext.new he _).trans (.upd _ _ _)
theorem w_main {n : Nat} (c : Cm P) (hK : CompIs P z H t dl n) (hC : CleanIs P z t) (hT : TZ P z m t) (hn : a.length + b.length ≤ n) (hs : n ≤ 40)
    (h : ∀ m' r L, Gr m m' → m r = none → m' r = some (.list (rv L)) → MainR H a b L → Q (.obj r) m') :
    wpSs P m_diff_mainBody (fun fl σ' => Q (retV fl) σ'.mem) ⟨[.obj t, .str a, .str b, .bool false, dl].map some ++ List.replicate 4 none, m⟩ := by
  have hsa : sma a.length := by unfold sma; grind
  have hsb : sma b.length := by unfold sma; grind
  show wpSs P _ _ (mnS t a b dl none none none none m)
  unfold m_diff_mainBody
  refine ss_ret fun Q1 n1 r1 => s_ife fun K kt kf => ?_
  walk_at "D"
  refine cmp_none ?_
  rw [if_pos rfl]
  refine cmp_none ?_
  rw [if_pos rfl]
  refine kf _ (ss_nil (n1 _ (ss_ret fun Q2 n2 r2 => s_ife fun K' kt' kf' => ?_)))
  walk_at "D"
  by_cases hab : a = b
  · rw [ decide_eq_true hab ]
    subst hab
    refine kt' _ ?_
    unfold m_diff_mainB1
    refine ss_ret fun Q3 n3 r3 => s_ife fun K2 kt2 kf2 => ?_
    walk_at "D"
    refine ⟨hsa, ?_⟩
    have res := MainR.same (H := H) a
    cases a with
    | nil =>
      refine kf2 _ (ss_nil (n3 _ (ssn ?_)))
      walk_at "D"
      exact fun r hr => r2 _ _ (h _ r [] (Gr.new hr _) hr (ups _ _ _) res)
    | cons x as =>
      refine kt2 _ (ssn ?_)
      walk_at "D"
      exact at_ccZ hT c.cE.1 c.cE.2 fun r hr => r3 _ _ (r2 _ _ (h _ r _ (Gr.new hr _) hr (ups _ _ _) res))
  · rw [ decide_eq_false hab ]
    refine kf' _ (ss_nil (n2 _ (ss_ret fun Q3 n3 r3 => ?_)))
    walk_at "D"
    have hl := lcp_le a b
    have ea : pre b a ++ rn b a ++ su b a = a := split_n b a
    have eb : pre b a ++ ro b a ++ su b a = b := split_o b a
    refine ⟨im_okZ hT c.fp, c.cp hsa hsb (n3 _ (ss_ret fun Q4 n4 r4 => ?_))⟩
    walk_at "D"
    refine ⟨hsa, n4 _ (ss_ret fun Q5 n5 r5 => ?_)⟩
    walk_at "D"
    refine ⟨hsa, n5 _ (ss_ret fun Q6 n6 r6 => ?_)⟩
    walk_at "D"
    refine ⟨hsb, n6 _ (ss_ret fun Q7 n7 r7 => ?_)⟩
    rw [ pySl_to a hl.1, pySl_from a hl.1, pySl_from b hl.2 ]
    show wpS P _ Q7 (mnS t (mn b a) (mo b a) dl (some (.int (lcp a b : Nat))) (some (.str (pre b a))) none none m)
    have hla : sma (mn b a).length := by unfold sma mn; rw [ List.length_drop ]; grind
    have hlb : sma (mo b a).length := by unfold sma mo; rw [ List.length_drop ]; grind
    walk_at "D"
    refine ⟨im_okZ hT c.fs, c.cs hla hlb (n7 _ (ss_ret fun Q8 n8 r8 => s_ife fun K2 kt2 kf2 => ?_))⟩
    walk_at "D"
    have hms := lcs_le (mn b a) (mo b a)
    have rest : ∀ u5, Q8 .next (mnS t (rn b a) (ro b a) dl u5 (some (.str (pre b a))) (some (.str (su b a))) none m) := fun u5 => n8 _ (ss_ret fun Q9 n9 r9 => by
      have l1 := congrArg List.length ea
      have l2 := congrArg List.length eb
      simp only [List.length_append] at l1 l2
      walk_at "D"
      refine ⟨im_okZ hT rfl, hK _ _ _ _ (by grind) ?_ (apart_rr a b) hT fun m1 r L g1 hf h1 hc => n9 _ ?_⟩
      · by_cases q : rn b a = []
        · refine .inr fun q2 => hab ?_
          rw [q] at ea; rw [q2] at eb
          exact ea.symm.trans eb
        · exact .inl q
      · refine mn_end (H := H) c hC (hT.gr g1) (by rw [ ea, eb ]; exact hab) (by rw [ ea, eb ]; unfold pre; rw [ List.length_take, Nat.min_eq_left hl.1 ]) (apart_rr a b) (by rw [ ea, eb ]; exact Nat.le_trans ‹_› ‹_›) h1 hc fun m2 L' hx h2 R => ?_
        rw [ea, eb] at R
        exact h m2 r L' (fun x o e => hx x o (fun q => by subst q; rw [hf] at e; cases e) (g1 x o e)) hf h2 R)
    by_cases c0 : lcs (mn b a) (mo b a) = 0
    · rw [ decide_eq_true (by grind : ((lcs (mn b a) (mo b a) : Nat) : Int) = 0) ]
      refine kt2 _ (ssn ?_)
      walk_at "D"
      have e1 : rn b a = mn b a := by unfold rn ms; rw [ c0 ]; exact List.take_of_length_le (by grind)
      have e2 : ro b a = mo b a := by unfold ro ms; rw [ c0 ]; exact List.take_of_length_le (by grind)
      have e3 : su b a = [] := by unfold su ms; rw [ c0 ]; exact List.drop_of_length_le (by grind)
      have := rest (some (.int (lcs (mn b a) (mo b a) : Nat)))
      rw [ e1, e2, e3 ] at this
      exact this
    · rw [ decide_eq_false (by grind : ¬ ((lcs (mn b a) (mo b a) : Nat) : Int) = 0) ]
      refine kf2 _ ?_
      unfold m_diff_mainB2
      refine ss_ret fun Q9 n9 r9 => ?_
      walk_at "D"
      refine ⟨hla, n9 _ (ss_ret fun Q10 n10 r10 => ?_)⟩
      walk_at "D"
      refine ⟨hla, n10 _ (ssn ?_)⟩
      walk_at "D"
      refine ⟨hlb, ?_⟩
      rw [ pySl_nfrom (by (clear hn hs hl hms; lia)) hms.1, pySl_nto (by grind) hms.1, pySl_nto (by grind) hms.2 ]
      exact rest _
end
inductive DmM (cls : Addr) (H : Tx → Tx → Option HM → Prop) (z : Int) (j : Nat) : String → List V → (V → Mem → Prop) → Mem → Prop
  | cm {f : String} {vs : List V} {Q : V → Mem → Prop} {m : Mem} : cmMeth cls 100 f vs Q m → DmM cls H z j f vs Q m
  | half {t : Addr} {a b : Tx} {Q : V → Mem → Prop} {m : Mem} : a.length + b.length ≤ 41 → a ≠ [] → b ≠ [] → TZ (pcOf cls) z m t → (∀ m', Gr m m' → H a b none → Q .none m') → DmM cls H z j "diff_halfMatch" [.obj t, .str a, .str b] Q m
  | main {t : Addr} {a b : Tx} {dl : V} {Q : V → Mem → Prop} {m : Mem} : TZ (pcOf cls) z m t → a.length + b.length ≤ 40 → 4 * (a.length + b.length) + 4 ≤ j → (∀ m' r L, Gr m m' → m r = none → m' r = some (.list (rv L)) → MainR H a b L → Q (.obj r) m') → DmM cls H z j "diff_main" [.obj t, .str a, .str b, .bool false, dl] Q m
  | comp {t : Addr} {a b : Tx} {dl : V} {Q : V → Mem → Prop} {m : Mem} : TZ (pcOf cls) z m t → a.length + b.length ≤ 40 → 4 * (a.length + b.length) + 3 ≤ j → (a ≠ [] ∨ b ≠ []) → Apart a b → (∀ m' r L, Gr m m' → m r = none → m' r = some (.list (rv L)) → CompR H a b L → Q (.obj r) m') → DmM cls H z j "diff_compute" [.obj t, .str a, .str b, .bool false, dl] Q m
  | bis {t : Addr} {a b : Tx} {dl : V} {Q : V → Mem → Prop} {m : Mem} : TZ (pcOf cls) z m t → a.length + b.length ≤ 40 → 4 * (a.length + b.length) + 2 ≤ j → 2 ≤ dist a b → 4 ≤ a.length + b.length → a ≠ [] → b ≠ [] → (∀ m' r L, Gr m m' → m r = none → m' r = some (.list (rv L)) → (H a b none → NoOcc a b → CompR H a b L) → Q (.obj r) m') → DmM cls H z j "diff_bisect" [.obj t, .str a, .str b, dl] Q m
  | split {t : Addr} {a b : Tx} {dl : V} {Q : V → Mem → Prop} {m : Mem} {x y : Nat} : TZ (pcOf cls) z m t → a.length + b.length ≤ 40 → 4 * (a.length + b.length) + 1 ≤ j → Meet a b x y → (∀ m' r L1 L2, Gr m m' → m r = none → m' r = some (.list (rv (L1 ++ L2))) → MainR H (a.take x) (b.take y) L1 → MainR H (a.drop x) (b.drop y) L2 → Q (.obj r) m') → DmM cls H z j "diff_bisectSplit" [.obj t, .str a, .str b, .int x, .int y, dl] Q m
noncomputable def pcD (cls : Addr) (H : Tx → Tx → Option HM → Prop) (z : Int) (j : Nat) : PC := { pcOf cls with meth := DmM cls H z j }
section
variable {cls : Addr} {H : Tx → Tx → Option HM → Prop} {z : Int} {j : Nat} {t : Addr} {dl : V} {a b : Tx}
theorem pcD_cm (cls : Addr) (H : Tx → Tx → Option HM → Prop) (z : Int) (j : Nat) : Cm (pcD cls H z j) where
  cD := ⟨rfl, rfl⟩
  cI := ⟨rfl, rfl⟩
  cE := ⟨rfl, rfl⟩
  fp := rfl
  fs := rfl
  fm := rfl
  cp := fun h1 h2 q => .cm (.inl ⟨rfl, _, _, _, rfl, h1, h2, q⟩)
  cs := fun h1 h2 q => .cm (.inr (.inl ⟨rfl, _, _, _, rfl, h1, h2, q⟩))
theorem pcD_clean : CleanIs (pcD cls H z j) z t := fun d L m Q hT hm hk hp q =>
  .cm (.inr (.inr ⟨rfl, t, d, L, rfl, hT.tool, hm, hk, hp, by grind, q⟩))
theorem pcD_half : HalfIs (pcD cls H z j) z H t := fun a b m Q h1 ha hb hT q => .half h1 ha hb hT q
theorem pcD_main {n : Nat} (hn : 4 * n + 4 ≤ j) (h40 : n ≤ 40) : MainIs (pcD cls H z j) z H t dl n := fun a b m Q h1 hT q =>
  .main hT (Nat.le_trans h1 h40) (Nat.le_trans (Nat.add_le_add_right (Nat.mul_le_mul_left 4 h1) 4) hn) q
theorem pcD_comp {n : Nat} (hn : 4 * n + 3 ≤ j) (h40 : n ≤ 40) : CompIs (pcD cls H z j) z H t dl n := fun a b m Q h1 h2 hA hT q =>
  .comp hT (Nat.le_trans h1 h40) (Nat.le_trans (Nat.add_le_add_right (Nat.mul_le_mul_left 4 h1) 3) hn) h2 hA q
theorem pcD_bis (hn : 4 * (a.length + b.length) + 2 ≤ j) (h40 : a.length + b.length ≤ 40) (hd : 2 ≤ dist a b) (ha : a ≠ []) (hb : b ≠ []) : BisIs (pcD cls H z j) z H t dl a b := fun h4 m Q hT q =>
  .bis hT h40 hn hd h4 ha hb q
theorem apart_two {a b : Tx} (ha : a ≠ []) (hb : b ≠ []) (A : Apart a b) : 2 ≤ dist a b := by
  obtain ⟨x, as, rfl⟩ := List.exists_cons_of_ne_nil ha
  obtain ⟨y, bs, rfl⟩ := List.exists_cons_of_ne_nil hb
  exact dist_two (A.hd _ _ _ _ rfl rfl) (List.dropLast_concat_getLast ha).symm (List.dropLast_concat_getLast hb).symm (A.tl _ _ _ _ (List.dropLast_concat_getLast ha).symm (List.dropLast_concat_getLast hb).symm)
noncomputable def dmChk (K : Frag) (cls : Addr) (fns meths : List String) : Bool :=
  fnChkD K (meA K cls "diff_main") [.bool true, .none] m_diff_mainPs m_diff_mainRest (locSC m_diff_mainPs m_diff_mainRest m_diff_mainNames fns meths m_diff_mainCells) m_diff_mainBody &&
  fnChk K (meA K cls "diff_compute") m_diff_computePs m_diff_computeRest (locSC m_diff_computePs m_diff_computeRest m_diff_computeNames fns meths m_diff_computeCells) m_diff_computeBody &&
  fnChk K (meA K cls "diff_bisect") m_diff_bisectPs m_diff_bisectRest (locSC m_diff_bisectPs m_diff_bisectRest m_diff_bisectNames fns meths m_diff_bisectCells) m_diff_bisectBody &&
  fnChk K (meA K cls "diff_bisectSplit") m_diff_bisectSplitPs m_diff_bisectSplitRest (locSC m_diff_bisectSplitPs m_diff_bisectSplitRest m_diff_bisectSplitNames fns meths m_diff_bisectSplitCells) m_diff_bisectSplitBody
noncomputable def HalfOk (G : GS) (cls : Addr) (z : Int) (H : Tx → Tx → Option HM → Prop) : Prop := ∀ (A : Around), Lv A 20 → ∀ t a b (Q : V → Mem → Prop) m, a.length + b.length ≤ 41 → a ≠ [] → b ≠ [] → TZ (pcOf cls) z m t →
  (∀ m', Gr m m' → H a b none → Q .none m') → CallS G A (.ref (meA G.K cls "diff_halfMatch")) [.obj t, .str a, .str b] Q m
variable {G : GS} {A : Around} {Q : V → Mem → Prop} {m : Mem}
abbrev DmI (G : GS) (cls : Addr) (H : Tx → Tx → Option HM → Prop) (z : Int) (j : Nat) : Prop := ∀ (A : Around), Lv A (j + 101) → ∀ f vs Q m, DmM cls H z j f vs Q m → CallS G A (.ref (meA G.K cls f)) vs Q m
theorem dm_run (B : Base G (pcOf cls)) (ih : DmI G cls H z j) (lv : Lv A (j + 101 + 1)) (env : Env) : (pcD cls H z j).run G (A.deeper env) :=
  run_mk (B.swap rfl rfl rfl) (fun _ _ _ _ _ h => h.elim) (fun f _ vs Q m hc => ih _ (lv.deeper env) f vs Q m hc) fun _ _ _ _ h => h.elim
theorem dm_main (B : Base G (pcOf cls)) (ih : DmI G cls H z j) (lv : Lv A (j + 101 + 1)) (h1 : fnChkD G.K (meA G.K cls "diff_main") [.bool true, .none] m_diff_mainPs m_diff_mainRest (locSC m_diff_mainPs m_diff_mainRest m_diff_mainNames G.fns G.meths m_diff_mainCells) m_diff_mainBody = true)
    (hT : TZ (pcOf cls) z m t) (hl : a.length + b.length ≤ 40) (e : 4 * (a.length + b.length) + 4 ≤ j + 1) (q : ∀ m' r L, Gr m m' → m r = none → m' r = some (.list (rv L)) → MainR H a b L → Q (.obj r) m') : CallS G A (.ref (meA G.K cls "diff_main")) [.obj t, .str a, .str b, .bool false, dl] Q m := by
  refine (call_fnD (P := pcD cls H z j) (c := 3) (j := 2) B.gok B.gbi h1 lv.room (fun env => (lv.deeper env).rm) (dm_run B ih lv) (fun _ h => h) (fun _ h => h) rfl rfl (Nat.le_refl _) ?_).toS
  exact w_main (n := a.length + b.length) (pcD_cm cls H z j) (pcD_comp (Nat.le_of_succ_le_succ e) hl) pcD_clean hT (Nat.le_refl _) hl q
theorem dm_comp (B : Base G (pcOf cls)) (ih : DmI G cls H z j) (lv : Lv A (j + 101 + 1)) (h2 : fnChk G.K (meA G.K cls "diff_compute") m_diff_computePs m_diff_computeRest (locSC m_diff_computePs m_diff_computeRest m_diff_computeNames G.fns G.meths m_diff_computeCells) m_diff_computeBody = true)
    (hT : TZ (pcOf cls) z m t) (hl : a.length + b.length ≤ 40) (e : 4 * (a.length + b.length) + 3 ≤ j + 1) (hne : a ≠ [] ∨ b ≠ []) (hA : Apart a b) (q : ∀ m' r L, Gr m m' → m r = none → m' r = some (.list (rv L)) → CompR H a b L → Q (.obj r) m') : CallS G A (.ref (meA G.K cls "diff_compute")) [.obj t, .str a, .str b, .bool false, dl] Q m := by
  refine (call_fn (P := pcD cls H z j) B.gok B.gbi h2 lv.room (fun env => (lv.deeper env).rm) (dm_run B ih lv) (fun _ h => h) (fun _ h => h) rfl ?_).toS
  have hp : 0 < a.length + b.length := hne.elim (fun q => Nat.add_pos_left (List.length_pos_iff.mpr q) _) fun q => Nat.add_pos_right _ (List.length_pos_iff.mpr q)
  exact w_compute (n := a.length + b.length - 1) rfl rfl rfl (pcD_main (by lia) (by lia)) pcD_half (fun ha hb => pcD_bis (Nat.le_of_succ_le_succ e) hl (apart_two ha hb hA) ha hb) hT hne (by lia) (by lia) q
theorem dm_bis (B : Base G (pcOf cls)) (ih : DmI G cls H z j) (lv : Lv A (j + 101 + 1)) (h3 : fnChk G.K (meA G.K cls "diff_bisect") m_diff_bisectPs m_diff_bisectRest (locSC m_diff_bisectPs m_diff_bisectRest m_diff_bisectNames G.fns G.meths m_diff_bisectCells) m_diff_bisectBody = true)
    (hT : TZ (pcOf cls) z m t) (hl : a.length + b.length ≤ 40) (e : 4 * (a.length + b.length) + 2 ≤ j + 1) (hd : 2 ≤ dist a b) (h4' : 4 ≤ a.length + b.length) (ha : a ≠ []) (hb : b ≠ []) (q : ∀ m' r L, Gr m m' → m r = none → m' r = some (.list (rv L)) → (H a b none → NoOcc a b → CompR H a b L) → Q (.obj r) m') :
    CallS G A (.ref (meA G.K cls "diff_bisect")) [.obj t, .str a, .str b, dl] Q m := by
  refine (call_fn (P := pcD cls H z j) B.gok B.gbi h3 lv.room (fun env => (lv.deeper env).rm) (dm_run B ih lv) (fun _ h => h) (fun _ h => h) rfl ?_).toS
  have bo := bis_ok hd
  refine w_bisect (P := pcD cls H z j) rfl rfl hT hd (Nat.le_trans hl (by decide)) (by unfold offD; lia) (fun e m' r g1 g2 g3 => q m' r _ g1 g2 g3 fun hH hN => ?_) fun u v m' K e' g1 hk => ?_
  · rw [e] at bo
    exact .none ha hb hN hH e bo
  · rw [e'] at bo
    obtain ⟨x, y, rfl, rfl, hmt⟩ := bo
    exact .split (hT.gr g1) hl (Nat.le_of_succ_le_succ e) hmt fun m'' r L1 L2 g2 hf hr R1 R2 => hk _ _ (q m'' r _ (g1.trans g2) (g1.fresh hf) hr fun hH hN => .bis hN hH e' hmt R1 R2)
theorem dm_split {x y : Nat} (B : Base G (pcOf cls)) (ih : DmI G cls H z j) (lv : Lv A (j + 101 + 1)) (h4 : fnChk G.K (meA G.K cls "diff_bisectSplit") m_diff_bisectSplitPs m_diff_bisectSplitRest (locSC m_diff_bisectSplitPs m_diff_bisectSplitRest m_diff_bisectSplitNames G.fns G.meths m_diff_bisectSplitCells) m_diff_bisectSplitBody = true)
    (hT : TZ (pcOf cls) z m t) (hl : a.length + b.length ≤ 40) (e : 4 * (a.length + b.length) + 1 ≤ j + 1) (hmt : Meet a b x y) (q : ∀ m' r L1 L2, Gr m m' → m r = none → m' r = some (.list (rv (L1 ++ L2))) → MainR H (a.take x) (b.take y) L1 → MainR H (a.drop x) (b.drop y) L2 → Q (.obj r) m') :
    CallS G A (.ref (meA G.K cls "diff_bisectSplit")) [.obj t, .str a, .str b, .int x, .int y, dl] Q m := by
  refine (call_fn (P := pcD cls H z j) B.gok B.gbi h4 lv.room (fun env => (lv.deeper env).rm) (dm_run B ih lv) (fun _ h => h) (fun _ h => h) rfl ?_).toS
  have lo := hmt.lo
  have hi := hmt.hi
  exact w_split (n := a.length + b.length - 1) (pcD_main (by lia) (by lia)) hT hmt (by lia) (by lia) q
theorem dm_step (B : Base G (pcOf cls)) (hc : cmChk G.K cls G.fns G.meths = true) (h : dmChk G.K cls G.fns G.meths = true) (hh : HalfOk G cls z H) (ih : ∀ i, j = i + 1 → DmI G cls H z i) : DmI G cls H z j := by
  obtain ⟨h, h4⟩ := and_e h
  obtain ⟨h, h3⟩ := and_e h
  obtain ⟨h1, h2⟩ := and_e h
  intro A lv f vs Q m hm
  have su : ∀ {n i}, n + (i + 1) ≤ j → ∃ k, j = k + 1 := fun {n i} e => ⟨j - 1, (Nat.succ_pred_eq_of_pos (Nat.lt_of_lt_of_le (Nat.succ_pos _) e)).symm⟩
  have lw : ∀ {k}, j = k + 1 → Lv A (k + 101 + 1) := fun e => lv.less (by subst e; exact Nat.le_of_eq (Nat.add_right_comm _ _ _))
  cases hm with
  | cm hm => exact cm_meth B hc 100 A (lv.less (Nat.le_add_left _ _)) f vs Q m hm
  | half hl ha hb hT q => exact hh A (lv.less (Nat.le_trans (by decide) (Nat.le_add_left _ _))) _ _ _ Q m hl ha hb hT q
  | main hT hl e q => obtain ⟨k, r⟩ := su e; exact dm_main B (ih k r) (lw r) h1 hT hl (r ▸ e) q
  | comp hT hl e hne hA q => obtain ⟨k, r⟩ := su e; exact dm_comp B (ih k r) (lw r) h2 hT hl (r ▸ e) hne hA q
  | bis hT hl e hd h4' ha hb q => obtain ⟨k, r⟩ := su e; exact dm_bis B (ih k r) (lw r) h3 hT hl (r ▸ e) hd h4' ha hb q
  | split hT hl e hmt q => obtain ⟨k, r⟩ := su e; exact dm_split B (ih k r) (lw r) h4 hT hl (r ▸ e) hmt q
theorem dm_meth (B : Base G (pcOf cls)) (hc : cmChk G.K cls G.fns G.meths = true) (h : dmChk G.K cls G.fns G.meths = true) (hh : HalfOk G cls z H) : ∀ (j : Nat), DmI G cls H z j
  | 0 => dm_step B hc h hh fun _ e => nomatch e
  | j + 1 => dm_step B hc h hh fun i e => by cases e; exact dm_meth B hc h hh j
end
noncomputable def m_diff_halfMatchPs : List Str := ["self", "text1", "text2"]
noncomputable def m_diff_halfMatchRest : List Str := ["longtext", "shorttext", "diff_halfMatchI", "hm1", "hm2", "hm", "text1_a", "text1_b", "text2_a", "text2_b", "mid_common"]
noncomputable def m_diff_halfMatchNames : List (Str × NameKind) := [("len", .globalImplicit)]
noncomputable def m_diff_halfMatchCells : List Str := ["self"]
noncomputable def m_diff_halfMatchNo : List Sm := [
    .ife (.cmp (.attr (.var 0) "Diff_Timeout") [.LtE] [.lit (.int 0)]) [
      .ret (.lit .none)] [],
    .junk]
noncomputable def m_diff_text1Ps : List Str := ["self", "diffs"]
noncomputable def m_diff_text1Rest : List Str := ["text", "op", "data"]
noncomputable def m_diff_text1Names : List (Str × NameKind) := []
noncomputable def m_diff_text1Cells : List Str := []
noncomputable def m_diff_text1B1 : List Sm := [
    .ife (.cmp (.var 3) [.NotEq] [.attr (.var 0) "DIFF_INSERT"]) [
      .expr (.me (.var 2) .append [.var 4])] []]
noncomputable def m_diff_text1Body : List Sm := [
    .assign [.var 2] (.list []),
    .fr (.tup [3, 4]) (.var 1) m_diff_text1B1,
    .ret (.me (.lit (.str [])) .join [.var 2])]
noncomputable def m_diff_text2Ps : List Str := ["self", "diffs"]
noncomputable def m_diff_text2Rest : List Str := ["text", "op", "data"]
noncomputable def m_diff_text2Names : List (Str × NameKind) := []
noncomputable def m_diff_text2Cells : List Str := []
noncomputable def m_diff_text2B1 : List Sm := [
    .ife (.cmp (.var 3) [.NotEq] [.attr (.var 0) "DIFF_DELETE"]) [
      .expr (.me (.var 2) .append [.var 4])] []]
noncomputable def m_diff_text2Body : List Sm := [
    .assign [.var 2] (.list []),
    .fr (.tup [3, 4]) (.var 1) m_diff_text2B1,
    .ret (.me (.lit (.str [])) .join [.var 2])]
section
variable {P : PC} {Q : V → Mem → Prop} {t d : Addr} {a b : Tx} {m : Mem} {r : Row} {z : Int}
theorem at_fldZ {K : V → Prop} (h : TZ P z m t) (hf : P.fld "Diff_Timeout" = true) (q : K (.int z)) : wpAttr P m (.obj t) "Diff_Timeout" K := by
  obtain ⟨dd, fs, a, b, _, c⟩ := h
  refine ⟨dd, fs, a, b, ?_⟩
  rw [c]
  exact ⟨hf, q⟩
noncomputable def NoHM : Tx → Tx → Option HM → Prop := fun _ _ r => r = none
theorem noHM_no : NoH NoHM := fun _ _ _ h => nomatch h
theorem w_halfNo (hT : TZ P z m t) (hf : P.fld "Diff_Timeout" = true) (hz : z ≤ 0) (h : Q .none m) :
    wpSs P m_diff_halfMatchNo (fun fl σ' => Q (retV fl) σ'.mem) ⟨[.obj t, .str a, .str b].map some ++ List.replicate 11 none, m⟩ := by
  show wpSs P _ _ ⟨[some (.obj t), some (.str a), some (.str b), none, none, none, none, none, none, none, none, none, none, none], m⟩
  unfold m_diff_halfMatchNo
  refine ss_ret fun Q1 n1 r1 => s_ife fun K kt kf => ?_
  walk_at "D"
  refine at_fldZ hT hf ?_
  refine (show K (decide (z ≤ 0)) _ from ?_)
  rw [decide_eq_true hz]
  refine kt _ (ssn ?_)
  walk_at "D"
  exact r1 _ _ h
noncomputable def pick1 (k : Int) (r : Row) : List Tx := (r.filter fun p => decide (p.1 ≠ k)).map (·.2)
theorem pick1_cons (k : Int) (p : Part) (r : Row) : pick1 k (p :: r) = if p.1 = k then pick1 k r else p.2 :: pick1 k r := by
  unfold pick1
  rw [List.filter_cons]
  by_cases q : p.1 = k
  · rw [if_pos q, if_neg (by simp [q])]
  · rw [if_neg q, if_pos (by simp [q])]; rfl
theorem pick1_side {k : Int} (hk : k = -1 ∨ k = 1) : ∀ {r : Row}, Kinds r → (pick1 k r).flatten = side (-k) r ∧ (pick1 k r).length ≤ r.length ∧ (pick1 k r).flatten.length ≤ phi r
  | [], _ => ⟨rfl, Nat.le_refl _, Nat.zero_le _⟩
  | p :: r, h => by
    obtain ⟨i1, i2, i3⟩ := pick1_side hk h.tail
    rw [pick1_cons, phi_cons]
    unfold side
    by_cases q : p.1 = k
    · rw [if_pos q, if_neg (by rcases hk with e | e <;> grind)]
      exact ⟨i1, Nat.le_succ_of_le i2, by grind⟩
    · rw [if_neg q, if_pos (by rcases h.head with e | e | e <;> rcases hk with e' | e' <;> lia)]
      refine ⟨by rw [List.flatten_cons, i1], by simp only [List.length_cons]; exact Nat.succ_le_succ ‹_›, ?_⟩
      rw [List.flatten_cons, List.length_append]; lia
inductive IT (t d l : Addr) (k : Int) (r : Row) (m1 : Mem) (rest : Row) (σ : St) : Prop
  | mk (pre : Row) (x y : Option V) (m' : Mem) : σ = ⟨[some (.obj t), some (.obj d), some (.obj l), x, y], m'⟩ → r = pre ++ rest → Ext l m1 m' → m' l = some (.list ((pick1 k pre).map V.str)) → m' d = some (.list (rv r)) → IT t d l k r m1 rest σ
theorem w_textN {k : Int} {n : String} (hk : k = -1 ∨ k = 1) (hT : Tool P m t) (hm : m d = some (.list (rv r))) (hK : Kinds r) (hφ : phi r ≤ 1000) (hf : noFld n = true) (hc : P.cc n = some (.int k)) (h : ∀ m', Gr m m' → Q (.str (side (-k) r)) m') :
    wpSs P [.assign [.var 2] (.list []),
    .fr (.tup [3, 4]) (.var 1) [.ife (.cmp (.var 3) [.NotEq] [.attr (.var 0) n]) [
      .expr (.me (.var 2) .append [.var 4])] []],
    .ret (.me (.lit (.str [])) .join [.var 2])] (fun fl σ' => Q (retV fl) σ'.mem) ⟨[V.obj t, .obj d].map some ++ List.replicate 3 none, m⟩ := by
  have hL := llp r
  obtain ⟨p1, p2, p3⟩ := pick1_side hk hK
  show wpSs P _ _ ⟨[some (.obj t), some (.obj d), none, none, none], m⟩
  refine ss_ret fun Q1 n1 r1 => ?_
  walk_at "D"
  intro l hl
  refine n1 _ (ss_ret fun Q2 n2 r2 => ?_)
  have gl := Gr.new hl (.list [])
  have hl1 : upd m l (.list []) l = some (.list ([] : List V)) := ups _ _ _
  generalize hm1 : upd m l (.list []) = m1 at *
  have hd1 : m1 d = some (.list (rv r)) := gl _ _ hm
  have hne : l ≠ d := fun e => by subst e; rw [hm] at hl; exact (Option.some_ne_none _ hl).elim
  simp only [ r_sfr ]
  walk_at "D"
  refine it_row hd1 (by exact Nat.le_trans ‹_› ‹_›) ?_
  refine loop_map pv (IT t d l k r m1)
    (fun l' σ i => ?_) (fun p l' σ i Q3 n3 r3 => ?_) (fun σ i => ?_) r _ ⟨[], none, none, m1, rfl, rfl, .refl _ _, hl1, hd1⟩
  · obtain ⟨pre, x, y, m', rfl, _, _, _, hd⟩ := i
    exact hd
  · obtain ⟨pre, x, y, m', rfl, e, hx, h1, hd⟩ := i
    have hT' : Tool P m' t := (hT.gr gl).ext ⟨_, hl1⟩ hx
    obtain ⟨j, u⟩ := p
    have e2 : r = (pre ++ [(j, u)]) ++ l' := by rw [e]; simp
    have ep : pick1 k (pre ++ [(j, u)]) = pick1 k pre ++ if j = k then [] else [u] := by
      unfold pick1
      rw [List.filter_append, List.map_append]
      congr 1
      by_cases q : j = k
      · rw [if_pos q]; simp [q]
      · rw [if_neg q]; simp [q]
    refine ⟨rfl, ?_⟩
    show wpSs P _ Q3 ⟨[some (.obj t), some (.obj d), some (.obj l), some (.int j), some (.str u)], m'⟩
    refine ssn (s_ife fun K kt kf => ?_)
    walk_at "D"
    refine at_cc hT' hf hc ?_
    by_cases q : j = k
    · subst q
      refine (show K (!decide (j = j)) _ from ?_)
      rw [decide_eq_true rfl]
      refine kf _ (ss_nil (n3 _ ⟨pre ++ [(j, u)], _, _, m', rfl, e2, hx, ?_, hd⟩))
      rw [ep, if_pos rfl, List.append_nil]; exact h1
    · refine (show K (!decide (j = k)) _ from ?_)
      rw [decide_eq_false q]
      refine kt _ (ssn ?_)
      walk_at "D"
      have ll : (pick1 k pre).length ≤ pre.length := by unfold pick1; rw [List.length_map]; exact List.length_filter_le _ _
      have l2 := congrArg List.length e
      rw [List.length_append] at l2
      refine ⟨⟨_, h1⟩, _, h1, by rw [List.length_map]; unfold sma; grind, n3 _ ⟨pre ++ [(j, u)], _, _, _, rfl, e2, hx.trans (.upd _ _ _), ?_, ?_⟩⟩
      · rw [ups, ep, if_neg q, List.map_append]; rfl
      · rw [upn _ _ (Ne.symm hne)]; exact hd
  · obtain ⟨pre, x, y, m', rfl, e, hx, h1, hd⟩ := i
    rw [List.append_nil] at e
    subst e
    refine n2 _ (ssn ?_)
    walk_at "D"
    refine ⟨trivial, rfl, pick1 k r, h1, by lia, by lia, ?_⟩
    rw [p1]
    exact h m' fun x o e => hx x o (fun q => by subst q; rw [hl] at e; exact (Option.some_ne_none _ e.symm).elim) (gl x o e)
theorem w_text1 (hI : P.cc "DIFF_INSERT" = some (.int 1)) (hT : Tool P m t) (hm : m d = some (.list (rv r))) (hK : Kinds r) (hφ : phi r ≤ 1000) (h : ∀ m', Gr m m' → Q (.str (side (-1) r)) m') :
    wpSs P m_diff_text1Body (fun fl σ' => Q (retV fl) σ'.mem) ⟨[V.obj t, .obj d].map some ++ List.replicate 3 none, m⟩ :=
  w_textN (.inr rfl) hT hm hK hφ rfl hI h
theorem w_text2 (hD : P.cc "DIFF_DELETE" = some (.int (-1))) (hT : Tool P m t) (hm : m d = some (.list (rv r))) (hK : Kinds r) (hφ : phi r ≤ 1000) (h : ∀ m', Gr m m' → Q (.str (side 1 r)) m') :
    wpSs P m_diff_text2Body (fun fl σ' => Q (retV fl) σ'.mem) ⟨[V.obj t, .obj d].map some ++ List.replicate 3 none, m⟩ :=
  w_textN (k := -1) (.inl rfl) hT hm hK hφ rfl hD h
end
noncomputable def lawMeth (cls : Addr) (H : Tx → Tx → Option HM → Prop) (z : Int) (f : String) (vs : List V) (Q : V → Mem → Prop) (m : Mem) : Prop :=
  cmMeth cls 100 f vs Q m ∨
  (∃ t a b, f = "diff_main" ∧ vs = [.obj t, .str a, .str b, .bool false] ∧ TZ (pcOf cls) z m t ∧ a.length + b.length ≤ 40 ∧ ∀ m' r L, Gr m m' → m r = none → m' r = some (.list (rv L)) → MainR H a b L → Q (.obj r) m') ∨
  (∃ t d r, f = "diff_text1" ∧ vs = [.obj t, .obj d] ∧ Tool (pcOf cls) m t ∧ m d = some (.list (rv r)) ∧ Kinds r ∧ phi r ≤ 1000 ∧ ∀ m', Gr m m' → Q (.str (side (-1) r)) m') ∨
  (∃ t d r, f = "diff_text2" ∧ vs = [.obj t, .obj d] ∧ Tool (pcOf cls) m t ∧ m d = some (.list (rv r)) ∧ Kinds r ∧ phi r ≤ 1000 ∧ ∀ m', Gr m m' → Q (.str (side 1 r)) m')
noncomputable def txChk (K : Frag) (cls : Addr) (fns meths : List String) : Bool :=
  fnChk K (meA K cls "diff_text1") m_diff_text1Ps m_diff_text1Rest (locSC m_diff_text1Ps m_diff_text1Rest m_diff_text1Names fns meths m_diff_text1Cells) m_diff_text1Body &&
  fnChk K (meA K cls "diff_text2") m_diff_text2Ps m_diff_text2Rest (locSC m_diff_text2Ps m_diff_text2Rest m_diff_text2Names fns meths m_diff_text2Cells) m_diff_text2Body
theorem law_meth {G : GS} {cls : Addr} {H : Tx → Tx → Option HM → Prop} {z : Int} (B : Base G (pcOf cls)) (hc : cmChk G.K cls G.fns G.meths = true) (hd : dmChk G.K cls G.fns G.meths = true) (ht : txChk G.K cls G.fns G.meths = true) (hh : HalfOk G cls z H) {A : Around} (lv : Lv A 300) :
    ∀ f vs Q m, lawMeth cls H z f vs Q m → CallS G A (.ref (meA G.K cls f)) vs Q m := by
  intro f vs Q m h
  unfold txChk at ht
  simp only [Bool.and_eq_true] at ht
  have lv1 : Lv A ((164 + 101) + 1) := lv.less (by exact Nat.le_add_left ..)
  rcases h with h | ⟨t, a, b, rfl, rfl, hT, hl, q⟩ | ⟨t, d, r, rfl, rfl, hT, hm, hK, hp, q⟩ | ⟨t, d, r, rfl, rfl, hT, hm, hK, hp, q⟩
  · exact cm_meth B hc 100 A (lv.less (by exact Nat.le_add_left ..)) f vs Q m h
  · have hd' := hd
    unfold dmChk at hd'
    simp only [Bool.and_eq_true] at hd'
    have run : ∀ env, (pcD cls H z 164).run G (A.deeper env) := fun env => run_mk (B.swap rfl rfl rfl) (fun _ _ _ _ _ h => h.elim) (fun f _ vs Q m hc' => dm_meth B hc hd hh 164 _ (lv1.deeper env) f vs Q m hc') (fun _ _ _ _ h => h.elim)
    refine (call_fnD (P := pcD cls H z 164) (c := 3) (j := 1) B.gok B.gbi hd'.1.1.1 lv.room (fun env => (lv1.deeper env).rm) run (fun _ h => h) (fun _ h => h) rfl rfl (by decide) ?_).toS
    exact w_main (n := a.length + b.length) (pcD_cm cls H z 164) (pcD_comp (by grind) hl) pcD_clean hT (Nat.le_refl _) hl q
  · exact (call_fn B.gok B.gbi ht.1 lv.room (fun env => (lv1.deeper env).rm) (fun env => run0 B) (fun _ h => h) (fun _ h => h) rfl (w_text1 rfl hT hm hK hp q)).toS
  · exact (call_fn B.gok B.gbi ht.2 lv.room (fun env => (lv1.deeper env).rm) (fun env => run0 B) (fun _ h => h) (fun _ h => h) rfl (w_text2 rfl hT hm hK hp q)).toS
theorem half_no {G : GS} {cls : Addr} {z : Int} (B : Base G (pcOf cls)) (hz : z ≤ 0) (h : fnChk G.K (meA G.K cls "diff_halfMatch") m_diff_halfMatchPs m_diff_halfMatchRest (locSC m_diff_halfMatchPs m_diff_halfMatchRest m_diff_halfMatchNames G.fns G.meths m_diff_halfMatchCells) m_diff_halfMatchNo = true) : HalfOk G cls z NoHM := fun A lv t a b Q m hl ha hb hT q => by
  have lv1 : Lv A (19 + 1) := lv
  exact (call_fn B.gok B.gbi h lv.room (fun env => (lv1.deeper env).rm) (fun env => run0 B) (fun _ h => h) (fun _ h => h) rfl (w_halfNo hT rfl hz (q m (.refl _) rfl))).toS
section
variable {P : PC} {K : V → St → Prop} {m : Mem} {d : Addr} {R0 : Row} {i : Nat} {L : List (Option V)}
theorem cut_in {k t : V} {g : Mem → Prop} (hg : g m) {R : List V → St → Prop} : ∀ (x : Tx) (us : List V) (z : Option V), (∀ z, R (us ++ x.map fun c => .tup [k, .str [c]]) ⟨[some k, some t, z], m⟩) →
    wpComp (bindIs true [2]) (fun k σ => k true σ) (wpE P (.tup [.var 0, .var 2])) g R (x.map fun c => .str [c]) us ⟨[some k, some t, z], m⟩
  | [], us, z, h => ⟨hg, by have := h z; rwa [List.map_nil, List.append_nil] at this⟩
  | c :: x, us, z, h => by
    refine ⟨hg, ?_⟩
    show wpComp _ _ _ _ _ _ (us ++ [.tup [k, .str [c]]]) ⟨[some k, some t, some (.str [c])], m⟩
    exact cut_in hg x _ _ fun z => by rw [List.append_assoc]; exact h z
theorem cut_go (hm : m d = some (.list (rv R0))) {RR : List V → St → Prop} : ∀ (R : Row) (us : List V) (x y z : Option V), us.length + phi R ≤ 1000 → (∀ x y z, RR (us ++ rv (cut R)) ⟨[x, y, z], m⟩) →
    wpComp2 (bindIs false [0, 1]) (wpE P (.var 1)) (bindIs true [2]) (fun k σ => k true σ) (wpE P (.tup [.var 0, .var 2])) (fun m' => m' d = some (.list (rv R0))) RR (rv R) us ⟨[x, y, z], m⟩
  | [], us, x, y, z, _, h => ⟨hm, by have := h x y z; rwa [show us ++ rv (cut []) = us from List.append_nil us] at this⟩
  | (k, t) :: R, us, x, y, z, hs, h => by
    rw [phi_cons] at hs
    replace hs : us.length + (t.length + 1 + phi R) ≤ 1000 := hs
    refine ⟨hm, rfl, ?_⟩
    dsimp only [r_var, St.setAll, St.set, List.set_cons_succ, List.set_cons_zero, List.getElem?_cons_succ, List.getElem?_cons_zero, it_str]
    refine ⟨by unfold sma; grind, by rw [List.length_map]; unfold sma; grind, ?_⟩
    refine cut_in (k := .int k) (t := .str t) trivial t us z fun z => ?_
    refine cut_go hm R _ _ _ _ (by simp only [List.length_append, List.length_map]; lia) fun x y z => ?_
    have e : us ++ (t.map fun c => V.tup [.int k, .str [c]]) ++ rv (cut R) = us ++ rv (cut ((k, t) :: R)) := by
      rw [cut_cons, List.append_assoc, ← rv_app]
      unfold rv
      rw [List.map_map]; rfl
    rw [e]
    exact h x y z
theorem comp_cut (hm : m d = some (.list (rv R0))) (hs : phi R0 ≤ 900) (hL : L[i]? = some (some (.obj d))) (h : ∀ c, m c = none → K (.obj c) ⟨L, upd m c (.list (rv (cut R0)))⟩) :
    wpE P (.comp2 (.tup [.var 0, .var 2]) false [0, 1] (.var i) (.var 1) 2 3 []) K ⟨L, m⟩ := by
  have hl := llp R0
  rw [r_comp2, r_var]
  show match L[i]? with | some (some v) => _ | _ => False
  rw [hL]
  refine it_row hm (by lia) ⟨by rw [rv_len]; unfold sma; lia, ?_⟩
  exact cut_go hm R0 [] none none none (by simp only [List.length_nil]; lia) fun x y z => h
theorem lookF_set {n n' : String} {v : V} : ∀ {fs : List (Str × V)}, lookF n' (setF n v fs) = if Str.ofString n = Str.ofString n' then some v else lookF n' fs
  | [] => by
    unfold setF lookF
    split <;> rfl
  | (x, u) :: r => by
    unfold setF
    by_cases q : x = Str.ofString n
    · rw [if_pos q]
      unfold lookF
      rw [q]
      by_cases z : Str.ofString n = Str.ofString n'
      · rw [if_pos z, if_pos z]
      · rw [if_neg z, if_neg z, if_neg z]
    · rw [if_neg q]
      unfold lookF
      rw [lookF_set]
      by_cases z : x = Str.ofString n'
      · rw [if_pos z, if_pos z, if_neg fun w => q (z.trans w.symm)]
      · rw [if_neg z, if_neg z]
end
theorem pySt_map {α β : Type} (f : α → β) (xs : List α) (lo hi st : Option Int) : pySt (xs.map f) lo hi st = (pySt xs lo hi st).map f := by
  cases st with
  | none => exact pySl_map f xs lo hi
  | some k =>
    unfold pySt
    rw [List.length_map, List.map_filterMap]
    refine congrArg (fun g => List.filterMap g _) (funext fun i => ?_)
    rw [List.getElem?_map]
theorem pySt_len {α : Type} (xs : List α) (a : Nat) (hi : Option Int) (k : Nat) (hk : 0 < k) (hh : ∀ b, hi = some b → 0 ≤ b) : (pySt xs (some (a : Int)) hi (some (k : Int))).length * k ≤ xs.length + (k - 1) := by
  have e3 : (sliceBounds (some (a : Int)) hi (some (k : Int)) xs.length).2.2 = k := rfl
  have e1 : 0 ≤ (sliceBounds (some (a : Int)) hi (some (k : Int)) xs.length).1 := by
    unfold sliceBounds
    simp only [Option.getD_some]
    rw [if_pos (by exact Int.ofNat_lt.mpr ‹_› : (k : Int) > 0)]
    (clear hk e3; omega)
  have e2 : (sliceBounds (some (a : Int)) hi (some (k : Int)) xs.length).2.1 ≤ xs.length := by
    unfold sliceBounds
    simp only [Option.getD_some]
    cases hi with
    | none => simp only []; rw [if_pos (by grind : (k : Int) > 0)]; grind
    | some b =>
      have := hh b rfl
      simp only []
      rw [if_neg (by lia : ¬ b < 0), if_pos (by grind : (k : Int) > 0)]
      lia
  unfold pySt
  refine Nat.le_trans (Nat.mul_le_mul_right _ (List.length_filterMap_le ..)) ?_
  unfold sliceRange
  rw [e3, List.length_map, List.length_range, if_pos (by grind : (k : Int) > 0)]
  generalize (sliceBounds (some (a : Int)) hi (some (k : Int)) xs.length).1 = s at *
  generalize (sliceBounds (some (a : Int)) hi (some (k : Int)) xs.length).2.1 = e at *
  split
  · have h1 : (e - s + (k : Int) - 1) / (k : Int) * (k : Int) ≤ e - s + k - 1 := Int.ediv_mul_le _ (by grind)
    have h2 : 0 ≤ (e - s + (k : Int) - 1) / (k : Int) := Int.ediv_nonneg (by (clear hk e1 e2 h1; lia)) (by (clear hk; lia))
    have h3 : ((((e - s + (k : Int) - 1) / (k : Int)).toNat * k : Nat) : Int) = (e - s + (k : Int) - 1) / (k : Int) * (k : Int) := by
      rw [Int.natCast_mul, Int.toNat_of_nonneg h2]
    (clear e3 h2; omega)
  · simp
structure Co (f : Nat → Nat → Nat) : Prop where
  z : f 0 0 = 0
  m : ∀ {a b c d}, a ≤ c → b ≤ d → f a b ≤ f c d
  s : ∀ a b c d, f (a + c) (b + d) ≤ f a b + f c d
theorem co_max : Co max := ⟨rfl, fun h k => by omega, fun a b c d => by omega⟩
theorem co_add : Co (· + ·) := ⟨rfl, fun h k => Nat.add_le_add h k, fun a b c d => by omega⟩
noncomputable def lev (f : Nat → Nat → Nat) (d i : Nat) : Row → Nat
  | [] => f d i
  | p :: r => if p.1 = 1 then lev f d (i + p.2.length) r else if p.1 = -1 then lev f (d + p.2.length) i r else f d i + lev f 0 0 r
section
variable {f : Nat → Nat → Nat} (F : Co f)
theorem lev_c {d i : Nat} {p : Part} {r : Row} : lev f d i (p :: r) = if p.1 = 1 then lev f d (i + p.2.length) r else if p.1 = -1 then lev f (d + p.2.length) i r else f d i + lev f 0 0 r := rfl
theorem lev_i {d i : Nat} {t : Tx} {r : Row} : lev f d i ((1, t) :: r) = lev f d (i + t.length) r := if_pos rfl
theorem lev_d {d i : Nat} {t : Tx} {r : Row} : lev f d i ((-1, t) :: r) = lev f (d + t.length) i r := (if_neg (show ¬ (-1 : Int) = 1 by decide)).trans (if_pos rfl)
theorem lev_k {d i : Nat} {t : Tx} {r : Row} : lev f d i ((0, t) :: r) = f d i + lev f 0 0 r := (if_neg (show ¬ (0 : Int) = 1 by decide)).trans (if_neg (show ¬ (0 : Int) = -1 by decide))
include F
theorem lev_sub (x y : Nat) : ∀ (r : Row) (d i : Nat), lev f (d + x) (i + y) r ≤ f x y + lev f d i r
  | [], d, i => by show f _ _ ≤ _ + f _ _; rw [Nat.add_comm (f x y)]; exact F.s d i x y
  | p :: r, d, i => by
    unfold lev
    split
    · rw [Nat.add_right_comm]; exact lev_sub x y r _ _
    · split
      · rw [Nat.add_right_comm]; exact lev_sub x y r _ _
      · have := F.s d i x y; omega
theorem lev_mono : ∀ (r : Row) {d i d' i' : Nat}, d ≤ d' → i ≤ i' → lev f d i r ≤ lev f d' i' r
  | [], _, _, _, _, h, k => F.m h k
  | p :: r, _, _, _, _, h, k => by
    unfold lev
    split
    · exact lev_mono r h (Nat.add_le_add_right k _)
    · split
      · exact lev_mono r (Nat.add_le_add_right h _) k
      · exact Nat.add_le_add_right (F.m h k) _
theorem lev_cut (X : Row) (u : Tx) : ∀ (A : Row) (d i : Nat), lev f d i (A ++ (0, u) :: X) = lev f d i (A ++ [((0 : Int), ([] : Tx))]) + lev f 0 0 X
  | [], d, i => by
    show lev f d i ((0, u) :: X) = lev f d i [(0, [])] + _
    rw [lev_k, lev_k, show lev f 0 0 [] = 0 from F.z]; rfl
  | p :: A, d, i => by
    show lev f d i (p :: (A ++ (0, u) :: X)) = lev f d i (p :: (A ++ [(0, [])])) + _
    rw [lev_c, lev_c]
    split
    · exact lev_cut X u A _ _
    · split
      · exact lev_cut X u A _ _
      · rw [lev_cut X u A, Nat.add_assoc]
theorem lev_dn {A : Row} (h : Dn A) (X : Row) : lev f 0 0 (A ++ X) = lev f 0 0 A + lev f 0 0 X := by
  rcases h with rfl | ⟨dn, u, rfl⟩
  · rw [show lev f 0 0 [] = 0 from F.z, Nat.zero_add]; rfl
  · rw [List.append_assoc]
    show lev f 0 0 (dn ++ (0, u) :: X) = _
    rw [lev_cut F X u, lev_cut F [] u, show lev f 0 0 [] = 0 from F.z]; rfl
theorem lev_addLast {A : Row} (h : Dn A) (x : Tx) : lev f 0 0 (addLast A x) = lev f 0 0 A := by
  rcases h with rfl | ⟨dn, u, rfl⟩
  · show lev f 0 0 [(0, x)] = _
    rw [lev_k, F.z]; exact Nat.zero_add _
  · rw [addLast_cat, lev_cut F [] (u ++ x), lev_cut F [] u]
theorem lev_run (X : Row) (t : Tx) : ∀ (A : Row) (d i : Nat), Run A → lev f d i (A ++ (0, t) :: X) = f (d + (cat (-1) A).length) (i + (cat 1 A).length) + lev f 0 0 X
  | [], d, i, _ => lev_k
  | (k, u) :: A, d, i, h => by
    have ih := lev_run X t A
    have hA : Run A := fun q hq => h q (List.mem_cons_of_mem _ hq)
    rcases h _ List.mem_cons_self with rfl | rfl
    · show lev f d i ((-1, u) :: (A ++ (0, t) :: X)) = _
      rw [lev_d, ih _ _ hA, cat_cons, cat_cons, if_pos rfl, if_neg (by decide : ¬ (-1 : Int) = 1), List.length_append, Nat.add_assoc]; rfl
    · show lev f d i ((1, u) :: (A ++ (0, t) :: X)) = _
      rw [lev_i, ih _ _ hA, cat_cons, cat_cons, if_neg (by decide : ¬ (1 : Int) = -1), if_pos rfl, List.nil_append, List.length_append, Nat.add_assoc]
theorem lev_ops (o n t : Tx) (X : Row) : lev f 0 0 (ops o n ++ (0, t) :: X) = f o.length n.length + lev f 0 0 X := by
  have e : Run (ops o n) ∧ cat (-1) (ops o n) = o ∧ cat 1 (ops o n) = n := by
    unfold ops
    by_cases h : o = [] <;> by_cases k : n = [] <;> simp [h, k, Run, cat]
  rw [lev_run F X t _ _ _ e.1, e.2.1, e.2.2, Nat.zero_add, Nat.zero_add]
theorem lev_trim {A : Row} (h : Dn A) {o n o' n' : Tx} (ho : o.length ≤ o'.length) (hn : n.length ≤ n'.length) (t : Tx) (p : Tx) (X : Row) : lev f 0 0 (addPre A p ++ (ops o n ++ (0, t) :: X)) ≤ lev f 0 0 A + (f o'.length n'.length + lev f 0 0 X) := by
  have d : Dn (addPre A p) ∧ lev f 0 0 (addPre A p) = lev f 0 0 A := by
    unfold addPre
    split
    · exact ⟨h, rfl⟩
    · exact ⟨.inr (addLast_dn h p), lev_addLast F h p⟩
  rw [lev_dn F d.1, d.2, lev_ops F]
  exact Nat.add_le_add_left (Nat.add_le_add_right (F.m ho hn) _) _
theorem lev_eqStep {A run : Row} (h : Dn A) (hr : Run run) (t : Tx) (X : Row) : lev f 0 0 (eqStep A run t ++ X) ≤ lev f 0 0 (A ++ (run ++ (0, t) :: X)) := by
  rw [lev_dn F h, lev_run F X t run 0 0 hr, Nat.zero_add, Nat.zero_add]
  unfold eqStep
  split
  · unfold endR trimR
    split
    · rw [trim_eq]
      dsimp only
      rw [List.append_assoc, List.append_assoc]
      refine lev_trim F h ?_ ?_ _ _ X
      · unfold ro mo; simp only [List.length_take, List.length_drop]; omega
      · unfold rn mn; simp only [List.length_take, List.length_drop]; omega
    · rw [List.append_assoc, List.append_assoc, lev_dn F h]
      refine Nat.le_of_eq ?_
      show _ + lev f 0 0 (ops (cat (-1) run) (cat 1 run) ++ (0, t) :: X) = _
      rw [lev_ops F]
  · split
    · rename_i q
      rw [lev_dn F (.inr (addLast_dn h t)), lev_addLast F h, q.1]
      exact Nat.add_le_add_left (Nat.le_add_left _ _) _
    · rw [List.append_assoc, List.append_assoc, lev_dn F h]
      show _ + lev f 0 0 (run ++ (0, t) :: X) ≤ _
      rw [lev_run F X t run 0 0 hr, Nat.zero_add, Nat.zero_add]
      exact Nat.le_refl _
theorem lev_mergeGo : ∀ (todo A run : Row), Dn A → Run run → Kinds todo → lev f 0 0 (mergeGo A run todo) ≤ lev f 0 0 (A ++ (run ++ todo))
  | [], A, run, _, _, _ => by rw [mergeGo, List.append_nil]; exact Nat.le_refl _
  | (k, t) :: r, A, run, h, hr, hk => by
    rw [mergeGo]
    split
    · rename_i q
      subst q
      exact Nat.le_trans (lev_mergeGo r _ [] (.inr (eqStep_dn h t)) .nil hk.tail) (lev_eqStep F h hr t r)
    · rename_i q
      have := lev_mergeGo r A (run ++ [(k, t)]) h (hr.snoc (kind_run hk.head q)) hk.tail
      rwa [List.append_assoc] at this
theorem lev_popE : ∀ (r : Row) (d i : Nat), Kinds r → lev f d i (popE r) = lev f d i r
  | [], _, _, _ => rfl
  | [(k, t)], d, i, h => by
    unfold popE
    split
    · rename_i e
      obtain rfl : t = [] := e
      rcases h.head with e | e | e <;> (replace e : k = _ := e; subst e)
      · rw [lev_d]; rfl
      · rw [lev_k, show lev f 0 0 [] = 0 from F.z]; rfl
      · rw [lev_i]; rfl
    · rfl
  | p :: q :: r, d, i, h => by
    show lev f d i (p :: popE (q :: r)) = lev f d i (p :: q :: r)
    rw [lev, lev]
    simp only [lev_popE (q :: r) _ _ h.tail]
theorem lev_slide (r : Row) (hK : Kinds r) : lev f 0 0 (slide r).1 ≤ lev f 0 0 r := by
  refine slide_ind (M := fun r x => Kinds r → lev f 0 0 x.1 ≤ lev f 0 0 r) (fun _ => Nat.le_refl _) (fun r a h => slideGo_ind (M := fun a r x => Kinds (a :: r) → ∀ d i, lev f d i x.1 ≤ lev f d i (a :: r)) (fun _ _ _ _ => Nat.le_refl _) (fun _ _ _ _ _ => Nat.le_refl _) ?_ ?_ ?_ r a h 0 0) r hK
  · rintro ⟨ka, x⟩ ⟨j, y⟩ ⟨kc, z⟩ C X h0 h1 h ih hk d i
    dsimp only at h0 h1 h ih ⊢
    subst h0; subst h1
    obtain ⟨w, rfl⟩ := ends_iff.mp h
    have ih := fun d i => ih (.cons (.inr (.inl rfl)) hk.tail.tail.tail) d i
    simp only [lev_k] at ih
    rw [List.length_append (as := w), Nat.add_sub_cancel, List.take_left' rfl]
    rcases hk.tail.head with e | e | e <;> (replace e : j = _ := e; subst e)
    · rw [lev_d, lev_k, lev_d, lev_k]
      refine Nat.le_trans (ih _ _) ?_
      have := F.s d i (x ++ w).length 0
      simp only [List.length_append, Nat.add_zero, Nat.zero_add] at this ⊢
      rw [Nat.add_comm w.length]; omega
    · rw [lev_k, lev_k, lev_k, lev_k, F.z]
      have := ih 0 0
      rw [F.z] at this
      omega
    · rw [lev_i, lev_k, lev_i, lev_k]
      refine Nat.le_trans (ih _ _) ?_
      have := F.s d i 0 (x ++ w).length
      simp only [List.length_append, Nat.add_zero, Nat.zero_add] at this ⊢
      rw [Nat.add_comm w.length]; omega
  · rintro ⟨ka, x⟩ ⟨j, y⟩ ⟨kc, z⟩ C X h0 h1 h ih hk d i
    dsimp only at h0 h1 h ih ⊢
    subst h0; subst h1
    obtain ⟨w, rfl⟩ := starts_iff.mp h
    rw [List.drop_left' rfl] at ih
    rw [lev_k, lev_k]
    refine Nat.add_le_add_left ?_ _
    have hk2 : Kinds ((j, w ++ z) :: C) := .cons hk.tail.head hk.tail.tail.tail
    refine Nat.le_trans (ih hk2 0 0) ?_
    rcases hk.tail.head with e | e | e <;> (replace e : j = _ := e; subst e)
    · rw [lev_d, lev_d, lev_k]
      have := lev_sub F (z ++ w).length 0 C 0 0
      simp only [List.length_append, Nat.add_zero, Nat.zero_add] at this ⊢
      rw [Nat.add_comm w.length]; exact this
    · rw [lev_k, lev_k, lev_k]; exact Nat.add_le_add_left (Nat.le_add_left _ _) _
    · rw [lev_i, lev_i, lev_k]
      have := lev_sub F 0 (z ++ w).length C 0 0
      simp only [List.length_append, Nat.add_zero, Nat.zero_add] at this ⊢
      rw [Nat.add_comm w.length]; exact this
  · rintro a b c C X ih hk d i
    have ih := ih hk.tail
    show lev f d i (a :: _) ≤ _
    rw [lev, lev]
    split
    · exact ih _ _
    · split
      · exact ih _ _
      · exact Nat.add_le_add_left (ih _ _) _
theorem lev_clean : ∀ (n : Nat) (r : Row), Kinds r → lev f 0 0 (cleanN n r) ≤ lev f 0 0 r
  | 0, r, _ => Nat.le_refl _
  | n + 1, r, hK => by
    have z : Kinds (r ++ [((0 : Int), ([] : Tx))]) := hK.append (.cons (.inr (.inl rfl)) .nil)
    have hk : Kinds (merge r) := kinds_mergeGo _ _ _ .nil .nil z
    have hp := kinds_popE _ hk
    have h1 : lev f 0 0 (popE (merge r)) ≤ lev f 0 0 r := by
      rw [lev_popE F _ _ _ hk]
      refine Nat.le_trans (lev_mergeGo F _ [] [] (.inl rfl) .nil z) (Nat.le_of_eq ?_)
      have := lev_popE F (r ++ [((0 : Int), ([] : Tx))]) 0 0 z
      rw [popE_cat, if_pos rfl] at this
      exact this.symm
    have h2 := Nat.le_trans (lev_slide F _ hp) h1
    rw [cleanN]
    split
    · exact Nat.le_trans (lev_clean n _ (kinds_slide hp)) h2
    · exact h2
end
theorem lev_turned : ∀ (r : Row) (d i : Nat), Kinds r → lev (· + ·) d i r = d + i + turned r
  | [], d, i, _ => rfl
  | (k, t) :: r, d, i, h => by
    have ih := fun d i => lev_turned r d i h.tail
    unfold turned
    rcases h.head with e | e | e <;> (replace e : k = _ := e; subst e)
    · rw [lev_d, ih, if_neg (by decide : ¬ (-1 : Int) = 0)]; dsimp only; omega
    · rw [lev_k, ih, if_pos rfl, Nat.zero_add]
    · rw [lev_i, ih, if_neg (by decide : ¬ (1 : Int) = 0)]; dsimp only; omega
noncomputable def ldC (x : Char) (g : Tx → Nat) : Tx → Nat
  | [] => g [] + 1
  | y :: b => min (min (if y = x then g b else g b + 1) (g (y :: b) + 1)) (ldC x g b + 1)
noncomputable def ld : Tx → Tx → Nat
  | [], b => b.length
  | x :: a, b => ldC x (ld a) b
theorem ld_two (x y : Char) (a b : Tx) : ld (x :: a) (y :: b) = min (min (if y = x then ld a b else ld a b + 1) (ld a (y :: b) + 1)) (ld (x :: a) b + 1) := rfl
inductive Le : Nat → Tx → Tx → Prop
  | nil : Le 0 [] []
  | eq {d : Nat} {a b : Tx} (c : Char) : Le d a b → Le d (c :: a) (c :: b)
  | sub {d : Nat} {a b : Tx} (x y : Char) : Le d a b → Le (d + 1) (x :: a) (y :: b)
  | del {d : Nat} {a b : Tx} (x : Char) : Le d a b → Le (d + 1) (x :: a) b
  | ins {d : Nat} {a b : Tx} (y : Char) : Le d a b → Le (d + 1) a (y :: b)
theorem Le.append {d e : Nat} {a b u v : Tx} (h : Le d a b) (k : Le e u v) : Le (d + e) (a ++ u) (b ++ v) := by
  induction h with
  | nil => rw [Nat.zero_add]; exact k
  | eq c _ ih => exact .eq c ih
  | sub x y _ ih => rw [Nat.add_right_comm]; exact .sub x y ih
  | del x _ ih => rw [Nat.add_right_comm]; exact .del x ih
  | ins y _ ih => rw [Nat.add_right_comm]; exact .ins y ih
theorem Le.rev {d : Nat} {a b : Tx} (h : Le d a b) : Le d a.reverse b.reverse := by
  induction h with
  | nil => exact .nil
  | eq c _ ih => rw [List.reverse_cons, List.reverse_cons]; exact ih.append (.eq c .nil)
  | sub x y _ ih => rw [List.reverse_cons, List.reverse_cons]; exact ih.append (.sub x y .nil)
  | del x _ ih => have := ih.append (.del x .nil); rwa [List.append_nil, ← List.reverse_cons] at this
  | ins y _ ih => have := ih.append (.ins y .nil); rwa [List.append_nil, ← List.reverse_cons] at this
theorem ld_le {d : Nat} {a b : Tx} (h : Le d a b) : ld a b ≤ d := by
  induction h with
  | nil => exact Nat.le_refl _
  | eq c _ ih => rw [ld_two, if_pos rfl]; exact Nat.le_trans (Nat.min_le_left _ _) (Nat.le_trans (Nat.min_le_left _ _) ih)
  | sub x y _ ih =>
    rw [ld_two]
    refine Nat.le_trans (Nat.min_le_left _ _) (Nat.le_trans (Nat.min_le_left _ _) ?_)
    split
    · exact Nat.le_succ_of_le ih
    · exact Nat.succ_le_succ ih
  | @del _ a b x _ ih =>
    cases b with
    | nil => exact Nat.succ_le_succ ih
    | cons y b => rw [ld_two]; exact Nat.le_trans (Nat.min_le_left _ _) (Nat.le_trans (Nat.min_le_right _ _) (Nat.succ_le_succ ih))
  | @ins _ a b y _ ih =>
    cases a with
    | nil => exact Nat.succ_le_succ ih
    | cons x a => rw [ld_two]; exact Nat.le_trans (Nat.min_le_right _ _) (Nat.succ_le_succ ih)
theorem lv_refl : ∀ a : Tx, Le 0 a a
  | [] => .nil
  | c :: a => .eq c (lv_refl a)
theorem lv_max : ∀ a b : Tx, Le (max a.length b.length) a b
  | [], [] => .nil
  | x :: a, [] => by rw [show max (x :: a).length ([] : Tx).length = max a.length ([] : Tx).length + 1 by simp]; exact .del x (lv_max a [])
  | [], y :: b => by rw [show max ([] : Tx).length (y :: b).length = max ([] : Tx).length b.length + 1 by simp]; exact .ins y (lv_max [] b)
  | x :: a, y :: b => by rw [show max (x :: a).length (y :: b).length = max a.length b.length + 1 by simp only [List.length_cons]; omega]; exact .sub x y (lv_max a b)
noncomputable def Dj (a b : Tx) : Prop := ∀ c, c ∈ a → c ∉ b
theorem ld_dj : ∀ a b : Tx, Dj a b → a.length ≤ ld a b ∧ b.length ≤ ld a b
  | [], b, _ => ⟨Nat.zero_le _, Nat.le_refl _⟩
  | x :: a, [], h => ⟨Nat.succ_le_succ (ld_dj a [] fun c hc => h c (List.mem_cons_of_mem _ hc)).1, Nat.zero_le _⟩
  | x :: a, y :: b, h => by
    have h1 := ld_dj a b fun c hc hb => h c (List.mem_cons_of_mem _ hc) (List.mem_cons_of_mem _ hb)
    have h2 := ld_dj a (y :: b) fun c hc => h c (List.mem_cons_of_mem _ hc)
    have h3 := ld_dj (x :: a) b fun c hc hb => h c hc (List.mem_cons_of_mem _ hb)
    rw [ld_two, if_neg fun (e : y = x) => h x List.mem_cons_self (e ▸ List.mem_cons_self)]
    simp only [List.length_cons] at *
    generalize ld a b = p at *
    generalize ld a (y :: b) = q at *
    generalize ld (x :: a) b = r at *
    generalize a.length = m at *
    generalize b.length = n at *
    clear h
    omega
noncomputable def edits (a b : Tx) : Nat := ld a.reverse b.reverse
theorem edits_dj {a b : Tx} (h : Dj a b) : edits a b = max a.length b.length := by
  have u := ld_le (lv_max a b).rev
  have l := ld_dj a.reverse b.reverse fun c hc hb => h c (List.mem_reverse.mp hc) (List.mem_reverse.mp hb)
  rw [List.length_reverse, List.length_reverse] at l
  exact Nat.le_antisymm u (Nat.max_le.mpr l)
theorem side_s {k : Int} {u : Tx} {r : Row} : side k ((k, u) :: r) = u ++ side k r := by unfold side; rw [if_pos (.inr rfl)]; cases r <;> rfl
theorem side_0 {k : Int} {u : Tx} {r : Row} : side k ((0, u) :: r) = u ++ side k r := by unfold side; rw [if_pos (.inl rfl)]; cases r <;> rfl
theorem side_x {k j : Int} {u : Tx} {r : Row} (h : ¬ (j = 0 ∨ j = k)) : side k ((j, u) :: r) = side k r := (congrArg (· ++ side k r) (if_neg h)).trans (List.nil_append _)
theorem side_mp {u : Tx} {r : Row} : side (-1) ((1, u) :: r) = side (-1) r := side_x (by decide)
theorem side_pm {u : Tx} {r : Row} : side 1 ((-1, u) :: r) = side 1 r := side_x (by decide)
theorem turned_t {k : Int} {u : Tx} {r : Row} (h : ¬ k = 0) : turned ((k, u) :: r) = u.length + turned r := congrArg (· + turned r) (if_neg h)
theorem turned_k {u : Tx} {r : Row} : turned ((0, u) :: r) = turned r := (congrArg (· + turned r) (if_pos rfl)).trans (Nat.zero_add _)
theorem lv_row : ∀ (r : Row) (t g : Tx), Kinds r → Le (lev max t.length g.length r) (t ++ side (-1) r) (g ++ side 1 r)
  | [], t, g, _ => by rw [show side (-1) [] = [] from rfl, show side 1 [] = [] from rfl, List.append_nil, List.append_nil]; exact lv_max t g
  | (k, u) :: r, t, g, h => by
    rcases h.head with e | e | e <;> (replace e : k = _ := e; subst e)
    · have := lv_row r (t ++ u) g h.tail
      rw [List.length_append, List.append_assoc] at this
      rw [lev_d, side_s, side_pm]; exact this
    · rw [lev_k, side_0, side_0]
      have := (lv_max t g).append ((lv_refl u).append (lv_row r [] [] h.tail))
      rwa [Nat.zero_add] at this
    · have := lv_row r t (g ++ u) h.tail
      rw [List.length_append, List.append_assoc] at this
      rw [lev_i, side_s, side_mp]; exact this
theorem edits_row {r : Row} (h : Kinds r) : edits (side (-1) r) (side 1 r) ≤ lev max 0 0 r := ld_le (lv_row r [] [] h).rev
noncomputable def strG (t g : Tx) : Row → Nat
  | [] => edits t g
  | p :: r => if p.1 = -1 then strG (t ++ p.2) g r else if p.1 = 1 then strG t (g ++ p.2) r else edits t g + strG [] [] r
theorem strG_d {t g u : Tx} {r : Row} : strG t g ((-1, u) :: r) = strG (t ++ u) g r := if_pos rfl
theorem strG_i {t g u : Tx} {r : Row} : strG t g ((1, u) :: r) = strG t (g ++ u) r := (if_neg (show ¬ (1 : Int) = -1 by decide)).trans (if_pos rfl)
theorem strG_k {t g u : Tx} {r : Row} : strG t g ((0, u) :: r) = edits t g + strG [] [] r := (if_neg (show ¬ (0 : Int) = -1 by decide)).trans (if_neg (show ¬ (0 : Int) = 1 by decide))
theorem dist_sum (a b : Tx) : dist a b ≤ a.length + b.length := by
  have := dist_le _ _ ((ed_nil a).append (ed_nil' b))
  rwa [List.append_nil] at this
theorem dj_of {t g : Tx} (h : t.length + g.length ≤ dist t g) : Dj t g := fun c ht hg => by
  obtain ⟨a, b, rfl⟩ := List.append_of_mem ht
  obtain ⟨u, v, rfl⟩ := List.append_of_mem hg
  have h1 := dist_append a u (c :: b) (c :: v)
  rw [dist_cc, if_pos rfl] at h1
  have h2 := dist_sum a u
  have h3 := dist_sum b v
  simp only [List.length_append, List.length_cons] at h
  omega
theorem str_least : ∀ (r : Row) (t g : Tx), Kinds r → t.length + g.length + turned r ≤ dist (t ++ side (-1) r) (g ++ side 1 r) → strG t g r = lev max t.length g.length r
  | [], t, g, _, h => by
    rw [show side (-1) [] = [] from rfl, show side 1 [] = [] from rfl, List.append_nil, List.append_nil] at h
    exact edits_dj (dj_of h)
  | (k, u) :: r, t, g, hk, h => by
    rcases hk.head with e | e | e <;> (replace e : k = _ := e; subst e)
    · rw [turned_t (by decide), side_s, side_pm, ← List.append_assoc] at h
      rw [strG_d, lev_d, ← List.length_append]
      exact str_least r _ g hk.tail (by rw [List.length_append]; omega)
    · rw [turned_k, side_0, side_0] at h
      have h1 := dist_append t g (u ++ side (-1) r) (u ++ side 1 r)
      rw [dist_pre] at h1
      have h2 := dist_sum t g
      have h3 := row_dist hk.tail
      rw [strG_k, lev_k, edits_dj (dj_of (by omega)), str_least r [] [] hk.tail (by show 0 + 0 + turned r ≤ dist (side (-1) r) (side 1 r); omega)]
      rfl
    · rw [turned_t (by decide), side_mp, side_s, ← List.append_assoc g] at h
      rw [strG_i, lev_i, ← List.length_append]
      exact str_least r t _ hk.tail (by rw [List.length_append]; omega)
noncomputable def Abc (c : Char) : Prop := c = 'a' ∨ c = 'b' ∨ c = 'c'
noncomputable def upC (c : Char) : Char := if c = 'a' then 'A' else if c = 'b' then 'B' else 'C'
theorem up_abc (c : Char) : ¬ Abc (upC c) := by
  unfold upC Abc
  split
  · decide
  · split <;> decide
noncomputable def capP (p : Part) : Part := if p.1 = 1 then (p.1, p.2.map upC) else p
theorem cap_1 (u : Tx) : capP (1, u) = (1, u.map upC) := if_pos rfl
theorem cap_x {k : Int} (u : Tx) (h : ¬ k = 1) : capP (k, u) = (k, u) := if_neg h
noncomputable def caps (r : Row) : Row := r.map capP
theorem str_caps : ∀ (r : Row) (t g : Tx), Kinds r → (∀ c ∈ t, Abc c) → (∀ c ∈ g, ¬ Abc c) → (∀ c ∈ side (-1) r, Abc c) → strG t g (caps r) = lev max t.length g.length r
  | [], t, g, _, h1, h2, _ => edits_dj fun c ht hg => h2 c hg (h1 c ht)
  | (k, u) :: r, t, g, hk, h1, h2, h3 => by
    show strG t g (capP (k, u) :: caps r) = _
    rcases hk.head with e | e | e <;> (replace e : k = _ := e; subst e)
    · rw [side_s] at h3
      rw [cap_x u (by decide)]
      rw [strG_d, lev_d, ← List.length_append]
      exact str_caps r _ g hk.tail (fun c hc => (List.mem_append.mp hc).elim (h1 c) fun q => h3 c (List.mem_append_left _ q)) h2 fun c hc => h3 c (List.mem_append_right _ hc)
    · rw [side_0] at h3
      rw [cap_x u (by decide)]
      rw [strG_k, lev_k, edits_dj fun c ht hg => h2 c hg (h1 c ht), str_caps r [] [] hk.tail (fun _ h => nomatch h) (fun _ h => nomatch h) fun c hc => h3 c (List.mem_append_right _ hc)]
      rfl
    · rw [side_mp] at h3
      rw [cap_1]
      rw [strG_i, lev_i, ← List.length_map (f := upC) (as := u), ← List.length_append]
      refine str_caps r t _ hk.tail h1 (fun c hc => (List.mem_append.mp hc).elim (h2 c) fun q => ?_) h3
      obtain ⟨x, _, rfl⟩ := List.mem_map.mp q
      exact up_abc x
inductive Jn : Row → Row → Row → Prop
  | nil (W : Row) : Jn [] W W
  | ins {E W R : Row} (s : Tx) : Jn E W R → Jn E ((1, s) :: W) ((1, s) :: R)
  | del {E W R : Row} (s : Tx) : Jn E W R → Jn ((-1, s) :: E) W ((-1, s) :: R)
  | kk {E W R : Row} (s : Tx) : Jn E W R → Jn ((0, s) :: E) ((0, s) :: W) ((0, s) :: R)
  | kd {E W R : Row} (s : Tx) : Jn E W R → Jn ((0, s) :: E) ((-1, s) :: W) ((-1, s) :: R)
  | ik {E W R : Row} (s : Tx) : Jn E W R → Jn ((1, s) :: E) ((0, s) :: W) ((1, s) :: R)
  | id {E W R : Row} (s : Tx) : Jn E W R → Jn ((1, s) :: E) ((-1, s) :: W) R
theorem Jn.kinds {E W R : Row} (h : Jn E W R) : Kinds E → Kinds W → Kinds R := by
  induction h with
  | nil W => exact fun _ k => k
  | ins s _ ih => exact fun a b => .cons (.inr (.inr rfl)) (ih a b.tail)
  | del s _ ih => exact fun a b => .cons (.inl rfl) (ih a.tail b)
  | kk s _ ih => exact fun a b => .cons (.inr (.inl rfl)) (ih a.tail b.tail)
  | kd s _ ih => exact fun a b => .cons (.inl rfl) (ih a.tail b.tail)
  | ik s _ ih => exact fun a b => .cons (.inr (.inr rfl)) (ih a.tail b.tail)
  | id s _ ih => exact fun a b => ih a.tail b.tail
theorem Jn.phi {E W R : Row} (h : Jn E W R) : phi R ≤ phi E + phi W := by
  induction h <;> simp only [phi_cons, phi_nil] at * <;> omega
theorem Jn.sides {E W R : Row} (h : Jn E W R) : side 1 E = side (-1) W → side (-1) R = side (-1) E ∧ side 1 R = side 1 W := by
  induction h with
  | nil W => exact fun e => ⟨e.symm, rfl⟩
  | ins s _ ih => intro e; rw [side_mp] at e; rw [side_mp, side_s, side_s, (ih e).1, (ih e).2]; exact ⟨rfl, rfl⟩
  | del s _ ih => intro e; rw [side_pm] at e; rw [side_pm, side_s, side_s, (ih e).1, (ih e).2]; exact ⟨rfl, rfl⟩
  | kk s _ ih => intro e; rw [side_0, side_0] at e; have := ih (List.append_cancel_left e); rw [side_0, side_0, side_0, side_0, this.1, this.2]; exact ⟨rfl, rfl⟩
  | kd s _ ih => intro e; rw [side_0, side_s] at e; have := ih (List.append_cancel_left e); rw [side_s, side_0, side_pm, side_pm, this.1, this.2]; exact ⟨rfl, rfl⟩
  | ik s _ ih => intro e; rw [side_s, side_0] at e; have := ih (List.append_cancel_left e); rw [side_s, side_mp, side_mp, side_0, this.1, this.2]; exact ⟨rfl, rfl⟩
  | id s _ ih => intro e; rw [side_s, side_s] at e; have := ih (List.append_cancel_left e); rw [side_mp, side_pm, this.1, this.2]; exact ⟨rfl, rfl⟩
theorem Jn.lev {f : Nat → Nat → Nat} (F : Co f) {E W R : Row} (h : Jn E W R) : ∀ {D I : Nat} (D0 I0 dE iE dL iL : Nat), D ≤ D0 + dE + dL → I ≤ I0 + iE + iL → lev f D I R ≤ f D0 I0 + lev f dE iE E + lev f dL iL W := by
  induction h with
  | nil W =>
    intro D I D0 I0 dE iE dL iL h k
    have h1 := lev_mono F W (d := D) (i := I) (d' := dL + (D0 + dE)) (i' := iL + (I0 + iE)) (by omega) (by omega)
    have h2 := lev_sub F (D0 + dE) (I0 + iE) W dL iL
    have h3 := F.s D0 I0 dE iE
    show _ ≤ _ + f dE iE + _
    omega
  | ins s _ ih => intro D I D0 I0 dE iE dL iL h k; rw [lev_i, lev_i]; exact ih D0 I0 dE iE dL _ h (by omega)
  | del s _ ih => intro D I D0 I0 dE iE dL iL h k; rw [lev_d, lev_d]; exact ih D0 I0 _ iE dL iL (by omega) k
  | kk s _ ih =>
    intro D I D0 I0 dE iE dL iL h k
    rw [lev_k, lev_k, lev_k]
    have h1 := F.m h k
    have h2 := F.s (D0 + dE) (I0 + iE) dL iL
    have h3 := F.s D0 I0 dE iE
    have h4 := ih (D := 0) (I := 0) 0 0 0 0 0 0 (Nat.le_refl _) (Nat.le_refl _)
    rw [F.z] at h4
    omega
  | kd s _ ih =>
    intro D I D0 I0 dE iE dL iL h k
    rw [lev_d, lev_k, lev_d]
    have h3 := F.s D0 I0 dE iE
    have h4 := ih (D := D + s.length) (I := I) (D0 + dE) (I0 + iE) 0 0 (dL + s.length) iL (by omega) (by omega)
    omega
  | ik s _ ih =>
    intro D I D0 I0 dE iE dL iL h k
    rw [lev_i, lev_k, lev_i]
    have h3 := F.s D0 I0 dL iL
    have h4 := ih (D := D) (I := I + s.length) (D0 + dL) (I0 + iL) dE (iE + s.length) 0 0 (by omega) (by omega)
    omega
  | id s _ ih => intro D I D0 I0 dE iE dL iL h k; rw [lev_i, lev_d]; exact ih D0 I0 dE _ _ iL (by omega) (by omega)
theorem Jn.lev0 {f : Nat → Nat → Nat} (F : Co f) {E W R : Row} (h : Jn E W R) : Mine.Internal.lev f 0 0 R ≤ Mine.Internal.lev f 0 0 E + Mine.Internal.lev f 0 0 W := by
  have := h.lev F (D := 0) (I := 0) 0 0 0 0 0 0 (Nat.le_refl _) (Nat.le_refl _)
  rwa [F.z, Nat.zero_add] at this
theorem side_cut (k : Int) : ∀ r : Row, side k (cut r) = side k r
  | [] => rfl
  | (j, t) :: r => by
    rw [cut_cons, sda, side_cut k r, show side k ((j, t) :: r) = side k [(j, t)] ++ side k r from sda k [(j, t)] r]
    congr 1
    show side k (t.map fun c => (j, [c])) = _
    by_cases h : j = 0 ∨ j = k
    · rw [side_one, if_pos h]
      induction t with
      | nil => rfl
      | cons c t ih =>
        show side k ((j, [c]) :: t.map fun c => (j, [c])) = _
        unfold side
        rw [if_pos h, ih]; rfl
    · rw [side_one, if_neg h]
      induction t with
      | nil => rfl
      | cons c t ih => exact (side_x h).trans ih
theorem lev_cuts {f : Nat → Nat → Nat} (F : Co f) : ∀ (r : Row) (d i : Nat), NE r → Kinds r → lev f d i (cut r) = lev f d i r
  | [], _, _, _, _ => rfl
  | (k, t) :: r, d, i, hn, hk => by
    have ih := fun d i => lev_cuts F r d i hn.tail hk.tail
    rw [cut_cons]
    show lev f d i ((t.map fun c => (k, [c])) ++ cut r) = _
    rcases hk.head with e | e | e <;> (replace e : k = _ := e; subst e)
    · rw [lev_d, ← ih]
      clear ih hn hk
      induction t generalizing d with
      | nil => rfl
      | cons c t ih =>
        show lev f d i ((-1, [c]) :: ((t.map fun c => ((-1 : Int), [c])) ++ cut r)) = _
        rw [lev_d, ih, Nat.add_assoc, Nat.add_comm _ t.length]; rfl
    · rw [lev_k, ← ih]
      obtain ⟨c, t, rfl⟩ := List.exists_cons_of_ne_nil (show t ≠ [] from hn.head)
      clear ih hn hk
      show lev f d i ((0, [c]) :: ((t.map fun c => ((0 : Int), [c])) ++ cut r)) = _
      rw [lev_k]
      congr 1
      induction t with
      | nil => rfl
      | cons c t ih =>
        show lev f 0 0 ((0, [c]) :: ((t.map fun c => ((0 : Int), [c])) ++ cut r)) = _
        rw [lev_k, ih, F.z, Nat.zero_add]
    · rw [lev_i, ← ih]
      clear ih hn hk
      induction t generalizing i with
      | nil => rfl
      | cons c t ih =>
        show lev f d i ((1, [c]) :: ((t.map fun c => ((1 : Int), [c])) ++ cut r)) = _
        rw [lev_i, ih, Nat.add_assoc, Nat.add_comm _ t.length]; rfl
structure Fin6 (a b c : Tx) (R0 R1 R2 J : Row) (n : Nat) : Prop where
  k : Kinds J
  m : side (-1) J = a
  p : side 1 J = c
  kc : Kinds (cleanN n J)
  mc : side (-1) (cleanN n J) = a
  pc : side 1 (cleanN n J) = c
  e1 : edits a c ≤ lev max 0 0 (cleanN n J)
  e2 : lev max 0 0 (cleanN n J) ≤ lev max 0 0 J
  e3 : lev max 0 0 J ≤ lev max 0 0 R0 + lev max 0 0 R1
  t1 : turned R2 ≤ turned (cleanN n J)
  t2 : turned (cleanN n J) ≤ turned R0 + turned R1
theorem fin6 {H : Tx → Tx → Option HM → Prop} {a b c : Tx} {R0 R1 R2 J : Row} {n : Nat} (hH : NoH H) (g0 : MG H a b R0) (g1 : MG H b c R1) (g2 : MG H a c R2) (j : Jn (cut R0) (cut R1) J) (hn : phi J < n) : Fin6 a b c R0 R1 R2 J n := by
  have k0 := cut_kinds g0.k
  have k1 := cut_kinds g1.k
  have kJ := j.kinds k0 k1
  obtain ⟨s1, s2⟩ := j.sides (by rw [side_cut, side_cut, g0.p, g1.m])
  rw [side_cut, g0.m] at s1
  rw [side_cut, g1.p] at s2
  obtain ⟨kc, sc⟩ := clean_side n J kJ hn
  have sm := (sc (-1) (.inl rfl)).trans s1
  have sp := (sc 1 (.inr rfl)).trans s2
  have l3 := j.lev0 co_max
  rw [lev_cuts co_max _ _ _ g0.n g0.k, lev_cuts co_max _ _ _ g1.n g1.k] at l3
  have l4 := j.lev0 co_add
  rw [lev_cuts co_add _ _ _ g0.n g0.k, lev_cuts co_add _ _ _ g1.n g1.k] at l4
  have l5 := Nat.le_trans (lev_clean co_add n J kJ) l4
  rw [lev_turned _ _ _ kc, lev_turned _ _ _ g0.k, lev_turned _ _ _ g1.k] at l5
  simp only [Nat.zero_add] at l5
  have e := edits_row kc
  rw [sm, sp] at e
  have d := row_dist kc
  rw [sm, sp, ← g2.o hH] at d
  exact ⟨kJ, s1, s2, kc, sm, sp, e, lev_clean co_max n J kJ, l3, d, l5⟩
theorem str_main {H : Tx → Tx → Option HM → Prop} {a b : Tx} {L : Row} (hH : NoH H) (g : MG H a b L) : strG [] [] L = lev max 0 0 L :=
  str_least L [] [] g.k (by
    show 0 + 0 + turned L ≤ dist (side (-1) L) (side 1 L)
    rw [g.m, g.p, g.o hH, Nat.zero_add]; exact Nat.le_refl _)
noncomputable def m_diff_levenshteinPs : List Str := ["self", "diffs"]
noncomputable def m_diff_levenshteinRest : List Str := ["levenshtein", "insertions", "deletions", "op", "data"]
noncomputable def m_diff_levenshteinNames : List (Str × NameKind) := [("len", .globalImplicit), ("max", .globalImplicit)]
noncomputable def m_diff_levenshteinCells : List Str := []
noncomputable def m_diff_levenshteinB1 : List Sm := [
    .aug 2 .Add (.bi .max [.var 3, .var 4]),
    .assign [.var 3] (.lit (.int 0)),
    .assign [.var 4] (.lit (.int 0))]
noncomputable def m_diff_levenshteinB2 : List Sm := [
    .ife (.cmp (.var 5) [.Eq] [.attr (.var 0) "DIFF_INSERT"]) [
      .aug 3 .Add (.bi .len [.var 6])] [
      .ife (.cmp (.var 5) [.Eq] [.attr (.var 0) "DIFF_DELETE"]) [
        .aug 4 .Add (.bi .len [.var 6])] [
        .ife (.cmp (.var 5) [.Eq] [.attr (.var 0) "DIFF_EQUAL"]) m_diff_levenshteinB1 []]]]
noncomputable def m_diff_levenshteinBody : List Sm := [
    .assign [.var 2] (.lit (.int 0)),
    .assign [.var 3] (.lit (.int 0)),
    .assign [.var 4] (.lit (.int 0)),
    .fr (.tup [5, 6]) (.var 1) m_diff_levenshteinB2,
    .aug 2 .Add (.bi .max [.var 3, .var 4]),
    .ret (.var 2)]
section
variable {P : PC} {Q : V → Mem → Prop} {t d : Addr} {m : Mem} {r : Row}
noncomputable abbrev lvS (t d : Addr) (c i e : Nat) (x y : Option V) (m : Mem) : St := ⟨[some (.obj t), some (.obj d), some (.int c), some (.int i), some (.int e), x, y], m⟩
theorem max_int (i e : Nat) : (if (i : Int) < (e : Int) then (e : Int) else i) = ((max e i : Nat) : Int) := by
  by_cases h : i < e
  · rw [if_pos (Int.ofNat_lt.mpr h), Nat.max_eq_left (Nat.le_of_lt h)]
  · rw [if_neg fun q => h (Int.ofNat_lt.mp q), Nat.max_eq_right (Nat.le_of_not_lt h)]
inductive Lw (t d : Addr) (m : Mem) (N : Nat) (rest : Row) (σ : St) : Prop
  | mk (c i e : Nat) (x y : Option V) : σ = lvS t d c i e x y m → c + lev max e i rest = N → (∀ p ∈ rest, p.2.length ≤ 1000) → Kinds rest → Lw t d m N rest σ
theorem w_lev (hT : Tool P m t) (hm : m d = some (.list (rv r))) (hK : Kinds r) (hφ : phi r ≤ 1000) (hI : P.cc "DIFF_INSERT" = some (.int 1)) (hD : P.cc "DIFF_DELETE" = some (.int (-1))) (hE : P.cc "DIFF_EQUAL" = some (.int 0)) (h : Q (.int (lev max 0 0 r : Nat)) m) :
    wpSs P m_diff_levenshteinBody (fun fl σ' => Q (retV fl) σ'.mem) ⟨[V.obj t, .obj d].map some ++ List.replicate 5 none, m⟩ := by
  have hL := llp r
  show wpSs P _ _ ⟨[some (.obj t), some (.obj d), none, none, none, none, none], m⟩
  unfold m_diff_levenshteinBody
  refine ss_ret fun Q1 n1 r1 => ?_
  walk_at "D"
  refine n1 _ (ss_ret fun Q2 n2 r2 => ?_)
  walk_at "D"
  refine n2 _ (ss_ret fun Q3 n3 r3 => ?_)
  walk_at "D"
  refine n3 _ (ss_ret fun Q4 n4 r4 => ?_)
  simp only [r_sfr]
  walk_at "D"
  refine it_row hm (by lia) ?_
  refine loop_map pv (Lw t d m (lev max 0 0 r)) (fun l' σ i => ?_) (fun p l' σ i Q5 n5 r5 => ?_) (fun σ i => ?_) r _ ⟨0, 0, 0, none, none, rfl, Nat.zero_add _, fun p hp => by have := txt_le_phi hp; lia, hK⟩
  · obtain ⟨c, i, e, x, y, rfl, _⟩ := i
    exact hm
  · obtain ⟨c, i, e, x, y, rfl, q, hs, hk⟩ := i
    obtain ⟨k, u⟩ := p
    have su : sma u.length := Nat.le_trans (hs _ List.mem_cons_self) (by decide)
    have hs' : ∀ p ∈ l', p.2.length ≤ 1000 := fun p hp => hs p (List.mem_cons_of_mem _ hp)
    refine ⟨rfl, ?_⟩
    show wpSs P _ Q5 (lvS t d c i e (some (.int k)) (some (.str u)) m)
    unfold m_diff_levenshteinB2
    refine ssn (s_ife fun K kt kf => ?_)
    walk_at "D"
    refine at_cc hT rfl hI ?_
    refine (show K (decide (k = 1)) _ from ?_)
    rcases hk.head with z | z | z <;> (replace z : k = _ := z; subst z)
    · refine kf _ (ssn (s_ife fun K kt kf => ?_))
      walk_at "D"
      refine at_cc hT rfl hD ?_
      refine (show K (decide ((-1 : Int) = -1)) _ from ?_)
      refine kt _ (ssn ?_)
      walk_at "D"
      rw [lev_d] at q
      exact ⟨su, n5 _ ⟨c, i, e + u.length, _, _, rfl, q, hs', hk.tail⟩⟩
    · refine kf _ (ssn (s_ife fun K kt kf => ?_))
      walk_at "D"
      refine at_cc hT rfl hD ?_
      refine (show K (decide ((0 : Int) = -1)) _ from ?_)
      refine kf _ (ssn (s_ife fun K kt kf => ?_))
      walk_at "D"
      refine at_cc hT rfl hE ?_
      refine (show K (decide ((0 : Int) = 0)) _ from ?_)
      refine kt _ ?_
      unfold m_diff_levenshteinB1
      refine ss_ret fun Q6 n6 r6 => ?_
      walk_at "D"
      rw [max_int]
      refine n6 _ (ss_ret fun Q7 n7 r7 => ?_)
      walk_at "D"
      refine n7 _ (ssn ?_)
      walk_at "D"
      rw [lev_k, ← Nat.add_assoc] at q
      exact n5 _ ⟨c + max e i, 0, 0, _, _, rfl, q, hs', hk.tail⟩
    · refine kt _ (ssn ?_)
      walk_at "D"
      rw [lev_i] at q
      exact ⟨su, n5 _ ⟨c, i + u.length, e, _, _, rfl, q, hs', hk.tail⟩⟩
  · obtain ⟨c, i, e, x, y, rfl, q, _, _⟩ := i
    refine n4 _ (ss_ret fun Q5 n5 r5 => ?_)
    walk_at "D"
    rw [max_int]
    refine n5 _ (ssn ?_)
    walk_at "D"
    show Q (.int ((c : Int) + (max e i : Nat))) m
    rw [← q] at h
    exact h
end
noncomputable def f_law_editsPs : List Str := ["early", "late"]
noncomputable def f_law_editsRest : List Str := ["row", "sign", "new", "place", "other"]
noncomputable def f_law_editsNames : List (Str × NameKind) := [("list", .globalImplicit), ("range", .globalImplicit), ("len", .globalImplicit), ("min", .globalImplicit)]
noncomputable def f_law_editsCells : List Str := []
noncomputable def f_law_editsB1 : List Sm := [
    .assign [.var 6] (.ite (.cmp (.idx (.var 1) (.var 5)) [.Eq] [.var 3]) (.idx (.var 2) (.var 5)) (.bin .Add (.idx (.var 2) (.var 5)) (.lit (.int 1)))),
    .expr (.me (.var 4) .append [.bi .min [.var 6, .bin .Add (.idx (.var 2) (.bin .Add (.var 5) (.lit (.int 1)))) (.lit (.int 1)), .bin .Add (.idx (.var 4) (.var 5)) (.lit (.int 1))]])]
noncomputable def f_law_editsB2 : List Sm := [
    .assign [.var 4] (.list [.bin .Add (.idx (.var 2) (.lit (.int 0))) (.lit (.int 1))]),
    .fr (.var 5) (.bi .range [.bi .len [.var 1]]) f_law_editsB1,
    .assign [.var 2] (.var 4)]
noncomputable def f_law_editsBody : List Sm := [
    .assign [.var 2] (.bi .list [.bi .range [.bin .Add (.bi .len [.var 1]) (.lit (.int 1))]]),
    .fr (.var 3) (.var 0) f_law_editsB2,
    .ret (.idx (.var 2) (.neg (.lit (.int 1))))]
theorem rng_zero (n : Nat) (b : Int) (h : b = n) : rngL 0 b 1 = (List.range' 0 n).map fun j : Nat => V.int j := by subst h; exact rng_two 0 n
theorem min_int2 (x y : Nat) : min (x : Int) (y : Int) = ((min x y : Nat) : Int) := by
  by_cases h : x ≤ y
  · rw [Nat.min_eq_left h, Int.min_eq_left (Int.ofNat_le.mpr h)]
  · have := Nat.le_of_not_le h
    rw [Nat.min_eq_right this, Int.min_eq_right (Int.ofNat_le.mpr this)]
theorem min_int3 (x y z : Nat) : min (min (x : Int) ((y : Int) + 1)) ((z : Int) + 1) = ((min (min x (y + 1)) (z + 1) : Nat) : Int) := by
  show min (min (x : Int) ((y + 1 : Nat) : Int)) ((z + 1 : Nat) : Int) = _
  rw [min_int2, min_int2]
section
variable {P : PC} {Q : V → Mem → Prop} {m : Mem} {a b : Tx}
noncomputable def tb6 (u b : Tx) (k : Nat) : List V := (List.range' 0 k).map fun j : Nat => V.int (ld u (b.take j).reverse : Nat)
theorem tb6_get {u b : Tx} {k j : Nat} (h : j < k) : pyGet (tb6 u b k) (j : Int) = some (.int (ld u (b.take j).reverse : Nat)) := by
  unfold tb6
  rw [pyGet_nn _ _ (by simpa using h), List.getElem?_map, List.getElem?_range' (by simpa using h)]
  simp
theorem tb6_len (u b : Tx) (k : Nat) : (tb6 u b k).length = k := by unfold tb6; simp
theorem tb6_next {u b : Tx} {k : Nat} : tb6 u b k ++ [V.int (ld u (b.take k).reverse : Nat)] = tb6 u b (k + 1) := by
  unfold tb6
  rw [List.range'_concat, List.map_append, Nat.one_mul, Nat.zero_add]; rfl
theorem tb6_zero (b : Tx) : tb6 [] b (b.length + 1) = (List.range' 0 (b.length + 1)).map fun j : Nat => V.int j := by
  unfold tb6
  refine List.map_congr_left fun j hj => ?_
  have := List.mem_range'_1.mp hj
  show V.int (((b.take j).reverse.length : Nat) : Int) = _
  rw [List.length_reverse, List.length_take, Nat.min_eq_left (by lia)]
noncomputable abbrev edS (a b : Tx) (l : Addr) (x y z w : Option V) (m : Mem) : St := ⟨[some (.str a), some (.str b), some (.obj l), x, y, z, w], m⟩
theorem ed_in {u : Tx} {c : Char} {l n : Addr} {j : Nat} {w z : Option V} {Q5 : Fl → St → Prop} (hj : j < b.length) (hb : b.length ≤ 1000) (hl : m l = some (.list (tb6 u b (b.length + 1)))) (hn : m n = some (.list (tb6 (c :: u) b (j + 1))))
    (h : ∀ w, Q5 .next (edS a b l (some (.str [c])) (some (.obj n)) (some (.int j)) w (upd m n (.list (tb6 (c :: u) b (j + 2)))))) :
    wpSs P f_law_editsB1 Q5 (edS a b l (some (.str [c])) (some (.obj n)) (some (.int j)) w m) := by
  have tj : tiny (j : Int) := by walk_at "t"
  have e1 : (b.take (j + 1)).reverse = b[j] :: (b.take j).reverse := by rw [take_succ hj, List.reverse_append]; rfl
  have g0 := tb6_get (u := u) (b := b) (Nat.lt_succ_of_lt hj)
  have g1 := tb6_get (u := u) (b := b) (Nat.succ_lt_succ hj)
  have g2 := tb6_get (u := c :: u) (b := b) (Nat.lt_succ_self j)
  unfold f_law_editsB1
  refine ss_ret fun Q6 n6 _ => ?_
  walk_at "D"
  refine ⟨tj, b[j], (pyGet_nn _ _ hj).trans (List.getElem?_eq_getElem hj), ?_⟩
  have fin : ∀ o : Nat, o = (if b[j] = c then ld u (b.take j).reverse else ld u (b.take j).reverse + 1) → Q6 .next (edS a b l (some (.str [c])) (some (.obj n)) (some (.int j)) (some (.int o)) m) := fun o ho => by
    refine n6 _ (ssn ?_)
    dsimp only [r_lit, r_var, r_bin, r_neg, r_not, r_list, r_tup, r_cmp, r_band, r_bor, r_idx, r_slc, r_attr, r_bi, r_call, r_me, r_imeth, r_comp, r_comp2, r_ite, r_ch2, r_es0, r_es1, r_ch1, r_bo1, r_bo2, r_tnot, r_tband, r_tbor, r_tcmp, r_tvar, r_tcall, r_tme, r_tidx, r_tbi, r_ts0, r_ts1, r_tgs0, r_tgs1, r_sexpr, r_sassign, r_saug, r_sdel, r_sife, r_swhl, r_sfr, r_sret, r_ss0, r_ss1, tg_var, tg_tup, tg_idx, tg_slc, bin_add, bin_sub, bin_mul, bin_div, bin_mod, bin_cat, cmp_eqi, cmp_eqs, cmp_nei, cmp_nes, cmp_lt, cmp_le, cmp_gt, cmp_ge, cmp_isn, cmp_ist, cmp_notn, cmp_nott, tr_none, tr_bool, tr_int, tr_str, tr_tup, ix_str, ix_tup, sl_ii, sl_in, sl_ni, bi_lens, bi_lent, bi_min, bi_max, bi_rng, bi_rng2, me_find, me_find2, ok_find, me_app, ok_app, me_ins, me_pop, me_join, me_ends, me_starts, ok_ins, ok_pop, ok_join, ok_ends, ok_starts, it_str, it_rng, neg_int, aug_addi, aug_adds, aug_subi, St.set, St.setAll, List.map_cons, List.map_nil, List.replicate, List.cons_append, List.nil_append, List.getElem?_cons_succ, List.getElem?_cons_zero, List.set_cons_succ, List.set_cons_zero, List.length_cons, List.length_nil, dreduceIte, retV, ix_lst]
    refine ⟨⟨_, hn⟩, by walk_at "t", _, _, hl, g1, ?_⟩
    dsimp only [r_lit, r_var, r_bin, r_neg, r_not, r_list, r_tup, r_cmp, r_band, r_bor, r_idx, r_slc, r_attr, r_bi, r_call, r_me, r_imeth, r_comp, r_comp2, r_ite, r_ch2, r_es0, r_es1, r_ch1, r_bo1, r_bo2, r_tnot, r_tband, r_tbor, r_tcmp, r_tvar, r_tcall, r_tme, r_tidx, r_tbi, r_ts0, r_ts1, r_tgs0, r_tgs1, r_sexpr, r_sassign, r_saug, r_sdel, r_sife, r_swhl, r_sfr, r_sret, r_ss0, r_ss1, tg_var, tg_tup, tg_idx, tg_slc, bin_add, bin_sub, bin_mul, bin_div, bin_mod, bin_cat, cmp_eqi, cmp_eqs, cmp_nei, cmp_nes, cmp_lt, cmp_le, cmp_gt, cmp_ge, cmp_isn, cmp_ist, cmp_notn, cmp_nott, tr_none, tr_bool, tr_int, tr_str, tr_tup, ix_str, ix_tup, sl_ii, sl_in, sl_ni, bi_lens, bi_lent, bi_min, bi_max, bi_rng, bi_rng2, me_find, me_find2, ok_find, me_app, ok_app, me_ins, me_pop, me_join, me_ends, me_starts, ok_ins, ok_pop, ok_join, ok_ends, ok_starts, it_str, it_rng, neg_int, aug_addi, aug_adds, aug_subi, St.set, St.setAll, List.map_cons, List.map_nil, List.replicate, List.cons_append, List.nil_append, List.getElem?_cons_succ, List.getElem?_cons_zero, List.set_cons_succ, List.set_cons_zero, List.length_cons, List.length_nil, dreduceIte, retV, ix_lst]
    refine ⟨tj, _, _, hn, g2, ?_⟩
    dsimp only [r_lit, r_var, r_bin, r_neg, r_not, r_list, r_tup, r_cmp, r_band, r_bor, r_idx, r_slc, r_attr, r_bi, r_call, r_me, r_imeth, r_comp, r_comp2, r_ite, r_ch2, r_es0, r_es1, r_ch1, r_bo1, r_bo2, r_tnot, r_tband, r_tbor, r_tcmp, r_tvar, r_tcall, r_tme, r_tidx, r_tbi, r_ts0, r_ts1, r_tgs0, r_tgs1, r_sexpr, r_sassign, r_saug, r_sdel, r_sife, r_swhl, r_sfr, r_sret, r_ss0, r_ss1, tg_var, tg_tup, tg_idx, tg_slc, bin_add, bin_sub, bin_mul, bin_div, bin_mod, bin_cat, cmp_eqi, cmp_eqs, cmp_nei, cmp_nes, cmp_lt, cmp_le, cmp_gt, cmp_ge, cmp_isn, cmp_ist, cmp_notn, cmp_nott, tr_none, tr_bool, tr_int, tr_str, tr_tup, ix_str, ix_tup, sl_ii, sl_in, sl_ni, bi_lens, bi_lent, bi_min, bi_max, bi_rng, bi_rng2, me_find, me_find2, ok_find, me_app, ok_app, me_ins, me_pop, me_join, me_ends, me_starts, ok_ins, ok_pop, ok_join, ok_ends, ok_starts, it_str, it_rng, neg_int, aug_addi, aug_adds, aug_subi, St.set, St.setAll, List.map_cons, List.map_nil, List.replicate, List.cons_append, List.nil_append, List.getElem?_cons_succ, List.getElem?_cons_zero, List.set_cons_succ, List.set_cons_zero, List.length_cons, List.length_nil, dreduceIte, retV, bi_min3]
    refine ⟨_, hn, by rw [tb6_len]; unfold sma; lia, ?_⟩
    have := h (some (.int o))
    rw [← tb6_next (k := j + 1), e1, ld_two, ← ho, ← e1] at this
    rw [min_int3]
    exact this
  by_cases q : b[j] = c
  · rw [decide_eq_true (congrArg (fun x => [x]) q), if_pos rfl]
    dsimp only [r_lit, r_var, r_bin, r_neg, r_not, r_list, r_tup, r_cmp, r_band, r_bor, r_idx, r_slc, r_attr, r_bi, r_call, r_me, r_imeth, r_comp, r_comp2, r_ite, r_ch2, r_es0, r_es1, r_ch1, r_bo1, r_bo2, r_tnot, r_tband, r_tbor, r_tcmp, r_tvar, r_tcall, r_tme, r_tidx, r_tbi, r_ts0, r_ts1, r_tgs0, r_tgs1, r_sexpr, r_sassign, r_saug, r_sdel, r_sife, r_swhl, r_sfr, r_sret, r_ss0, r_ss1, tg_var, tg_tup, tg_idx, tg_slc, bin_add, bin_sub, bin_mul, bin_div, bin_mod, bin_cat, cmp_eqi, cmp_eqs, cmp_nei, cmp_nes, cmp_lt, cmp_le, cmp_gt, cmp_ge, cmp_isn, cmp_ist, cmp_notn, cmp_nott, tr_none, tr_bool, tr_int, tr_str, tr_tup, ix_str, ix_tup, sl_ii, sl_in, sl_ni, bi_lens, bi_lent, bi_min, bi_max, bi_rng, bi_rng2, me_find, me_find2, ok_find, me_app, ok_app, me_ins, me_pop, me_join, me_ends, me_starts, ok_ins, ok_pop, ok_join, ok_ends, ok_starts, it_str, it_rng, neg_int, aug_addi, aug_adds, aug_subi, St.set, St.setAll, List.map_cons, List.map_nil, List.replicate, List.cons_append, List.nil_append, List.getElem?_cons_succ, List.getElem?_cons_zero, List.set_cons_succ, List.set_cons_zero, List.length_cons, List.length_nil, dreduceIte, retV, ix_lst]
    exact ⟨tj, _, _, hl, g0, fin _ (if_pos q).symm⟩
  · rw [decide_eq_false (fun z => q (List.head_eq_of_cons_eq z)), if_neg (by decide)]
    dsimp only [r_lit, r_var, r_bin, r_neg, r_not, r_list, r_tup, r_cmp, r_band, r_bor, r_idx, r_slc, r_attr, r_bi, r_call, r_me, r_imeth, r_comp, r_comp2, r_ite, r_ch2, r_es0, r_es1, r_ch1, r_bo1, r_bo2, r_tnot, r_tband, r_tbor, r_tcmp, r_tvar, r_tcall, r_tme, r_tidx, r_tbi, r_ts0, r_ts1, r_tgs0, r_tgs1, r_sexpr, r_sassign, r_saug, r_sdel, r_sife, r_swhl, r_sfr, r_sret, r_ss0, r_ss1, tg_var, tg_tup, tg_idx, tg_slc, bin_add, bin_sub, bin_mul, bin_div, bin_mod, bin_cat, cmp_eqi, cmp_eqs, cmp_nei, cmp_nes, cmp_lt, cmp_le, cmp_gt, cmp_ge, cmp_isn, cmp_ist, cmp_notn, cmp_nott, tr_none, tr_bool, tr_int, tr_str, tr_tup, ix_str, ix_tup, sl_ii, sl_in, sl_ni, bi_lens, bi_lent, bi_min, bi_max, bi_rng, bi_rng2, me_find, me_find2, ok_find, me_app, ok_app, me_ins, me_pop, me_join, me_ends, me_starts, ok_ins, ok_pop, ok_join, ok_ends, ok_starts, it_str, it_rng, neg_int, aug_addi, aug_adds, aug_subi, St.set, St.setAll, List.map_cons, List.map_nil, List.replicate, List.cons_append, List.nil_append, List.getElem?_cons_succ, List.getElem?_cons_zero, List.set_cons_succ, List.set_cons_zero, List.length_cons, List.length_nil, dreduceIte, retV, ix_lst]
    refine ⟨tj, _, _, hl, g0, ?_⟩
    walk_at "D"
    exact fin _ (if_neg q).symm
inductive Ed1 (a b u : Tx) (c : Char) (m : Mem) (l n : Addr) (rest : List Nat) (σ : St) : Prop
  | mk (j : Nat) (z w : Option V) (m' : Mem) : σ = edS a b l (some (.str [c])) (some (.obj n)) z w m' → j ≤ b.length → rest = List.range' j (b.length - j) → Ext n m m' → m' n = some (.list (tb6 (c :: u) b (j + 1))) → Ed1 a b u c m l n rest σ
inductive Ed0 (a b : Tx) (m : Mem) (rest : Tx) (σ : St) : Prop
  | mk (pre : Tx) (l : Addr) (x y z w : Option V) (m' : Mem) : σ = edS a b l x y z w m' → a = pre ++ rest → Gr m m' → m' l = some (.list (tb6 pre.reverse b (b.length + 1))) → Ed0 a b m rest σ
theorem w_edits (ha : a.length ≤ 1000) (hb : b.length ≤ 1000) (h : ∀ m', Gr m m' → Q (.int (edits a b : Nat)) m') :
    wpSs P f_law_editsBody (fun fl σ' => Q (retV fl) σ'.mem) ⟨[V.str a, .str b].map some ++ List.replicate 5 none, m⟩ := by
  have sb : sma b.length := Nat.le_trans hb (by decide)
  have sa : sma a.length := Nat.le_trans ha (by decide)
  show wpSs P _ _ ⟨[some (.str a), some (.str b), none, none, none, none, none], m⟩
  unfold f_law_editsBody
  refine ss_ret fun Q1 n1 r1 => ?_
  dsimp only [r_lit, r_var, r_bin, r_neg, r_not, r_list, r_tup, r_cmp, r_band, r_bor, r_idx, r_slc, r_attr, r_bi, r_call, r_me, r_imeth, r_comp, r_comp2, r_ite, r_ch2, r_es0, r_es1, r_ch1, r_bo1, r_bo2, r_tnot, r_tband, r_tbor, r_tcmp, r_tvar, r_tcall, r_tme, r_tidx, r_tbi, r_ts0, r_ts1, r_tgs0, r_tgs1, r_sexpr, r_sassign, r_saug, r_sdel, r_sife, r_swhl, r_sfr, r_sret, r_ss0, r_ss1, tg_var, tg_tup, tg_idx, tg_slc, bin_add, bin_sub, bin_mul, bin_div, bin_mod, bin_cat, cmp_eqi, cmp_eqs, cmp_nei, cmp_nes, cmp_lt, cmp_le, cmp_gt, cmp_ge, cmp_isn, cmp_ist, cmp_notn, cmp_nott, tr_none, tr_bool, tr_int, tr_str, tr_tup, ix_str, ix_tup, sl_ii, sl_in, sl_ni, bi_lens, bi_lent, bi_min, bi_max, bi_rng, bi_rng2, me_find, me_find2, ok_find, me_app, ok_app, me_ins, me_pop, me_join, me_ends, me_starts, ok_ins, ok_pop, ok_join, ok_ends, ok_starts, it_str, it_rng, neg_int, aug_addi, aug_adds, aug_subi, St.set, St.setAll, List.map_cons, List.map_nil, List.replicate, List.cons_append, List.nil_append, List.getElem?_cons_succ, List.getElem?_cons_zero, List.set_cons_succ, List.set_cons_zero, List.length_cons, List.length_nil, dreduceIte, retV, bi_lst]
  refine ⟨sb, by walk_at "t", b.length + 1, rfl, rfl, rfl, by unfold sma; lia, fun l hl => n1 _ (ss_ret fun Q2 n2 r2 => ?_)⟩
  rw [← tb6_zero]
  have gl := Gr.new hl (.list (tb6 [] b (b.length + 1)))
  simp only [r_sfr]
  walk_at "D"
  refine ⟨sa, ?_⟩
  refine loop_map (fun c : Char => V.str [c]) (Ed0 a b m) (fun _ _ _ => trivial) (fun c l' σ i Q3 n3 r3 => ?_) (fun σ i => ?_) a _ ⟨[], l, none, none, none, none, _, rfl, rfl, gl, ups _ _ _⟩
  · obtain ⟨pre, l, x, y, z, w, m1, rfl, e, g1, hl1⟩ := i
    walk_at "D"
    unfold f_law_editsB2
    refine ss_ret fun Q4 n4 r4 => ?_
    dsimp only [r_lit, r_var, r_bin, r_neg, r_not, r_list, r_tup, r_cmp, r_band, r_bor, r_idx, r_slc, r_attr, r_bi, r_call, r_me, r_imeth, r_comp, r_comp2, r_ite, r_ch2, r_es0, r_es1, r_ch1, r_bo1, r_bo2, r_tnot, r_tband, r_tbor, r_tcmp, r_tvar, r_tcall, r_tme, r_tidx, r_tbi, r_ts0, r_ts1, r_tgs0, r_tgs1, r_sexpr, r_sassign, r_saug, r_sdel, r_sife, r_swhl, r_sfr, r_sret, r_ss0, r_ss1, tg_var, tg_tup, tg_idx, tg_slc, bin_add, bin_sub, bin_mul, bin_div, bin_mod, bin_cat, cmp_eqi, cmp_eqs, cmp_nei, cmp_nes, cmp_lt, cmp_le, cmp_gt, cmp_ge, cmp_isn, cmp_ist, cmp_notn, cmp_nott, tr_none, tr_bool, tr_int, tr_str, tr_tup, ix_str, ix_tup, sl_ii, sl_in, sl_ni, bi_lens, bi_lent, bi_min, bi_max, bi_rng, bi_rng2, me_find, me_find2, ok_find, me_app, ok_app, me_ins, me_pop, me_join, me_ends, me_starts, ok_ins, ok_pop, ok_join, ok_ends, ok_starts, it_str, it_rng, neg_int, aug_addi, aug_adds, aug_subi, St.set, St.setAll, List.map_cons, List.map_nil, List.replicate, List.cons_append, List.nil_append, List.getElem?_cons_succ, List.getElem?_cons_zero, List.set_cons_succ, List.set_cons_zero, List.length_cons, List.length_nil, dreduceIte, retV, ix_lst]
    refine ⟨by walk_at "t", _, _, hl1, tb6_get (j := 0) (by lia), ?_⟩
    walk_at "D"
    intro n hn
    refine n4 _ (ss_ret fun Q5 n5 r5 => ?_)
    have g2 := Gr.new hn (.list [V.int ((ld pre.reverse (b.take 0).reverse : Nat) + 1)])
    have hne : n ≠ l := fun e => by subst e; rw [hl1] at hn; cases hn
    simp only [r_sfr]
    walk_at "D"
    refine ⟨sb, by walk_at "t", by walk_at "t", by walk_at "t", by walk_at "t", by decide, ?_⟩
    rw [rng_zero b.length _ rfl]
    generalize hm2 : upd m1 n (.list [V.int ((ld pre.reverse (b.take 0).reverse : Nat) + 1)]) = m2 at *
    have hl2 := g2 _ _ hl1
    have hn2 : m2 n = some (.list (tb6 (c :: pre.reverse) b (0 + 1))) := by rw [← hm2, ups]; rfl
    refine loop_map (fun j : Nat => V.int j) (Ed1 a b pre.reverse c m2 l n) (fun _ _ _ => trivial) (fun j l3 σ i Q6 n6 r6 => ?_) (fun σ i => ?_) (List.range' 0 b.length) _ ⟨0, z, w, m2, rfl, Nat.zero_le _, rfl, .refl _ _, hn2⟩
    · obtain ⟨k, z, w, m3, rfl, hk, er, x3, hn3⟩ := i
      have hkb : k < b.length := Nat.lt_of_le_of_ne hk fun q => by rw [q, Nat.sub_self] at er; cases er
      rw [show b.length - k = (b.length - (k + 1)) + 1 by lia, List.range'_succ] at er
      obtain ⟨rfl, rfl⟩ := List.cons.inj er
      walk_at "D"
      exact ed_in (z := none) hkb hb (x3 _ _ (Ne.symm hne) hl2) hn3 fun w => n6 _ ⟨j + 1, _, w, _, rfl, hkb, rfl, x3.trans (.upd _ _ _), ups _ _ _⟩
    · obtain ⟨k, z, w, m3, rfl, hk, er, x3, hn3⟩ := i
      have ek : k = b.length := by
        have := congrArg List.length er
        rw [List.length_range'] at this
        simp only [List.length_nil] at this
        lia
      subst ek
      refine n5 _ (ssn ?_)
      walk_at "D"
      refine n3 _ ⟨pre ++ [c], n, _, _, _, _, m3, rfl, by rw [e]; simp, fun x o hx => x3 x o (fun q => by subst q; rw [g1 _ _ hx] at hn; cases hn) (g2 _ _ (g1 _ _ hx)), ?_⟩
      rw [List.reverse_append]; exact hn3
  · obtain ⟨pre, l, x, y, z, w, m1, rfl, e, g1, hl1⟩ := i
    rw [List.append_nil] at e
    subst e
    refine n2 _ (ssn ?_)
    dsimp only [r_lit, r_var, r_bin, r_neg, r_not, r_list, r_tup, r_cmp, r_band, r_bor, r_idx, r_slc, r_attr, r_bi, r_call, r_me, r_imeth, r_comp, r_comp2, r_ite, r_ch2, r_es0, r_es1, r_ch1, r_bo1, r_bo2, r_tnot, r_tband, r_tbor, r_tcmp, r_tvar, r_tcall, r_tme, r_tidx, r_tbi, r_ts0, r_ts1, r_tgs0, r_tgs1, r_sexpr, r_sassign, r_saug, r_sdel, r_sife, r_swhl, r_sfr, r_sret, r_ss0, r_ss1, tg_var, tg_tup, tg_idx, tg_slc, bin_add, bin_sub, bin_mul, bin_div, bin_mod, bin_cat, cmp_eqi, cmp_eqs, cmp_nei, cmp_nes, cmp_lt, cmp_le, cmp_gt, cmp_ge, cmp_isn, cmp_ist, cmp_notn, cmp_nott, tr_none, tr_bool, tr_int, tr_str, tr_tup, ix_str, ix_tup, sl_ii, sl_in, sl_ni, bi_lens, bi_lent, bi_min, bi_max, bi_rng, bi_rng2, me_find, me_find2, ok_find, me_app, ok_app, me_ins, me_pop, me_join, me_ends, me_starts, ok_ins, ok_pop, ok_join, ok_ends, ok_starts, it_str, it_rng, neg_int, aug_addi, aug_adds, aug_subi, St.set, St.setAll, List.map_cons, List.map_nil, List.replicate, List.cons_append, List.nil_append, List.getElem?_cons_succ, List.getElem?_cons_zero, List.set_cons_succ, List.set_cons_zero, List.length_cons, List.length_nil, dreduceIte, retV, ix_lst]
    refine ⟨by walk_at "t", _, .int (edits a b : Nat), hl1, (pyGet_last _ (by rw [tb6_len]; lia)).trans ?_, h _ g1⟩
    have := tb6_get (u := a.reverse) (b := b) (Nat.lt_succ_self b.length)
    rw [pyGet_nn _ _ (by rw [tb6_len]; exact Nat.lt_succ_self _), List.take_length] at this
    rw [tb6_len]; exact this
end
noncomputable def f_law_signsPs : List Str := ["numbers"]
noncomputable def f_law_signsRest : List Str := []
noncomputable def f_law_signsNames : List (Str × NameKind) := []
noncomputable def f_law_signsCells : List Str := []
noncomputable def f_law_signsBody : List Sm := [
    .ret (.me (.lit (.str [])) .join [.comp (.idx (.tup [.lit (.str ['a']), .lit (.str ['b']), .lit (.str ['c']), .lit (.str [])]) (.bin .Mod (.var 0) (.lit (.int 4)))) true [0] (.var 0) [] 1 []])]
noncomputable def f_law_singlePs : List Str := ["parts"]
noncomputable def f_law_singleRest : List Str := []
noncomputable def f_law_singleNames : List (Str × NameKind) := []
noncomputable def f_law_singleCells : List Str := []
noncomputable def f_law_singleBody : List Sm := [
    .ret (.comp2 (.tup [.var 0, .var 2]) false [0, 1] (.var 0) (.var 1) 2 3 [])]
noncomputable def f_law_textPs : List Str := ["parts", "left_out"]
noncomputable def f_law_textRest : List Str := []
noncomputable def f_law_textNames : List (Str × NameKind) := []
noncomputable def f_law_textCells : List Str := ["left_out"]
noncomputable def f_law_textBody : List Sm := [
    .ret (.me (.lit (.str [])) .join [.comp (.var 1) false [0, 1] (.var 0) [.cmp (.var 0) [.NotEq] [.var 2]] 2 [1]])]
noncomputable def f_law_stretchesPs : List Str := ["parts"]
noncomputable def f_law_stretchesRest : List Str := ["total", "taken", "given", "kind", "text"]
noncomputable def f_law_stretchesNames : List (Str × NameKind) := [("_law_edits", .globalImplicit)]
noncomputable def f_law_stretchesCells : List Str := []
noncomputable def f_law_stretchesB1 : List Sm := [
    .aug 1 .Add (.call "_law_edits" [.var 2, .var 3]),
    .assign [.var 2] (.lit (.str [])),
    .assign [.var 3] (.lit (.str []))]
noncomputable def f_law_stretchesB2 : List Sm := [
    .ife (.cmp (.var 4) [.Eq] [.neg (.lit (.int 1))]) [
      .aug 2 .Add (.var 5)] [
      .ife (.cmp (.var 4) [.Eq] [.lit (.int 1)]) [
        .aug 3 .Add (.var 5)] f_law_stretchesB1]]
noncomputable def f_law_stretchesBody : List Sm := [
    .assign [.var 1] (.lit (.int 0)),
    .assign [.var 2] (.lit (.str [])),
    .assign [.var 3] (.lit (.str [])),
    .fr (.tup [4, 5]) (.var 0) f_law_stretchesB2,
    .ret (.bin .Add (.var 1) (.call "_law_edits" [.var 2, .var 3]))]
noncomputable def f_law_capitalsPs : List Str := ["parts"]
noncomputable def f_law_capitalsRest : List Str := ["row", "kind", "text"]
noncomputable def f_law_capitalsNames : List (Str × NameKind) := []
noncomputable def f_law_capitalsCells : List Str := []
noncomputable def f_law_capitalsB1 : List Sm := [
    .ife (.cmp (.var 2) [.Eq] [.lit (.int 1)]) [
      .assign [.var 3] (.me (.lit (.str [])) .join [.comp (.bi .chr [.bin .Sub (.bi .ord [.var 0]) (.lit (.int 32))]) true [0] (.var 3) [] 1 []])] [],
    .expr (.me (.var 1) .append [.tup [.var 2, .var 3]])]
noncomputable def f_law_capitalsBody : List Sm := [
    .assign [.var 1] (.list []),
    .fr (.tup [2, 3]) (.var 0) f_law_capitalsB1,
    .ret (.var 1)]
noncomputable def f_law_turnedPs : List Str := ["parts"]
noncomputable def f_law_turnedRest : List Str := []
noncomputable def f_law_turnedNames : List (Str × NameKind) := [("sum", .globalImplicit)]
noncomputable def f_law_turnedCells : List Str := []
noncomputable def f_law_turnedBody : List Sm := [
    .ret (.bi .sum [.comp (.bi .len [.var 1]) false [0, 1] (.var 0) [.cmp (.var 0) [.NotEq] [.lit (.int 0)]] 2 []])]
noncomputable def sg6 (i : Int) : Tx := if i % 4 = 0 then ['a'] else if i % 4 = 1 then ['b'] else if i % 4 = 2 then ['c'] else []
noncomputable def signs6 (ns : List Int) : Tx := (ns.map sg6).flatten
theorem sg6_get (i : Int) : pyGet [V.str ['a'], .str ['b'], .str ['c'], .str []] (i % 4) = some (.str (sg6 i)) := by
  obtain h | h | h | h : i % 4 = 0 ∨ i % 4 = 1 ∨ i % 4 = 2 ∨ i % 4 = 3 := by grind
  all_goals (unfold sg6; rw [h]; rfl)
theorem sg6_ok (i : Int) : (sg6 i).length ≤ 1 ∧ ∀ c ∈ sg6 i, Abc c := by
  unfold sg6 Abc
  split
  · exact ⟨Nat.le_refl _, fun c h => .inl (List.mem_singleton.mp h)⟩
  · split
    · exact ⟨Nat.le_refl _, fun c h => .inr (.inl (List.mem_singleton.mp h))⟩
    · split
      · exact ⟨Nat.le_refl _, fun c h => .inr (.inr (List.mem_singleton.mp h))⟩
      · exact ⟨Nat.zero_le _, fun c h => nomatch h⟩
theorem signs6_ok : ∀ ns : List Int, (signs6 ns).length ≤ ns.length ∧ ∀ c ∈ signs6 ns, Abc c
  | [] => ⟨Nat.le_refl _, fun _ h => nomatch h⟩
  | i :: ns => by
    obtain ⟨h1, h2⟩ := signs6_ok ns
    obtain ⟨k1, k2⟩ := sg6_ok i
    show (sg6 i ++ signs6 ns).length ≤ _ ∧ ∀ c ∈ sg6 i ++ signs6 ns, _
    refine ⟨by rw [List.length_append, List.length_cons]; omega, fun c h => (List.mem_append.mp h).elim (k2 c) (h2 c)⟩
section
variable {P : PC} {Q : V → Mem → Prop} {m : Mem} {d : Addr} {r : Row}
theorem w_signs6 {ns : List Int} (hm : m d = some (.list (ns.map V.int))) (hn : ns.length ≤ 63) (h : ∀ m', Gr m m' → Q (.str (signs6 ns)) m') :
    wpSs P f_law_signsBody (fun fl σ' => Q (retV fl) σ'.mem) ⟨[V.obj d].map some ++ List.replicate 0 none, m⟩ := by
  unfold f_law_signsBody
  refine ss_ret fun Q1 _ n1 => ?_
  walk_at "D"
  have sl : sma (ns.map V.int).length := by rw [List.length_map]; unfold sma; exact Nat.le_trans ‹_› (by decide)
  refine ⟨trivial, _, hm, sl, sl, ?_⟩
  refine wpComp_map (fun σ => ∃ x, σ = ⟨[x], m⟩) V.int (fun i => some (.str (sg6 i))) ns [] _ ⟨none, rfl⟩ (by rintro _ ⟨x, rfl⟩; exact hm) ?_ ?_
  · rintro i _ _ ⟨x, rfl⟩ K K' _ h2
    have h2 := h2 _ rfl
    rw [bindIs_one]
    walk_at "D"
    exact ⟨by decide, by walk_at "t", _, sg6_get i, h2 _ ⟨_, rfl⟩⟩
  · rintro _ ⟨x, rfl⟩ a ha
    walk_at "D"
    have l1 := (signs6_ok ns).1
    refine ⟨rfl, ns.map sg6, ?_, by rw [List.length_map]; lia, by show (signs6 ns).length ≤ _; lia, n1 _ _ (h _ (.new ha _))⟩
    rw [ups]
    show some (O.list (ns.filterMap fun i => some (V.str (sg6 i)))) = _
    rw [List.map_map]
    exact congrArg (fun l => some (O.list l)) (congrFun (List.filterMap_eq_map' (f := fun i : Int => V.str (sg6 i))) ns)
theorem w_single (hm : m d = some (.list (rv r))) (hs : phi r ≤ 900) (h : ∀ m' c, Gr m m' → m c = none → m' c = some (.list (rv (cut r))) → Q (.obj c) m') :
    wpSs P f_law_singleBody (fun fl σ' => Q (retV fl) σ'.mem) ⟨[V.obj d].map some ++ List.replicate 0 none, m⟩ := by
  unfold f_law_singleBody
  refine ss_ret fun Q1 _ n1 => ?_
  simp only [r_sret]
  exact comp_cut (L := [some (.obj d)]) hm hs rfl fun c hc => n1 _ _ (h _ c (.new hc _) hc (ups _ _ _))
theorem w_turned (hm : m d = some (.list (rv r))) (hs : phi r ≤ 1000) (h : ∀ m', Gr m m' → Q (.int (turned r)) m') :
    wpSs P f_law_turnedBody (fun fl σ' => Q (retV fl) σ'.mem) ⟨[V.obj d].map some ++ List.replicate 0 none, m⟩ := by
  unfold f_law_turnedBody
  refine ss_ret fun Q1 _ n1 => ?_
  simp only [r_sret]
  exact sum_turned (L := [some (.obj d)]) hm hs rfl fun m' g => n1 _ _ (h _ g)
noncomputable def pkT (k : Int) (p : Part) : Option V := if p.1 = k then none else some (.str p.2)
theorem pick_list (k : Int) (r : Row) : r.filterMap (pkT k) = (pick1 k r).map V.str := by
  induction r with
  | nil => rfl
  | cons p r ih =>
    rw [pick1_cons]
    by_cases q : p.1 = k
    · rw [List.filterMap_cons_none (show pkT k p = none from if_pos q), if_pos q, ih]
    · rw [List.filterMap_cons_some (show pkT k p = _ from if_neg q), if_neg q, ih]; rfl
theorem w_text {k : Int} (hk : k = -1 ∨ k = 1) (hm : m d = some (.list (rv r))) (hK : Kinds r) (hφ : phi r ≤ 1000) (h : ∀ m', Gr m m' → Q (.str (side (-k) r)) m') :
    wpSs P f_law_textBody (fun fl σ' => Q (retV fl) σ'.mem) ⟨[V.obj d, .int k].map some ++ List.replicate 0 none, m⟩ := by
  have hL := llp r
  obtain ⟨p1, p2, p3⟩ := pick1_side hk hK
  unfold f_law_textBody
  refine ss_ret fun Q1 _ n1 => ?_
  walk_at "D"
  refine ⟨trivial, it_row hm (by lia) ⟨by rw [rv_len]; unfold sma; lia, ?_⟩⟩
  refine wpComp_map (fun σ => ∃ x y, σ = ⟨[x, y, some (.int k)], m⟩) pv (pkT k) r [] _ ⟨none, none, rfl⟩ (by rintro _ ⟨x, y, rfl⟩; exact hm) ?_ ?_
  · rintro ⟨j, u⟩ _ _ ⟨x, y, rfl⟩ K K' h1 h2
    have g1 : j = k → ∀ σ', (∃ x y, σ' = ⟨[x, y, some (.int k)], m⟩) → K' σ' := fun q => h1 (if_pos q)
    have g2 : ¬ j = k → ∀ σ', (∃ x y, σ' = ⟨[x, y, some (.int k)], m⟩) → K (.str u) σ' := fun q => h2 _ (if_neg q)
    refine ⟨rfl, ?_⟩
    walk_at "D"
    by_cases q : j = k
    · rw [decide_eq_true q]; exact g1 q _ ⟨_, _, rfl⟩
    · rw [decide_eq_false q]; exact g2 q _ ⟨_, _, rfl⟩
  · rintro _ ⟨x, y, rfl⟩ a ha
    walk_at "D"
    refine ⟨rfl, pick1 k r, ?_, by lia, by lia, n1 _ _ ?_⟩
    · rw [ups]; exact congrArg (fun l => some (O.list l)) (pick_list k r)
    · rw [p1]; exact h _ (.new ha _)
noncomputable def editsIs (P : PC) : Prop := ∀ (a b : Tx) (Q : V → Mem → Prop) (m : Mem), a.length ≤ 1000 → b.length ≤ 1000 → (∀ m', Gr m m' → Q (.int (edits a b : Nat)) m') → P.call "_law_edits" [.str a, .str b] Q m
inductive Sw6 (d : Addr) (m : Mem) (N : Nat) (rest : Row) (σ : St) : Prop
  | mk (c : Nat) (t g : Tx) (x y : Option V) (m' : Mem) : σ = ⟨[some (.obj d), some (.int c), some (.str t), some (.str g), x, y], m'⟩ → Gr m m' → c + strG t g rest = N → t.length + g.length + phi rest ≤ 1000 → Kinds rest → Sw6 d m N rest σ
theorem w_str (hE : editsIs P) (hm : m d = some (.list (rv r))) (hK : Kinds r) (hφ : phi r ≤ 1000) (h : ∀ m', Gr m m' → Q (.int (strG [] [] r : Nat)) m') :
    wpSs P f_law_stretchesBody (fun fl σ' => Q (retV fl) σ'.mem) ⟨[V.obj d].map some ++ List.replicate 5 none, m⟩ := by
  have hL := llp r
  show wpSs P _ _ ⟨[some (.obj d), none, none, none, none, none], m⟩
  unfold f_law_stretchesBody
  refine ss_ret fun Q1 n1 r1 => ?_
  walk_at "D"
  refine n1 _ (ss_ret fun Q2 n2 r2 => ?_)
  walk_at "D"
  refine n2 _ (ss_ret fun Q3 n3 r3 => ?_)
  walk_at "D"
  refine n3 _ (ss_ret fun Q4 n4 r4 => ?_)
  simp only [r_sfr]
  walk_at "D"
  refine it_row hm (by lia) ?_
  refine loop_map pv (Sw6 d m (strG [] [] r)) (fun l' σ i => ?_) (fun p l' σ i Q5 n5 r5 => ?_) (fun σ i => ?_) r _ ⟨0, [], [], none, none, m, rfl, .refl _, Nat.zero_add _, by simpa using hφ, hK⟩
  · obtain ⟨c, t, g, x, y, m', rfl, gr, _⟩ := i
    exact gr _ _ hm
  · obtain ⟨c, t, g, x, y, m', rfl, gr, q, hs, hk⟩ := i
    obtain ⟨k, u⟩ := p
    rw [phi_cons] at hs
    replace hs : t.length + g.length + (u.length + 1 + phi l') ≤ 1000 := hs
    have st : sma t.length := by unfold sma; lia
    have sg : sma g.length := by unfold sma; lia
    have su : sma u.length := by unfold sma; lia
    refine ⟨rfl, ?_⟩
    show wpSs P _ Q5 ⟨[some (.obj d), some (.int c), some (.str t), some (.str g), some (.int k), some (.str u)], m'⟩
    unfold f_law_stretchesB2
    refine ssn (s_ife fun K kt kf => ?_)
    walk_at "D"
    rcases hk.head with z | z | z <;> (replace z : k = _ := z; subst z)
    · refine kt _ (ssn ?_)
      walk_at "D"
      rw [strG_d] at q
      exact ⟨st, su, n5 _ ⟨c, t ++ u, g, _, _, m', rfl, gr, q, by rw [List.length_append]; lia, hk.tail⟩⟩
    · refine kf _ (ssn (s_ife fun K kt kf => ?_))
      walk_at "D"
      refine kf _ ?_
      unfold f_law_stretchesB1
      refine ss_ret fun Q6 n6 r6 => ?_
      walk_at "D"
      refine hE t g _ _ (by lia) (by lia) fun m2 g2 => ?_
      walk_at "D"
      refine n6 _ (ss_ret fun Q7 n7 r7 => ?_)
      walk_at "D"
      refine n7 _ (ssn ?_)
      walk_at "D"
      rw [strG_k, ← Nat.add_assoc] at q
      exact n5 _ ⟨c + edits t g, [], [], _, _, m2, rfl, gr.trans g2, q, by simp only [List.length_nil]; lia, hk.tail⟩
    · refine kf _ (ssn (s_ife fun K kt kf => ?_))
      walk_at "D"
      refine kt _ (ssn ?_)
      walk_at "D"
      rw [strG_i] at q
      exact ⟨sg, su, n5 _ ⟨c, t, g ++ u, _, _, m', rfl, gr, q, by rw [List.length_append]; lia, hk.tail⟩⟩
  · obtain ⟨c, t, g, x, y, m', rfl, gr, q, hs, _⟩ := i
    refine n4 _ (ssn ?_)
    walk_at "D"
    rw [phi_nil] at hs
    refine hE t g _ _ (by lia) (by lia) fun m2 g2 => ?_
    walk_at "D"
    have h := h m2 (gr.trans g2)
    rw [← q] at h
    exact h
theorem one_flat (u : Tx) : (u.map fun c => [upC c]).flatten = u.map upC := by
  induction u with
  | nil => rfl
  | cons c u ih => rw [List.map_cons, List.flatten_cons, ih]; rfl
theorem up_int {c : Char} (h : Abc c) : (c.toNat : Int) - 32 = (upC c).toNat := by rcases h with rfl | rfl | rfl <;> rfl
inductive Cw6 (d l : Addr) (r : Row) (m m1 : Mem) (rest : Row) (σ : St) : Prop
  | mk (pre : Row) (x y : Option V) (m' : Mem) : σ = ⟨[some (.obj d), some (.obj l), x, y], m'⟩ → r = pre ++ rest → Ext l m1 m' → m' l = some (.list (rv (caps pre))) → m' d = some (.list (rv r)) → Cw6 d l r m m1 rest σ
theorem w_caps (hm : m d = some (.list (rv r))) (hK : Kinds r) (hφ : phi r ≤ 1000) (hA : ∀ c ∈ side 1 r, Abc c) (h : ∀ m' c, Gr m m' → m' c = some (.list (rv (caps r))) → Q (.obj c) m') :
    wpSs P f_law_capitalsBody (fun fl σ' => Q (retV fl) σ'.mem) ⟨[V.obj d].map some ++ List.replicate 3 none, m⟩ := by
  have hL := llp r
  show wpSs P _ _ ⟨[some (.obj d), none, none, none], m⟩
  unfold f_law_capitalsBody
  refine ss_ret fun Q1 n1 r1 => ?_
  walk_at "D"
  intro l hl
  refine n1 _ (ss_ret fun Q2 n2 r2 => ?_)
  have gl := Gr.new hl (.list [])
  have hl1 : upd m l (.list []) l = some (.list ([] : List V)) := ups _ _ _
  generalize hm1 : upd m l (.list []) = m1 at *
  have hd1 : m1 d = some (.list (rv r)) := gl _ _ hm
  have hne : l ≠ d := fun e => by subst e; rw [hm] at hl; exact (Option.some_ne_none _ hl).elim
  simp only [r_sfr]
  walk_at "D"
  refine it_row hd1 (by lia) ?_
  refine loop_map pv (Cw6 d l r m m1) (fun l' σ i => ?_) (fun p l' σ i Q3 n3 r3 => ?_) (fun σ i => ?_) r _ ⟨[], none, none, m1, rfl, rfl, .refl _ _, hl1, hd1⟩
  · obtain ⟨pre, x, y, m', rfl, _, _, _, hd⟩ := i
    exact hd
  · obtain ⟨pre, x, y, m', rfl, e, hx, h1, hd⟩ := i
    obtain ⟨j, u⟩ := p
    have e2 : r = (pre ++ [(j, u)]) ++ l' := by rw [e]; simp
    have hu : u.length < phi r := txt_le_phi (p := (j, u)) (by rw [e]; simp)
    have su : sma u.length := by unfold sma; lia
    have sp : sma (rv (caps pre)).length := by
      have := congrArg List.length e
      rw [List.length_append] at this
      rw [rv_len]; unfold caps sma; rw [List.length_map]; lia
    refine ⟨rfl, ?_⟩
    show wpSs P _ Q3 ⟨[some (.obj d), some (.obj l), some (.int j), some (.str u)], m'⟩
    unfold f_law_capitalsB1
    have fin : ∀ (w : Tx) (m2 : Mem), capP (j, u) = (j, w) → Gr m' m2 → wpSs P [.expr (.me (.var 1) .append [.tup [.var 2, .var 3]])] Q3 ⟨[some (.obj d), some (.obj l), some (.int j), some (.str w)], m2⟩ := fun w m2 ew g2 => by
      refine ssn ?_
      walk_at "D"
      have h2 := g2 _ _ h1
      refine ⟨⟨_, h2⟩, _, h2, sp, n3 _ ⟨pre ++ [(j, u)], _, _, _, rfl, e2, fun a o ha ho => ?_, ?_, ?_⟩⟩
      · rw [upn _ _ ha]; exact g2 _ _ (hx a o ha ho)
      · rw [ups]
        unfold caps
        rw [List.map_append, ← rv_app]
        show some (O.list (rv (pre.map capP) ++ [pv (j, w)])) = some (O.list (rv (pre.map capP) ++ [pv (capP (j, u))]))
        rw [ew]
      · rw [upn _ _ (Ne.symm hne)]; exact g2 _ _ hd
    refine ss_ret fun Q4 n4 r4 => s_ife fun K kt kf => ?_
    walk_at "D"
    by_cases z : j = 1
    · subst z
      rw [decide_eq_true rfl]
      refine kt _ (ssn ?_)
      walk_at "D"
      refine ⟨trivial, su, by rw [List.length_map]; exact su, ?_⟩
      refine wpComp_map (fun σ => ∃ x, σ = ⟨[x], m'⟩) (fun c : Char => V.str [c]) (fun c => some (.str [upC c])) u [] _ ⟨none, rfl⟩ (fun _ _ => trivial) ?_ ?_
      · rintro c hc _ ⟨x, rfl⟩ K K' _ h2
        have h2 := h2 _ rfl
        have hAc : Abc c := hA c (by rw [e, sda, side_s]; exact List.mem_append_right _ (List.mem_append_left _ hc))
        rw [bindIs_one]
        dsimp only [r_lit, r_var, r_bin, r_neg, r_not, r_list, r_tup, r_cmp, r_band, r_bor, r_idx, r_slc, r_attr, r_bi, r_call, r_me, r_imeth, r_comp, r_comp2, r_ite, r_ch2, r_es0, r_es1, r_ch1, r_bo1, r_bo2, r_tnot, r_tband, r_tbor, r_tcmp, r_tvar, r_tcall, r_tme, r_tidx, r_tbi, r_ts0, r_ts1, r_tgs0, r_tgs1, r_sexpr, r_sassign, r_saug, r_sdel, r_sife, r_swhl, r_sfr, r_sret, r_ss0, r_ss1, tg_var, tg_tup, tg_idx, tg_slc, bin_add, bin_sub, bin_mul, bin_div, bin_mod, bin_cat, cmp_eqi, cmp_eqs, cmp_nei, cmp_nes, cmp_lt, cmp_le, cmp_gt, cmp_ge, cmp_isn, cmp_ist, cmp_notn, cmp_nott, tr_none, tr_bool, tr_int, tr_str, tr_tup, ix_str, ix_tup, sl_ii, sl_in, sl_ni, bi_lens, bi_lent, bi_min, bi_max, bi_rng, bi_rng2, me_find, me_find2, ok_find, me_app, ok_app, me_ins, me_pop, me_join, me_ends, me_starts, ok_ins, ok_pop, ok_join, ok_ends, ok_starts, it_str, it_rng, neg_int, aug_addi, aug_adds, aug_subi, St.set, St.setAll, List.map_cons, List.map_nil, List.replicate, List.cons_append, List.nil_append, List.getElem?_cons_succ, List.getElem?_cons_zero, List.set_cons_succ, List.set_cons_zero, List.length_cons, List.length_nil, dreduceIte, retV, bi_ord]
        refine ⟨c, rfl, ?_⟩
        dsimp only [r_lit, r_var, r_bin, r_neg, r_not, r_list, r_tup, r_cmp, r_band, r_bor, r_idx, r_slc, r_attr, r_bi, r_call, r_me, r_imeth, r_comp, r_comp2, r_ite, r_ch2, r_es0, r_es1, r_ch1, r_bo1, r_bo2, r_tnot, r_tband, r_tbor, r_tcmp, r_tvar, r_tcall, r_tme, r_tidx, r_tbi, r_ts0, r_ts1, r_tgs0, r_tgs1, r_sexpr, r_sassign, r_saug, r_sdel, r_sife, r_swhl, r_sfr, r_sret, r_ss0, r_ss1, tg_var, tg_tup, tg_idx, tg_slc, bin_add, bin_sub, bin_mul, bin_div, bin_mod, bin_cat, cmp_eqi, cmp_eqs, cmp_nei, cmp_nes, cmp_lt, cmp_le, cmp_gt, cmp_ge, cmp_isn, cmp_ist, cmp_notn, cmp_nott, tr_none, tr_bool, tr_int, tr_str, tr_tup, ix_str, ix_tup, sl_ii, sl_in, sl_ni, bi_lens, bi_lent, bi_min, bi_max, bi_rng, bi_rng2, me_find, me_find2, ok_find, me_app, ok_app, me_ins, me_pop, me_join, me_ends, me_starts, ok_ins, ok_pop, ok_join, ok_ends, ok_starts, it_str, it_rng, neg_int, aug_addi, aug_adds, aug_subi, St.set, St.setAll, List.map_cons, List.map_nil, List.replicate, List.cons_append, List.nil_append, List.getElem?_cons_succ, List.getElem?_cons_zero, List.set_cons_succ, List.set_cons_zero, List.length_cons, List.length_nil, dreduceIte, retV, bi_chr]
        exact ⟨upC c, up_int hAc, h2 _ ⟨_, rfl⟩⟩
      · rintro _ ⟨x, rfl⟩ a ha
        walk_at "D"
        refine ⟨rfl, u.map fun c => [upC c], ?_, by rw [List.length_map]; lia, by rw [one_flat, List.length_map]; lia, n4 _ ?_⟩
        · rw [ups, List.map_map]
          exact congrArg (fun l => some (O.list l)) (congrFun (List.filterMap_eq_map' (f := fun c : Char => V.str [upC c])) u)
        · rw [one_flat]
          exact fin _ _ (cap_1 u) (.new ha _)
    · rw [decide_eq_false z]
      exact kf _ (ss_nil (n4 _ (fin u m' (cap_x u z) (.refl _))))
  · obtain ⟨pre, x, y, m', rfl, e, hx, h1, hd⟩ := i
    rw [List.append_nil] at e
    subst e
    refine n2 _ (ssn ?_)
    walk_at "D"
    exact h m' l (fun x o e => hx x o (fun q => by subst q; rw [hl] at e; exact (Option.some_ne_none _ e.symm).elim) (gl x o e)) h1
end
noncomputable def f_law_joinedPs : List Str := ["early", "late"]
noncomputable def f_law_joinedRest : List Str := ["waiting", "seen", "joined", "kind", "sign", "fate"]
noncomputable def f_law_joinedNames : List (Str × NameKind) := [("_law_single", .globalImplicit), ("len", .globalImplicit)]
noncomputable def f_law_joinedCells : List Str := []
noncomputable def f_law_joinedB1 : List Sm := [
    .expr (.me (.var 4) .append [.idx (.var 2) (.var 3)]),
    .aug 3 .Add (.lit (.int 1))]
noncomputable def f_law_joinedB2 : List Sm := [
    .assign [.var 7] (.idx (.idx (.var 2) (.var 3)) (.lit (.int 0))),
    .aug 3 .Add (.lit (.int 1)),
    .ife (.cmp (.var 5) [.Eq] [.lit (.int 0)]) [
      .expr (.me (.var 4) .append [.tup [.var 7, .var 6]])] [
      .ife (.cmp (.var 7) [.Eq] [.lit (.int 0)]) [
        .expr (.me (.var 4) .append [.tup [.lit (.int 1), .var 6]])] []]]
noncomputable def f_law_joinedB3 : List Sm := [
    .whl (.band [.cmp (.var 3) [.Lt] [.bi .len [.var 2]], .cmp (.idx (.idx (.var 2) (.var 3)) (.lit (.int 0))) [.Eq] [.lit (.int 1)]]) f_law_joinedB1,
    .ife (.cmp (.var 5) [.Eq] [.neg (.lit (.int 1))]) [
      .expr (.me (.var 4) .append [.tup [.neg (.lit (.int 1)), .var 6]])] f_law_joinedB2]
noncomputable def f_law_joinedBody : List Sm := [
    .assign [.var 2] (.call "_law_single" [.var 1]),
    .assign [.var 3] (.lit (.int 0)),
    .assign [.var 4] (.list []),
    .fr (.tup [5, 6]) (.call "_law_single" [.var 0]) f_law_joinedB3,
    .ret (.bin .Add (.var 4) (.slc (.var 2) (.var 3) (.lit .none) (.lit .none)))]
noncomputable def Ones (r : Row) : Prop := ∀ p ∈ r, p.2.length = 1
theorem ones_cut (r : Row) : Ones (cut r) := fun p h => by
  unfold cut at h
  obtain ⟨q, _, h⟩ := List.mem_flatMap.mp h
  obtain ⟨c, _, rfl⟩ := List.mem_map.mp h
  rfl
structure JI (E0 W0 E : Row) (s : Nat) (pre : Row) : Prop where
  le : s ≤ W0.length
  c : ∀ R, Jn E (W0.drop s) R → Jn E0 W0 (pre ++ R)
  eq : side 1 E = side (-1) (W0.drop s)
  k : Kinds E
  o : Ones E
  n : pre.length + E.length ≤ s + E0.length
section
variable {P : PC} {Q : V → Mem → Prop} {m : Mem} {E0 W0 E : Row} {e l : Addr} {w j : Addr}
noncomputable abbrev jS (e l w : Addr) (s : Nat) (j : Addr) (x y z : Option V) (m : Mem) : St := ⟨[some (.obj e), some (.obj l), some (.obj w), some (.int s), some (.obj j), x, y, z], m⟩
inductive JW (E0 W0 E : Row) (e l w j : Addr) (x y z : Option V) (m1 : Mem) (n : Nat) (σ : St) : Prop
  | mk (s : Nat) (pre : Row) (m' : Mem) : σ = jS e l w s j x y z m' → n = W0.length - s → JI E0 W0 E s pre → Ext j m1 m' → m' j = some (.list (rv pre)) → JW E0 W0 E e l w j x y z m1 n σ
theorem rv_atN {r : Row} {s : Nat} (h : s < r.length) : pyGet (rv r) (s : Int) = some (pv r[s]) := by
  rw [pyGet_nn _ _ (by rw [rv_len]; exact h)]
  unfold rv
  rw [List.getElem?_map, List.getElem?_eq_getElem h]; rfl
theorem jn_while {x y z : Option V} {m1 m0 : Mem} {s0 : Nat} {pre0 : Row} {QQ : Fl → St → Prop} (hw : m1 w = some (.list (rv W0))) (hne : w ≠ j) (hs : E0.length + W0.length ≤ 900) (J0 : JI E0 W0 E s0 pre0) (x0 : Ext j m1 m0) (h0 : m0 j = some (.list (rv pre0)))
    (h : ∀ s pre m', JI E0 W0 E s pre → Ext j m1 m' → m' j = some (.list (rv pre)) → (∀ q : s < W0.length, W0[s].1 ≠ 1) → QQ .next (jS e l w s j x y z m')) :
    wpS P (.whl (.band [.cmp (.var 3) [.Lt] [.bi .len [.var 2]], .cmp (.idx (.idx (.var 2) (.var 3)) (.lit (.int 0))) [.Eq] [.lit (.int 1)]]) f_law_joinedB1) QQ (jS e l w s0 j x y z m0) := by
  refine ⟨JW E0 W0 E e l w j x y z m1, ⟨_, s0, pre0, m0, rfl, rfl, J0, x0, h0⟩, ?_⟩
  rintro n σ ⟨s, pre, m', rfl, rfl, J, x1, h1⟩
  have hw' := x1 _ _ hne hw
  have sw : sma W0.length := by unfold sma; lia
  have sp : sma pre.length := by have := J.n; have := J.le; unfold sma; lia
  dsimp only [r_lit, r_var, r_bin, r_neg, r_not, r_list, r_tup, r_cmp, r_band, r_bor, r_idx, r_slc, r_attr, r_bi, r_call, r_me, r_imeth, r_comp, r_comp2, r_ite, r_ch2, r_es0, r_es1, r_ch1, r_bo1, r_bo2, r_tnot, r_tband, r_tbor, r_tcmp, r_tvar, r_tcall, r_tme, r_tidx, r_tbi, r_ts0, r_ts1, r_tgs0, r_tgs1, r_sexpr, r_sassign, r_saug, r_sdel, r_sife, r_swhl, r_sfr, r_sret, r_ss0, r_ss1, tg_var, tg_tup, tg_idx, tg_slc, bin_add, bin_sub, bin_mul, bin_div, bin_mod, bin_cat, cmp_eqi, cmp_eqs, cmp_nei, cmp_nes, cmp_lt, cmp_le, cmp_gt, cmp_ge, cmp_isn, cmp_ist, cmp_notn, cmp_nott, tr_none, tr_bool, tr_int, tr_str, tr_tup, ix_str, ix_tup, sl_ii, sl_in, sl_ni, bi_lens, bi_lent, bi_min, bi_max, bi_rng, bi_rng2, me_find, me_find2, ok_find, me_app, ok_app, me_ins, me_pop, me_join, me_ends, me_starts, ok_ins, ok_pop, ok_join, ok_ends, ok_starts, it_str, it_rng, neg_int, aug_addi, aug_adds, aug_subi, St.set, St.setAll, List.map_cons, List.map_nil, List.replicate, List.cons_append, List.nil_append, List.getElem?_cons_succ, List.getElem?_cons_zero, List.set_cons_succ, List.set_cons_zero, List.length_cons, List.length_nil, dreduceIte, retV, bi_leno]
  refine ⟨_, .inl hw', by rw [rv_len]; exact sw, ?_⟩
  rw [rv_len]
  by_cases q : s < W0.length
  · refine if_yes (Int.ofNat_lt.mpr q) ?_
    refine ⟨tiny_n (by lia), _, _, hw', rv_atN q, ?_⟩
    refine ix_fst ?_
    walk_at "D"
    by_cases z1 : W0[s].1 = 1
    · rw [decide_eq_true z1, if_pos rfl]
      unfold f_law_joinedB1
      refine ss_ret fun Q1 n1 _ => ?_
      walk_at "D"
      refine ⟨⟨_, h1⟩, ?_⟩
      refine ⟨tiny_n (by lia), _, _, hw', rv_atN q, ?_⟩
      walk_at "D"
      refine ⟨_, h1, by rw [rv_len]; exact sp, n1 _ (ssn ?_)⟩
      walk_at "D"
      have ed : W0.drop s = (1, W0[s].2) :: W0.drop (s + 1) := by rw [List.drop_eq_getElem_cons q, ← z1]
      refine ⟨_, ?_, s + 1, pre ++ [W0[s]], _, rfl, rfl, ⟨q, fun R hR => ?_, ?_, J.k, J.o, ?_⟩, x1.trans (.upd _ _ _), ?_⟩
      · lia
      · rw [List.append_assoc]
        refine J.c _ ?_
        rw [ed]
        show Jn E _ (W0[s] :: R)
        rw [show W0[s] = (1, W0[s].2) from Prod.ext z1 rfl]
        exact .ins _ hR
      · have := J.eq
        rwa [ed, side_mp] at this
      · have := J.n
        rw [List.length_append, List.length_singleton]; lia
      · rw [ups, ← rv_app]; rfl
    · rw [decide_eq_false z1, if_neg (by decide)]
      exact h s pre m' J x1 h1 fun _ => z1
  · exact if_no (fun z1 => q (Int.ofNat_lt.mp z1)) (h s pre m' J x1 h1 fun z1 => absurd z1 q)
theorem jn_turn {k : Int} {u : Tx} {E : Row} {z : Option V} {m1 m0 : Mem} {s0 : Nat} {pre0 : Row} {QQ : Fl → St → Prop} (hw : m1 w = some (.list (rv W0))) (hne : w ≠ j) (hs : E0.length + W0.length ≤ 900) (kW : Kinds W0) (oW : Ones W0) (J0 : JI E0 W0 ((k, u) :: E) s0 pre0) (x0 : Ext j m1 m0) (h0 : m0 j = some (.list (rv pre0)))
    (h : ∀ s pre z m', JI E0 W0 E s pre → Ext j m1 m' → m' j = some (.list (rv pre)) → QQ .next (jS e l w s j (some (.int k)) (some (.str u)) z m')) :
    wpSs P f_law_joinedB3 QQ (jS e l w s0 j (some (.int k)) (some (.str u)) z m0) := by
  unfold f_law_joinedB3
  refine ss_ret fun Q1 n1 _ => jn_while hw hne hs J0 x0 h0 fun s pre m' J x1 h1 hq => n1 _ (ssn (s_ife fun K kt kf => ?_))
  have hu : u.length = 1 := J.o (k, u) List.mem_cons_self
  have hw' := x1 _ _ hne hw
  have sp : sma (rv pre).length := by have := J.n; have := J.le; rw [rv_len]; unfold sma; lia
  have nl := J.n
  rw [List.length_cons] at nl
  have oE : Ones E := fun p hp => J.o p (List.mem_cons_of_mem _ hp)
  have kE := J.k.tail
  have put : ∀ (s' : Nat) (p : Part) (zz : Option V), s' ≤ W0.length → s ≤ s' → (∀ R, Jn E (W0.drop s') R → Jn ((k, u) :: E) (W0.drop s) (p :: R)) → side 1 E = side (-1) (W0.drop s') → QQ .next (jS e l w s' j (some (.int k)) (some (.str u)) zz (upd m' j (.list (rv pre ++ [pv p])))) := fun s' p zz hl hl2 hc he => by
    refine h s' (pre ++ [p]) zz _ ⟨hl, fun R hR => ?_, he, kE, oE, ?_⟩ (x1.trans (.upd _ _ _)) ?_
    · rw [List.append_assoc]; exact J.c _ (hc R hR)
    · rw [List.length_append, List.length_singleton]; lia
    · rw [ups, ← rv_app]; rfl
  have eJ := J.eq
  walk_at "D"
  have other : k ≠ -1 → ∃ q : s < W0.length, W0.drop s = (W0[s].1, u) :: W0.drop (s + 1) ∧ side 1 E = side (-1) (W0.drop (s + 1)) ∧ (W0[s].1 = 0 ∨ W0[s].1 = -1) := fun hk => by
    have e1 : side 1 ((k, u) :: E) = u ++ side 1 E := by
      rcases J.k.head with z | z | z
      · exact absurd z hk
      · replace z : k = 0 := z; subst z; exact side_0
      · replace z : k = 1 := z; subst z; exact side_s
    rw [e1] at eJ
    have q : s < W0.length := Nat.lt_of_not_le fun q => by
      rw [List.drop_eq_nil_of_le q] at eJ
      have := congrArg List.length eJ
      rw [List.length_append, hu] at this
      exact absurd this (by simp [side])
    have hk2 := kW _ (List.getElem_mem q)
    have h01 : W0[s].1 = 0 ∨ W0[s].1 = -1 := by
      rcases hk2 with z | z | z
      · exact .inr z
      · exact .inl z
      · exact absurd z (hq q)
    have e2 : side (-1) (W0.drop s) = W0[s].2 ++ side (-1) (W0.drop (s + 1)) := by
      rw [List.drop_eq_getElem_cons q]
      generalize W0[s] = p at *
      obtain ⟨i, v⟩ := p
      rcases h01 with z | z <;> (replace z : i = _ := z; subst z)
      · exact side_0
      · exact side_s
    rw [e2] at eJ
    obtain ⟨a1, a2⟩ := List.append_inj eJ (by rw [hu, oW _ (List.getElem_mem q)])
    exact ⟨q, by rw [List.drop_eq_getElem_cons q, a1], a2, h01⟩
  by_cases hk : k = -1
  · subst hk
    rw [decide_eq_true rfl]
    refine kt _ (ssn ?_)
    walk_at "D"
    refine ⟨⟨_, h1⟩, _, h1, sp, ?_⟩
    refine put s (-1, u) z J.le (Nat.le_refl _) (fun R hR => .del u hR) ?_
    rwa [side_pm] at eJ
  · obtain ⟨q, ed, eE, h01⟩ := other hk
    rw [decide_eq_false hk]
    refine kf _ ?_
    unfold f_law_joinedB2
    refine ss_ret fun Q2 n2 _ => ?_
    walk_at "D"
    refine ⟨tiny_n (by lia), _, _, hw', rv_atN q, ?_⟩
    refine ix_fst ?_
    refine n2 _ (ss_ret fun Q3 n3 _ => ?_)
    walk_at "D"
    refine n3 _ (ssn (s_ife fun K kt kf => ?_))
    walk_at "D"
    rcases J.k.head with z1 | z1 | z1
    · exact absurd z1 hk
    · replace z1 : k = 0 := z1
      subst z1
      rw [decide_eq_true rfl]
      refine kt _ (ssn ?_)
      walk_at "D"
      refine ⟨⟨_, h1⟩, _, h1, sp, ?_⟩
      refine put (s + 1) (W0[s].1, u) _ q (Nat.le_succ _) (fun R hR => ?_) eE
      rw [ed]
      rcases h01 with z2 | z2 <;> rw [z2]
      · exact .kk u hR
      · exact .kd u hR
    · replace z1 : k = 1 := z1
      subst z1
      rw [decide_eq_false (by decide)]
      refine kf _ (ssn (s_ife fun K kt kf => ?_))
      walk_at "D"
      rcases h01 with z2 | z2
      · rw [decide_eq_true z2]
        refine kt _ (ssn ?_)
        walk_at "D"
        refine ⟨⟨_, h1⟩, _, h1, sp, ?_⟩
        refine put (s + 1) (1, u) _ q (Nat.le_succ _) (fun R hR => ?_) eE
        rw [ed, z2]
        exact .ik u hR
      · rw [decide_eq_false (by rw [z2]; decide)]
        refine kf _ (ss_nil ?_)
        refine h (s + 1) pre _ m' ⟨q, fun R hR => J.c _ ?_, eE, kE, oE, by lia⟩ x1 h1
        rw [ed, z2]
        exact .id u hR
noncomputable def singleIs (P : PC) : Prop := ∀ (d : Addr) (r : Row) (Q : V → Mem → Prop) (m : Mem), m d = some (.list (rv r)) → phi r ≤ 900 → (∀ m' c, Gr m m' → m c = none → m' c = some (.list (rv (cut r))) → Q (.obj c) m') → P.call "_law_single" [.obj d] Q m
inductive JL (E0 W0 : Row) (e l w j c : Addr) (m1 : Mem) (E : Row) (σ : St) : Prop
  | mk (s : Nat) (pre : Row) (x y z : Option V) (m' : Mem) : σ = jS e l w s j x y z m' → JI E0 W0 E s pre → Ext j m1 m' → m' j = some (.list (rv pre)) → JL E0 W0 e l w j c m1 E σ
theorem w_joined {R0 R1 : Row} (hP : singleIs P) (he : m e = some (.list (rv R0))) (hl : m l = some (.list (rv R1))) (k0 : Kinds R0) (k1 : Kinds R1) (h0 : phi R0 ≤ 200) (h1 : phi R1 ≤ 200) (hE : side 1 R0 = side (-1) R1)
    (h : ∀ m' c J, Gr m m' → m' c = some (.list (rv J)) → Jn (cut R0) (cut R1) J → Q (.obj c) m') :
    wpSs P f_law_joinedBody (fun fl σ' => Q (retV fl) σ'.mem) ⟨[V.obj e, .obj l].map some ++ List.replicate 6 none, m⟩ := by
  have l0 := Nat.le_trans (llp _) (cut_phi R0)
  have l1 := Nat.le_trans (llp _) (cut_phi R1)
  show wpSs P _ _ ⟨[some (.obj e), some (.obj l), none, none, none, none, none, none], m⟩
  unfold f_law_joinedBody
  refine ss_ret fun Q1 n1 _ => ?_
  walk_at "D"
  refine hP l R1 _ _ hl (by lia) fun m2 w g2 hwn hw => n1 _ (ss_ret fun Q2 n2 _ => ?_)
  walk_at "D"
  refine n2 _ (ss_ret fun Q3 n3 _ => ?_)
  walk_at "D"
  intro j hj
  refine n3 _ (ss_ret fun Q4 n4 _ => ?_)
  simp only [r_sfr]
  walk_at "D"
  have g3 := Gr.new hj (.list [])
  have hj3 : upd m2 j (.list []) j = some (.list (rv [])) := ups _ _ _
  generalize upd m2 j (.list []) = m3 at *
  have hw3 := g3 _ _ hw
  have hne : w ≠ j := fun e => by subst e; rw [hw] at hj; cases hj
  refine hP e R0 _ _ (g3 _ _ (g2 _ _ he)) (by lia) fun m4 c g4 hcn hc => ?_
  have hw4 := g4 _ _ hw3
  have hcj : c ≠ j := fun e => by subst e; rw [hj3] at hcn; cases hcn
  refine it_row hc (by lia) ?_
  refine loop_map pv (JL (cut R0) (cut R1) e l w j c m4) (fun l' σ i => ?_) (fun p l' σ i Q5 n5 _ => ?_) (fun σ i => ?_) (cut R0) _ ⟨0, [], none, none, none, m4, rfl, ⟨Nat.zero_le _, fun R hR => hR, by rw [List.drop_zero, side_cut, side_cut]; exact hE, cut_kinds k0, ones_cut R0, by simp⟩, .refl _ _, g4 _ _ hj3⟩
  · obtain ⟨s, pre, x, y, z, m', rfl, J, x1, h1⟩ := i
    exact x1 _ _ hcj hc
  · obtain ⟨s, pre, x, y, z, m', rfl, J, x1, h1⟩ := i
    obtain ⟨k, u⟩ := p
    refine ⟨rfl, ?_⟩
    exact jn_turn (z := z) hw4 hne (by lia) (cut_kinds k1) (ones_cut R1) J x1 h1 fun s' pre' zz m' J' x' h' => n5 _ ⟨s', pre', _, _, zz, m', rfl, J', x', h'⟩
  · obtain ⟨s, pre, x, y, z, m', rfl, J, x1, h1⟩ := i
    refine n4 _ (ssn ?_)
    walk_at "D"
    have hw' := x1 _ _ hne hw4
    refine ⟨_, .inl hw', by rw [rv_len]; unfold sma; lia, fun a ha => ?_⟩
    have hja : j ≠ a := fun e => by subst e; rw [h1] at ha; cases ha
    have nl := J.n
    have ls := J.le
    rw [show pySt (rv (cut R1)) (some (s : Int)) none none = rv ((cut R1).drop s) from (pySl_from _ (by rw [rv_len]; exact ls)).trans List.map_drop.symm]
    refine ⟨_, _, (upn _ _ hja).trans h1, ups _ _ _, by rw [rv_len]; unfold sma; lia, by rw [rv_len, List.length_drop]; unfold sma; lia, fun b hb => ?_⟩
    refine h _ b (pre ++ (cut R1).drop s) (fun y o hy => ?_) ?_ (J.c _ (.nil _))
    · have y1 := g4 _ _ (g3 _ _ (g2 _ _ hy))
      have y2 : m' y = some o := x1 _ _ (fun e => by subst e; rw [g2 _ _ hy] at hj; cases hj) y1
      rw [upn _ _ (fun e => by subst e; rw [upn _ _ (fun e => by subst e; rw [y2] at ha; cases ha), y2] at hb; cases hb), upn _ _ (fun e => by subst e; rw [y2] at ha; cases ha)]
      exact y2
    · rw [ups, rv_app]
end
noncomputable def f_lawPs : List Str := ["script"]
noncomputable def f_lawRest : List Str := ["numbers", "first", "second", "third", "tool", "rows", "before", "after", "parts", "joined", "cleaned", "both"]
noncomputable def f_lawNames : List (Str × NameKind) := [("_law_signs", .globalImplicit), ("diff_match_patch", .globalImplicit), ("_law_text", .globalImplicit), ("_law_stretches", .globalImplicit), ("_law_joined", .globalImplicit), ("_law_capitals", .globalImplicit), ("_law_edits", .globalImplicit), ("_law_turned", .globalImplicit)]
noncomputable def f_lawCells : List Str := []
noncomputable def f_lawB1 : List Sm := [
    .assign [.var 9] (.imeth (.var 5) "diff_main" [.var 7, .var 8, .lit (.bool false)]),
    .ife (.bor [.cmp (.call "_law_text" [.var 9, .lit (.int 1)]) [.NotEq] [.var 7], .cmp (.call "_law_text" [.var 9, .neg (.lit (.int 1))]) [.NotEq] [.var 8]]) [
      .ret (.lit (.bool false))] [],
    .ife (.cmp (.imeth (.var 5) "diff_levenshtein" [.var 9]) [.NotEq] [.call "_law_stretches" [.var 9]]) [
      .ret (.lit (.bool false))] [],
    .expr (.me (.var 6) .append [.var 9])]
noncomputable def f_lawB2 : List Sm := [
    .ife (.cmp (.imeth (.var 5) "diff_levenshtein" [.var 9]) [.NotEq] [.call "_law_stretches" [.call "_law_capitals" [.var 9]]]) [
      .ret (.lit (.bool false))] []]
noncomputable def f_lawBody : List Sm := [
    .assign [.var 1] (.slc (.var 0) (.lit .none) (.lit (.int 18)) (.lit .none)),
    .assign [.var 2] (.call "_law_signs" [.slc (.var 1) (.lit (.int 0)) (.lit .none) (.lit (.int 3))]),
    .assign [.var 3] (.call "_law_signs" [.slc (.var 1) (.lit (.int 1)) (.lit .none) (.lit (.int 3))]),
    .assign [.var 4] (.call "_law_signs" [.slc (.var 1) (.lit (.int 2)) (.lit .none) (.lit (.int 3))]),
    .assign [.var 5] (.call "diff_match_patch" []),
    .assign [.attr (.var 5) "Diff_Timeout"] (.lit (.int 0)),
    .assign [.var 6] (.list []),
    .fr (.tup [7, 8]) (.tup [.tup [.var 2, .var 3], .tup [.var 3, .var 4], .tup [.var 2, .var 4]]) f_lawB1,
    .assign [.var 10] (.call "_law_joined" [.idx (.var 6) (.lit (.int 0)), .idx (.var 6) (.lit (.int 1))]),
    .assign [.var 11] (.bin .Add (.var 10) (.list [])),
    .expr (.imeth (.var 5) "diff_cleanupMerge" [.var 11]),
    .ife (.bor [.cmp (.imeth (.var 5) "diff_text1" [.var 11]) [.NotEq] [.var 2], .cmp (.imeth (.var 5) "diff_text2" [.var 11]) [.NotEq] [.var 4]]) [
      .ret (.lit (.bool false))] [],
    .fr (.var 9) (.tup [.var 10, .var 11]) f_lawB2,
    .assign [.var 12] (.bin .Add (.imeth (.var 5) "diff_levenshtein" [.idx (.var 6) (.lit (.int 0))]) (.imeth (.var 5) "diff_levenshtein" [.idx (.var 6) (.lit (.int 1))])),
    .ife (.not (.cmp (.call "_law_edits" [.var 2, .var 4]) [.LtE, .LtE, .LtE] [.imeth (.var 5) "diff_levenshtein" [.var 11], .imeth (.var 5) "diff_levenshtein" [.var 10], .var 12])) [
      .ret (.lit (.bool false))] [],
    .ret (.cmp (.call "_law_turned" [.idx (.var 6) (.lit (.int 2))]) [.LtE, .LtE] [.call "_law_turned" [.var 11], .bin .Add (.call "_law_turned" [.idx (.var 6) (.lit (.int 0))]) (.call "_law_turned" [.idx (.var 6) (.lit (.int 1))])])]
noncomputable def lawCall6 (cls : Addr) (f : String) (vs : List V) (Q : V → Mem → Prop) (m : Mem) : Prop :=
  (∃ d ns, f = "_law_signs" ∧ vs = [.obj d] ∧ m d = some (.list (ns.map V.int)) ∧ ns.length ≤ 63 ∧ ∀ m', Gr m m' → Q (.str (signs6 ns)) m') ∨
  (∃ d k r, f = "_law_text" ∧ vs = [.obj d, .int k] ∧ (k = -1 ∨ k = 1) ∧ m d = some (.list (rv r)) ∧ Kinds r ∧ phi r ≤ 1000 ∧ ∀ m', Gr m m' → Q (.str (side (-k) r)) m') ∨
  (∃ d r, f = "_law_stretches" ∧ vs = [.obj d] ∧ m d = some (.list (rv r)) ∧ Kinds r ∧ phi r ≤ 1000 ∧ ∀ m', Gr m m' → Q (.int (strG [] [] r : Nat)) m') ∨
  (∃ d r, f = "_law_capitals" ∧ vs = [.obj d] ∧ m d = some (.list (rv r)) ∧ Kinds r ∧ phi r ≤ 1000 ∧ (∀ c ∈ side 1 r, Abc c) ∧ ∀ m' c, Gr m m' → m' c = some (.list (rv (caps r))) → Q (.obj c) m') ∨
  (∃ d r, f = "_law_turned" ∧ vs = [.obj d] ∧ m d = some (.list (rv r)) ∧ phi r ≤ 1000 ∧ ∀ m', Gr m m' → Q (.int (turned r)) m') ∨
  (∃ e l R0 R1, f = "_law_joined" ∧ vs = [.obj e, .obj l] ∧ m e = some (.list (rv R0)) ∧ m l = some (.list (rv R1)) ∧ Kinds R0 ∧ Kinds R1 ∧ phi R0 ≤ 200 ∧ phi R1 ≤ 200 ∧ side 1 R0 = side (-1) R1 ∧ ∀ m' c J, Gr m m' → m' c = some (.list (rv J)) → Jn (cut R0) (cut R1) J → Q (.obj c) m') ∨
  (∃ a b, f = "_law_edits" ∧ vs = [.str a, .str b] ∧ a.length ≤ 1000 ∧ b.length ≤ 1000 ∧ ∀ m', Gr m m' → Q (.int (edits a b : Nat)) m') ∨
  (f = "diff_match_patch" ∧ vs = [] ∧ ∀ t dd m', Gr m m' → m t = none → m dd = none → t ≠ dd → m' t = some (.inst cls dd) → m' dd = some (.dict toolFs) → Q (.obj t) m')
noncomputable def lawMeth6 (cls : Addr) (f : String) (vs : List V) (Q : V → Mem → Prop) (m : Mem) : Prop :=
  lawMeth cls NoHM 0 f vs Q m ∨ ∃ t d r, f = "diff_levenshtein" ∧ vs = [.obj t, .obj d] ∧ Tool (pcOf cls) m t ∧ m d = some (.list (rv r)) ∧ Kinds r ∧ phi r ≤ 1000 ∧ Q (.int (lev max 0 0 r : Nat)) m
noncomputable def pcL6 (cls : Addr) : PC := { pcOf cls with call := lawCall6 cls, meth := lawMeth6 cls }
theorem sl_ls1 {m : Mem} {l : Addr} {a k : Int} {Q : V → Mem → Prop} : wpSlc m (.obj l) (.int a) .none (.int k) Q = (0 < k ∧ ∃ vs, (m l = some (.list vs) ∨ ∃ o, m l = some (.ro o vs)) ∧ sma vs.length ∧ ∀ c, m c = none → Q (.obj c) (upd m c (.list (pySt vs (some a) none (some k))))) := rfl
theorem no_time : ∀ n ∈ noFldL, ¬ Str.ofString "Diff_Timeout" = Str.ofString n := by decide +kernel
section
variable {cls : Addr} {m : Mem} {Q : V → Mem → Prop} {d t : Addr} {r : Row} {a b : Tx}
theorem l6_main (hT : TZ (pcOf cls) 0 m t) (hl : a.length + b.length ≤ 40) (h : ∀ m' r L, Gr m m' → m r = none → m' r = some (.list (rv L)) → MainR NoHM a b L → Q (.obj r) m') : (pcL6 cls).meth "diff_main" [.obj t, .str a, .str b, .bool false] Q m :=
  .inl (.inr (.inl ⟨t, a, b, rfl, rfl, hT, hl, h⟩))
theorem l6_clean (hT : TZ (pcOf cls) 0 m t) (hm : m d = some (.list (rv r))) (hK : Kinds r) (hφ : phi r < 100) (h : ∀ m', m' d = some (.list (rv (cleanN 100 r))) → Ext d m m' → Q .none m') : (pcL6 cls).meth "diff_cleanupMerge" [.obj t, .obj d] Q m :=
  .inl (.inl (.inr (.inr ⟨rfl, t, d, r, rfl, hT.tool, hm, hK, hφ, by lia, h⟩)))
theorem l6_text1 (hT : TZ (pcOf cls) 0 m t) (hm : m d = some (.list (rv r))) (hK : Kinds r) (hφ : phi r ≤ 1000) (h : ∀ m', Gr m m' → Q (.str (side (-1) r)) m') : (pcL6 cls).meth "diff_text1" [.obj t, .obj d] Q m :=
  .inl (.inr (.inr (.inl ⟨t, d, r, rfl, rfl, hT.tool, hm, hK, hφ, h⟩)))
theorem l6_text2 (hT : TZ (pcOf cls) 0 m t) (hm : m d = some (.list (rv r))) (hK : Kinds r) (hφ : phi r ≤ 1000) (h : ∀ m', Gr m m' → Q (.str (side 1 r)) m') : (pcL6 cls).meth "diff_text2" [.obj t, .obj d] Q m :=
  .inl (.inr (.inr (.inr ⟨t, d, r, rfl, rfl, hT.tool, hm, hK, hφ, h⟩)))
theorem l6_lev (hT : TZ (pcOf cls) 0 m t) (hm : m d = some (.list (rv r))) (hK : Kinds r) (hφ : phi r ≤ 1000) (h : Q (.int (lev max 0 0 r : Nat)) m) : (pcL6 cls).meth "diff_levenshtein" [.obj t, .obj d] Q m :=
  .inr ⟨t, d, r, rfl, rfl, hT.tool, hm, hK, hφ, h⟩
end
section
variable {cls sc a1 tl rw : Addr} {QQ : Fl → St → Prop} {m : Mem} {a b c x y : Tx} {x7 x8 x9 x10 x11 x12 : Option V}
noncomputable abbrev l6S (sc a1 : Addr) (a b c : Tx) (tl rw : Addr) (x7 x8 x9 x10 x11 x12 : Option V) (m : Mem) : St :=
  ⟨[some (.obj sc), some (.obj a1), some (.str a), some (.str b), some (.str c), some (.obj tl), some (.obj rw), x7, x8, x9, x10, x11, x12], m⟩
theorem law6_turn {us : List V} (hT : TZ (pcOf cls) 0 m tl) (hx : x.length ≤ 6) (hy : y.length ≤ 6) (hr : m rw = some (.list us)) (hu : us.length ≤ 5)
    (h : ∀ m' r L, Ext rw m m' → m' rw = some (.list (us ++ [.obj r])) → m' r = some (.list (rv L)) → r ≠ rw → MG NoHM x y L → QQ .next (l6S sc a1 a b c tl rw (some (.str x)) (some (.str y)) (some (.obj r)) x10 x11 x12 m')) :
    wpSs (pcL6 cls) f_lawB1 QQ (l6S sc a1 a b c tl rw (some (.str x)) (some (.str y)) x9 x10 x11 x12 m) := by
  unfold f_lawB1
  refine ss_ret fun Q1 n1 _ => ?_
  walk_at "D"
  refine ⟨im_okZ hT rfl, l6_main hT (by lia) fun m1 r L g1 hrn h1 hR => n1 _ ?_⟩
  have G := main_good hR
  have ph := row_phi G.n G.k
  rw [G.m, G.p] at ph
  have hT1 := hT.gr g1
  have hne : r ≠ rw := fun e => by subst e; rw [hr] at hrn; cases hrn
  show wpSs _ _ _ (l6S sc a1 a b c tl rw (some (.str x)) (some (.str y)) (some (.obj r)) x10 x11 x12 m1)
  refine ss_ret fun Q2 n2 _ => s_ife fun K kt kf => ?_
  walk_at "D"
  refine .inr (.inl ⟨r, 1, L, rfl, rfl, .inr rfl, h1, G.k, by lia, fun m2 g2 => ?_⟩)
  rw [G.m]
  walk_at "D"
  rw [decide_eq_true rfl]
  have h2 := g2 _ _ h1
  refine .inr (.inl ⟨r, -1, L, rfl, rfl, .inl rfl, h2, G.k, by lia, fun m3 g3 => ?_⟩)
  rw [show side (-(-1 : Int)) L = y from G.p]
  walk_at "D"
  rw [decide_eq_true rfl]
  have h3 := g3 _ _ h2
  have hT3 := (hT1.gr g2).gr g3
  refine kf _ (ss_nil (n2 _ (ss_ret fun Q3 n3 _ => s_ife fun K kt kf => ?_)))
  walk_at "D"
  refine ⟨im_okZ hT3 rfl, l6_lev hT3 h3 G.k (by lia) ?_⟩
  refine .inr (.inr (.inl ⟨r, L, rfl, rfl, h3, G.k, by lia, fun m4 g4 => ?_⟩))
  rw [str_main noHM_no G]
  walk_at "D"
  rw [decide_eq_true rfl]
  refine kf _ (ss_nil (n3 _ (ssn ?_)))
  walk_at "D"
  have g14 := ((g1.trans g2).trans g3).trans g4
  have hr4 := g14 _ _ hr
  refine ⟨⟨_, hr4⟩, _, hr4, by unfold sma; lia, h _ r L (fun z o hz e => ?_) (ups _ _ _) ?_ hne G⟩
  · rw [upn _ _ hz]; exact g14 _ _ e
  · rw [upn _ _ hne]; exact g4 _ _ h3
theorem law6_caps {r : Addr} {J : Row} (hT : TZ (pcOf cls) 0 m tl) (hr : m r = some (.list (rv J))) (hK : Kinds J) (hφ : phi J ≤ 500) (hm : ∀ c ∈ side (-1) J, Abc c) (hp : ∀ c ∈ side 1 J, Abc c) (h : ∀ m', Gr m m' → QQ .next (l6S sc a1 a b c tl rw x7 x8 (some (.obj r)) x10 x11 x12 m')) :
    wpSs (pcL6 cls) f_lawB2 QQ (l6S sc a1 a b c tl rw x7 x8 (some (.obj r)) x10 x11 x12 m) := by
  unfold f_lawB2
  refine ssn (s_ife fun K kt kf => ?_)
  walk_at "D"
  refine ⟨im_okZ hT rfl, l6_lev hT hr hK (by lia) ?_⟩
  refine .inr (.inr (.inr (.inl ⟨r, J, rfl, rfl, hr, hK, by lia, hp, fun m1 e g1 he => ?_⟩)))
  have kc : Kinds (caps J) ∧ phi (caps J) = phi J := by
    unfold caps
    clear hr hφ hm hp he
    induction J with
    | nil => exact ⟨.nil, rfl⟩
    | cons p J ih =>
      obtain ⟨i1, i2⟩ := ih hK.tail
      rw [List.map_cons, phi_cons, phi_cons, i2]
      have e : (capP p).1 = p.1 ∧ (capP p).2.length = p.2.length := by unfold capP; split <;> simp
      exact ⟨.cons (by rw [e.1]; exact hK.head) i1, by rw [e.2]⟩
  walk_at "D"
  refine .inr (.inr (.inl ⟨e, caps J, rfl, rfl, he, kc.1, by rw [kc.2]; lia, fun m2 g2 => ?_⟩))
  rw [show strG [] [] (caps J) = lev max 0 0 J from str_caps J [] [] hK (fun _ h => nomatch h) (fun _ h => nomatch h) hm]
  walk_at "D"
  rw [decide_eq_true rfl]
  exact kf _ (ss_nil (h _ (g1.trans g2)))
theorem law6_signs {K : V → St → Prop} {L : List (Option V)} {ks : List Int} {oi : Int} (o : Nat) (ho : oi = o) (hm : m a1 = some (.list (ks.map V.int))) (hk : ks.length ≤ 18) (hL : L[1]? = some (some (.obj a1))) (h : ∀ m' x, Gr m m' → x.length ≤ 6 → (∀ c ∈ x, Abc c) → K (.str x) ⟨L, m'⟩) :
    wpE (pcL6 cls) (.call "_law_signs" [.slc (.var 1) (.lit (.int oi)) (.lit .none) (.lit (.int 3))]) K ⟨L, m⟩ := by
  subst ho
  dsimp only [r_call, r_es1, r_slc, r_lit]
  rw [r_var]
  show match L[1]? with | some (some v) => _ | _ => False
  rw [hL]
  have sk : sma (ks.map V.int).length := by rw [List.length_map]; unfold sma; lia
  show wpSlc m (.obj a1) (.int (o : Int)) .none (.int 3) _
  rw [sl_ls1]
  refine ⟨by decide, _, .inl hm, sk, fun e he => ?_⟩
  rw [pySt_map]
  have l2 : (pySt ks (some (o : Int)) none (some 3)).length * 3 ≤ ks.length + (3 - 1) := pySt_len ks o none 3 (by decide) (fun _ h => nomatch h)
  have ge := Gr.new he (.list ((pySt ks (some (o : Int)) none (some 3)).map V.int))
  have s6 := signs6_ok (pySt ks (some (o : Int)) none (some 3))
  exact .inl ⟨e, _, rfl, rfl, ups _ _ _, by lia, fun m2 g2 => h m2 _ (ge.trans g2) (by lia) s6.2⟩
end
section
variable {cls sc : Addr} {oS : Obj} {Q : V → Mem → Prop} {m : Mem} {ns : List Int}
theorem phi_clean : ∀ (n : Nat) (r : Row), phi (cleanN n r) ≤ phi r
  | 0, r => Nat.le_refl _
  | n + 1, r => by
    have h : phi (slide (popE (merge r))).1 ≤ phi r := Nat.le_trans (Nat.le_trans (Nat.le_add_right _ _) (phi_slide _)) (phi_merge r)
    rw [cleanN]
    split
    · exact Nat.le_trans (phi_clean n _) h
    · exact h
theorem pick3 (u v w : V) : pyGet [u, v, w] 0 = some u ∧ pyGet [u, v, w] 1 = some v ∧ pyGet [u, v, w] 2 = some w := ⟨rfl, rfl, rfl⟩
theorem law6_end {a1 tl rw r0 r1 r2 : Addr} {a b c : Tx} {L0 L1 L2 : Row} {QQ : Fl → St → Prop} {x7 x8 x9 : Option V} (hT : TZ (pcOf cls) 0 m tl) (hS : m sc = some (.ro oS (ns.map V.int))) (la : a.length ≤ 6) (lb : b.length ≤ 6) (lc : c.length ≤ 6) (Aa : ∀ z ∈ a, Abc z) (Ac : ∀ z ∈ c, Abc z)
    (hr : m rw = some (.list [.obj r0, .obj r1, .obj r2])) (h0 : m r0 = some (.list (rv L0))) (h1 : m r1 = some (.list (rv L1))) (h2 : m r2 = some (.list (rv L2))) (G0 : MG NoHM a b L0) (G1 : MG NoHM b c L1) (G2 : MG NoHM a c L2)
    (h : ∀ m' σ', m' sc = some (.ro oS (ns.map V.int)) → σ'.mem = m' → QQ (.ret (.bool true)) σ') :
    wpSs (pcL6 cls) (f_lawBody.drop 8) QQ (l6S sc a1 a b c tl rw x7 x8 x9 none none none m) := by
  obtain ⟨p0, p1, p2⟩ := pick3 (.obj r0) (.obj r1) (.obj r2)
  have ph0 := row_phi G0.n G0.k
  have ph1 := row_phi G1.n G1.k
  have ph2 := row_phi G2.n G2.k
  rw [G0.m, G0.p] at ph0
  rw [G1.m, G1.p] at ph1
  rw [G2.m, G2.p] at ph2
  unfold f_lawBody
  show wpSs _ (_ :: _ :: _ :: _ :: _ :: _ :: _ :: _ :: []) _ _
  refine ss_ret fun Q1 n1 e1 => ?_
  dsimp only [r_lit, r_var, r_bin, r_neg, r_not, r_list, r_tup, r_cmp, r_band, r_bor, r_idx, r_slc, r_attr, r_bi, r_call, r_me, r_imeth, r_comp, r_comp2, r_ite, r_ch2, r_es0, r_es1, r_ch1, r_bo1, r_bo2, r_tnot, r_tband, r_tbor, r_tcmp, r_tvar, r_tcall, r_tme, r_tidx, r_tbi, r_ts0, r_ts1, r_tgs0, r_tgs1, r_sexpr, r_sassign, r_saug, r_sdel, r_sife, r_swhl, r_sfr, r_sret, r_ss0, r_ss1, tg_var, tg_tup, tg_idx, tg_slc, bin_add, bin_sub, bin_mul, bin_div, bin_mod, bin_cat, cmp_eqi, cmp_eqs, cmp_nei, cmp_nes, cmp_lt, cmp_le, cmp_gt, cmp_ge, cmp_isn, cmp_ist, cmp_notn, cmp_nott, tr_none, tr_bool, tr_int, tr_str, tr_tup, ix_str, ix_tup, sl_ii, sl_in, sl_ni, bi_lens, bi_lent, bi_min, bi_max, bi_rng, bi_rng2, me_find, me_find2, ok_find, me_app, ok_app, me_ins, me_pop, me_join, me_ends, me_starts, ok_ins, ok_pop, ok_join, ok_ends, ok_starts, it_str, it_rng, neg_int, aug_addi, aug_adds, aug_subi, St.set, St.setAll, List.map_cons, List.map_nil, List.replicate, List.cons_append, List.nil_append, List.getElem?_cons_succ, List.getElem?_cons_zero, List.set_cons_succ, List.set_cons_zero, List.length_cons, List.length_nil, dreduceIte, retV, ix_lst]
  refine ⟨by walk_at "t", _, _, hr, p0, by walk_at "t", _, _, hr, p1, ?_⟩
  refine .inr (.inr (.inr (.inr (.inr (.inl ⟨r0, r1, L0, L1, rfl, rfl, h0, h1, G0.k, G1.k, by lia, by lia, by rw [G0.p, G1.m], fun m1 j J g1 hj jn => n1 _ ?_⟩)))))
  have pJ := jn.phi
  have c0 := cut_phi L0
  have c1 := cut_phi L1
  have F := fin6 (n := 100) noHM_no G0 G1 G2 jn (by lia)
  refine ss_ret fun Q2 n2 e2 => ?_
  walk_at "D"
  intro z hz
  have hjz : z ≠ j := fun e => by subst e; rw [hj] at hz; cases hz
  refine ⟨_, _, (upn _ _ (Ne.symm hjz)).trans hj, ups _ _ _, by rw [rv_len]; have := llp J; unfold sma; lia, by unfold sma; exact Nat.zero_le _, fun w hw => n2 _ ?_⟩
  rw [List.append_nil]
  have g2 : Gr m1 (upd m1 z (.list [])) := Gr.new hz _
  have hj2 := g2 _ _ hj
  have hjw : j ≠ w := fun e => by subst e; rw [hj2] at hw; cases hw
  have g3 := g2.trans (Gr.new hw (.list (rv J)))
  have hw3 : upd (upd m1 z (.list [])) w (.list (rv J)) w = some (.list (rv J)) := ups _ _ _
  have hT3 := hT.gr (g1.trans g3)
  show wpSs _ _ _ (l6S sc a1 a b c tl rw x7 x8 x9 (some (.obj j)) (some (.obj w)) none (upd (upd m1 z (.list [])) w (.list (rv J))))
  generalize upd (upd m1 z (.list [])) w (.list (rv J)) = m3 at *
  have fr : ∀ y o, m y = some o → m3 y = some o ∧ y ≠ w := fun y o hy => ⟨g3 _ _ (g1 _ _ hy), fun e => by subst e; rw [g2 _ _ (g1 _ _ hy)] at hw; cases hw⟩
  refine ss_ret fun Q3 n3 e3 => ?_
  walk_at "D"
  refine ⟨im_okZ hT3 rfl, l6_clean hT3 hw3 F.k (by lia) fun m4 h4 x4 => n3 _ ?_⟩
  have hT4 := hT3.ext ⟨_, hw3⟩ x4
  have kp : ∀ y o, m y = some o → m4 y = some o := fun y o hy => x4 _ _ (fr y o hy).2 (fr y o hy).1
  have hj4 := x4 _ _ hjw (g3 _ _ hj)
  have pc : phi (cleanN 100 J) ≤ 500 := by
    have n := llp
    exact Nat.le_trans (phi_clean 100 J) (by lia)
  refine ss_ret fun Q4 n4 e4 => s_ife fun K kt kf => ?_
  walk_at "D"
  refine ⟨im_okZ hT4 rfl, l6_text1 hT4 h4 F.kc (by lia) fun m5 g5 => ?_⟩
  rw [F.mc]
  walk_at "D"
  rw [decide_eq_true rfl]
  have hT5 := hT4.gr g5
  have h5 := g5 _ _ h4
  refine ⟨im_okZ hT5 rfl, l6_text2 hT5 h5 F.kc (by lia) fun m6 g6 => ?_⟩
  rw [F.pc]
  walk_at "D"
  rw [decide_eq_true rfl]
  have hT6 := hT5.gr g6
  have h6 := g6 _ _ h5
  have g46 := g5.trans g6
  refine kf _ (ss_nil (n4 _ ?_))
  refine ss_ret fun Q5 n5 e5 => ?_
  simp only [r_sfr]
  walk_at "E"
  refine ⟨by unfold sma; exact (by decide : 2 ≤ 1000000), trivial, ?_⟩
  refine law6_caps (c := c) hT6 (g46 _ _ hj4) F.k (by lia) (by rw [F.m]; exact Aa) (by rw [F.p]; exact Ac) fun m7 g7 => ⟨trivial, ?_⟩
  refine law6_caps (c := c) (hT6.gr g7) (g7 _ _ h6) F.kc pc (by rw [F.mc]; exact Aa) (by rw [F.pc]; exact Ac) fun m8 g8 => ⟨trivial, n5 _ ?_⟩
  have g48 := (g46.trans g7).trans g8
  have hT8 := hT4.gr g48
  have kp8 : ∀ y o, m y = some o → m8 y = some o := fun y o hy => g48 _ _ (kp y o hy)
  have hw8 := g48 _ _ h4
  have hj8 := g48 _ _ hj4
  refine ss_ret fun Q6 n6 e6 => ?_
  dsimp only [r_lit, r_var, r_bin, r_neg, r_not, r_list, r_tup, r_cmp, r_band, r_bor, r_idx, r_slc, r_attr, r_bi, r_call, r_me, r_imeth, r_comp, r_comp2, r_ite, r_ch2, r_es0, r_es1, r_ch1, r_bo1, r_bo2, r_tnot, r_tband, r_tbor, r_tcmp, r_tvar, r_tcall, r_tme, r_tidx, r_tbi, r_ts0, r_ts1, r_tgs0, r_tgs1, r_sexpr, r_sassign, r_saug, r_sdel, r_sife, r_swhl, r_sfr, r_sret, r_ss0, r_ss1, tg_var, tg_tup, tg_idx, tg_slc, bin_add, bin_sub, bin_mul, bin_div, bin_mod, bin_cat, cmp_eqi, cmp_eqs, cmp_nei, cmp_nes, cmp_lt, cmp_le, cmp_gt, cmp_ge, cmp_isn, cmp_ist, cmp_notn, cmp_nott, tr_none, tr_bool, tr_int, tr_str, tr_tup, ix_str, ix_tup, sl_ii, sl_in, sl_ni, bi_lens, bi_lent, bi_min, bi_max, bi_rng, bi_rng2, me_find, me_find2, ok_find, me_app, ok_app, me_ins, me_pop, me_join, me_ends, me_starts, ok_ins, ok_pop, ok_join, ok_ends, ok_starts, it_str, it_rng, neg_int, aug_addi, aug_adds, aug_subi, St.set, St.setAll, List.map_cons, List.map_nil, List.replicate, List.cons_append, List.nil_append, List.getElem?_cons_succ, List.getElem?_cons_zero, List.set_cons_succ, List.set_cons_zero, List.length_cons, List.length_nil, dreduceIte, retV, ix_lst]
  refine ⟨im_okZ hT8 rfl, by walk_at "t", _, _, kp8 _ _ hr, p0, l6_lev hT8 (kp8 _ _ h0) G0.k (by lia) ?_⟩
  refine ⟨im_okZ hT8 rfl, by walk_at "t", _, _, kp8 _ _ hr, p1, l6_lev hT8 (kp8 _ _ h1) G1.k (by lia) ?_⟩
  walk_at "D"
  refine n6 _ (ss_ret fun Q7 n7 e7 => s_ife fun K kt kf => ?_)
  walk_at "D"
  refine .inr (.inr (.inr (.inr (.inr (.inr (.inl ⟨a, c, rfl, rfl, by lia, by lia, fun m9 g9 => ?_⟩))))))
  have hT9 := hT8.gr g9
  walk_at "D"
  refine ⟨im_okZ hT9 rfl, l6_lev hT9 (g9 _ _ hw8) F.kc (by lia) ?_⟩
  refine if_yes (Int.ofNat_le.mpr F.e1) ?_
  refine ⟨im_okZ hT9 rfl, l6_lev hT9 (g9 _ _ hj8) F.k (by lia) ?_⟩
  refine if_yes (Int.ofNat_le.mpr F.e2) ?_
  walk_at "D"
  rw [decide_eq_true (show ((lev max 0 0 J : Nat) : Int) ≤ (lev max 0 0 L0 : Nat) + (lev max 0 0 L1 : Nat) from Int.ofNat_le.mpr F.e3)]
  refine kf _ (ss_nil (n7 _ (ssn ?_)))
  have kp9 : ∀ y o, m y = some o → m9 y = some o := fun y o hy => g9 _ _ (kp8 y o hy)
  dsimp only [r_lit, r_var, r_bin, r_neg, r_not, r_list, r_tup, r_cmp, r_band, r_bor, r_idx, r_slc, r_attr, r_bi, r_call, r_me, r_imeth, r_comp, r_comp2, r_ite, r_ch2, r_es0, r_es1, r_ch1, r_bo1, r_bo2, r_tnot, r_tband, r_tbor, r_tcmp, r_tvar, r_tcall, r_tme, r_tidx, r_tbi, r_ts0, r_ts1, r_tgs0, r_tgs1, r_sexpr, r_sassign, r_saug, r_sdel, r_sife, r_swhl, r_sfr, r_sret, r_ss0, r_ss1, tg_var, tg_tup, tg_idx, tg_slc, bin_add, bin_sub, bin_mul, bin_div, bin_mod, bin_cat, cmp_eqi, cmp_eqs, cmp_nei, cmp_nes, cmp_lt, cmp_le, cmp_gt, cmp_ge, cmp_isn, cmp_ist, cmp_notn, cmp_nott, tr_none, tr_bool, tr_int, tr_str, tr_tup, ix_str, ix_tup, sl_ii, sl_in, sl_ni, bi_lens, bi_lent, bi_min, bi_max, bi_rng, bi_rng2, me_find, me_find2, ok_find, me_app, ok_app, me_ins, me_pop, me_join, me_ends, me_starts, ok_ins, ok_pop, ok_join, ok_ends, ok_starts, it_str, it_rng, neg_int, aug_addi, aug_adds, aug_subi, St.set, St.setAll, List.map_cons, List.map_nil, List.replicate, List.cons_append, List.nil_append, List.getElem?_cons_succ, List.getElem?_cons_zero, List.set_cons_succ, List.set_cons_zero, List.length_cons, List.length_nil, dreduceIte, retV, ix_lst]
  refine ⟨by walk_at "t", _, _, kp9 _ _ hr, p2, ?_⟩
  refine .inr (.inr (.inr (.inr (.inl ⟨r2, L2, rfl, rfl, kp9 _ _ h2, by lia, fun m10 g10 => ?_⟩))))
  walk_at "D"
  refine .inr (.inr (.inr (.inr (.inl ⟨w, _, rfl, rfl, g10 _ _ (g9 _ _ hw8), by lia, fun m11 g11 => ?_⟩))))
  refine if_yes (Int.ofNat_le.mpr F.t1) ?_
  have kp11 : ∀ y o, m y = some o → m11 y = some o := fun y o hy => g11 _ _ (g10 _ _ (kp9 y o hy))
  refine ⟨by walk_at "t", _, _, kp11 _ _ hr, p0, ?_⟩
  refine .inr (.inr (.inr (.inr (.inl ⟨r0, L0, rfl, rfl, kp11 _ _ h0, by lia, fun m12 g12 => ?_⟩))))
  refine ⟨by walk_at "t", _, _, g12 _ _ (kp11 _ _ hr), p1, ?_⟩
  refine .inr (.inr (.inr (.inr (.inl ⟨r1, L1, rfl, rfl, g12 _ _ (kp11 _ _ h1), by lia, fun m13 g13 => ?_⟩))))
  walk_at "D"
  rw [decide_eq_true (show ((turned (cleanN 100 J) : Nat) : Int) ≤ (turned L0 : Nat) + (turned L1 : Nat) from Int.ofNat_le.mpr F.t2)]
  exact h m13 _ (g13 _ _ (g12 _ _ (kp11 _ _ hS))) rfl
end
theorem pySl_take' {α : Type} (xs : List α) (n : Nat) : pySl xs none (some (n : Int)) = xs.take n := by
  unfold pySl slLo slHi
  simp only [Option.elim, clip_nn]
  rw [List.drop_zero, Nat.sub_zero, ← List.take_eq_take_min]
section
variable {cls sc : Addr} {oS : Obj} {Q : V → Mem → Prop} {m : Mem} {ns : List Int}
theorem w_law6 (hS : m sc = some (.ro oS (ns.map V.int))) (hn : ns.length ≤ 63) (h : ∀ m', m' sc = some (.ro oS (ns.map V.int)) → Q (.bool true) m') :
    wpSs (pcL6 cls) f_lawBody (fun fl σ' => Q (retV fl) σ'.mem) ⟨[V.obj sc].map some ++ List.replicate 12 none, m⟩ := by
  show wpSs _ _ _ ⟨[some (.obj sc), none, none, none, none, none, none, none, none, none, none, none, none], m⟩
  have sl : sma (ns.map V.int).length := by rw [List.length_map]; unfold sma; lia
  unfold f_lawBody
  refine ss_ret fun Q1 n1 r1 => ?_
  walk_at "D"
  simp only [sl_lni]
  refine ⟨_, .inr ⟨oS, hS⟩, sl, fun a1 ha1 => ?_⟩
  rw [show pySl (ns.map V.int) none (some 18) = (ns.take 18).map V.int by rw [List.map_take]; exact pySl_take' _ 18]
  have l18 : (ns.take 18).length ≤ 18 := by rw [List.length_take]; lia
  have g1 := Gr.new ha1 (.list ((ns.take 18).map V.int))
  have hm1 : upd m a1 (.list ((ns.take 18).map V.int)) a1 = some (.list ((ns.take 18).map V.int)) := ups _ _ _
  have hS1 := g1 _ _ hS
  refine n1 _ ?_
  show wpSs _ _ _ ⟨[some (.obj sc), some (.obj a1), none, none, none, none, none, none, none, none, none, none, none], upd m a1 (.list ((ns.take 18).map V.int))⟩
  generalize upd m a1 (.list ((ns.take 18).map V.int)) = m1 at *
  generalize ns.take 18 = ks at *
  refine ss_ret fun Q2 n2 _ => ?_
  simp only [r_sassign]
  refine law6_signs (L := [some (.obj sc), some (.obj a1), none, none, none, none, none, none, none, none, none, none, none]) 0 rfl hm1 l18 rfl fun m2 a g2 la Aa => ?_
  simp only [r_tgs1, tg_var]
  refine n2 _ ?_
  show wpSs _ _ _ ⟨[some (.obj sc), some (.obj a1), some (.str a), none, none, none, none, none, none, none, none, none, none], m2⟩
  refine ss_ret fun Q3 n3 _ => ?_
  simp only [r_sassign]
  refine law6_signs (L := [some (.obj sc), some (.obj a1), some (.str a), none, none, none, none, none, none, none, none, none, none]) 1 rfl (g2 _ _ hm1) l18 rfl fun m3 b g3 lb Ab => ?_
  simp only [r_tgs1, tg_var]
  refine n3 _ ?_
  show wpSs _ _ _ ⟨[some (.obj sc), some (.obj a1), some (.str a), some (.str b), none, none, none, none, none, none, none, none, none], m3⟩
  refine ss_ret fun Q4 n4 _ => ?_
  simp only [r_sassign]
  refine law6_signs (L := [some (.obj sc), some (.obj a1), some (.str a), some (.str b), none, none, none, none, none, none, none, none, none]) 2 rfl (g3 _ _ (g2 _ _ hm1)) l18 rfl fun m4 c g4 lc Ac => ?_
  simp only [r_tgs1, tg_var]
  refine n4 _ ?_
  have hS4 := g4 _ _ (g3 _ _ (g2 _ _ hS1))
  show wpSs _ _ _ ⟨[some (.obj sc), some (.obj a1), some (.str a), some (.str b), some (.str c), none, none, none, none, none, none, none, none], m4⟩
  clear hm1 hS1 n1 n2 n3 n4
  refine ss_ret fun Q6 n6 _ => ?_
  walk_at "D"
  refine .inr (.inr (.inr (.inr (.inr (.inr (.inr ⟨rfl, rfl, fun tl dd m5 g5 ht5 hd5 hne h5 h5' => n6 _ (ss_ret fun Q7 n7 r7 => ?_)⟩))))))
  dsimp only [r_lit, r_var, r_bin, r_neg, r_not, r_list, r_tup, r_cmp, r_band, r_bor, r_idx, r_slc, r_attr, r_bi, r_call, r_me, r_imeth, r_comp, r_comp2, r_ite, r_ch2, r_es0, r_es1, r_ch1, r_bo1, r_bo2, r_tnot, r_tband, r_tbor, r_tcmp, r_tvar, r_tcall, r_tme, r_tidx, r_tbi, r_ts0, r_ts1, r_tgs0, r_tgs1, r_sexpr, r_sassign, r_saug, r_sdel, r_sife, r_swhl, r_sfr, r_sret, r_ss0, r_ss1, tg_var, tg_tup, tg_idx, tg_slc, bin_add, bin_sub, bin_mul, bin_div, bin_mod, bin_cat, cmp_eqi, cmp_eqs, cmp_nei, cmp_nes, cmp_lt, cmp_le, cmp_gt, cmp_ge, cmp_isn, cmp_ist, cmp_notn, cmp_nott, tr_none, tr_bool, tr_int, tr_str, tr_tup, ix_str, ix_tup, sl_ii, sl_in, sl_ni, bi_lens, bi_lent, bi_min, bi_max, bi_rng, bi_rng2, me_find, me_find2, ok_find, me_app, ok_app, me_ins, me_pop, me_join, me_ends, me_starts, ok_ins, ok_pop, ok_join, ok_ends, ok_starts, it_str, it_rng, neg_int, aug_addi, aug_adds, aug_subi, St.set, St.setAll, List.map_cons, List.map_nil, List.replicate, List.cons_append, List.nil_append, List.getElem?_cons_succ, List.getElem?_cons_zero, List.set_cons_succ, List.set_cons_zero, List.length_cons, List.length_nil, dreduceIte, retV, tg_attr]
  refine ⟨tl, dd, _, rfl, h5, h5', by trivial, rfl, n7 _ ?_⟩
  have g6 : Gr m4 (upd m5 dd (.dict (setF "Diff_Timeout" (.int 0) toolFs))) := g5.set hd5 _
  have hT : TZ (pcOf cls) 0 (upd m5 dd (.dict (setF "Diff_Timeout" (.int 0) toolFs))) tl := by
    refine ⟨dd, _, by rw [upn _ _ hne]; exact h5, ups _ _ _, fun n hf => ?_, ?_⟩
    · rw [lookF_set, if_neg, tool_no n hf]
      exact no_time n (List.contains_iff_mem.mp hf)
    · rfl
  have hS6 := g6 _ _ hS4
  show wpSs _ _ _ ⟨[some (.obj sc), some (.obj a1), some (.str a), some (.str b), some (.str c), some (.obj tl), none, none, none, none, none, none, none], upd m5 dd (.dict (setF "Diff_Timeout" (.int 0) toolFs))⟩
  generalize upd m5 dd (.dict (setF "Diff_Timeout" (.int 0) toolFs)) = m6 at *
  clear g5 g6 ht5 hd5 h5 h5' hS4
  refine ss_ret fun Q8 n8 _ => ?_
  walk_at "D"
  intro rw hrw
  refine n8 _ (ss_ret fun Q9 n9 r9 => ?_)
  have g7 := Gr.new hrw (.list [])
  have hr7 : upd m6 rw (.list []) rw = some (.list ([] : List V)) := ups _ _ _
  generalize upd m6 rw (.list []) = m7 at *
  have hS7 := g7 _ _ hS6
  have hT7 := hT.gr g7
  have nS : sc ≠ rw := fun e => by subst e; rw [hS6] at hrw; cases hrw
  simp only [r_sfr]
  walk_at "E"
  refine ⟨by unfold sma; exact (by decide : 3 ≤ 1000000), trivial, rfl, ?_⟩
  refine law6_turn (a := a) (b := b) (c := c) hT7 la lb hr7 (Nat.zero_le _) fun m8 r0 L0 x8 hr8 h08 ne0 G0 => ⟨trivial, rfl, ?_⟩
  have hT8 := hT7.ext ⟨_, hr7⟩ x8
  refine law6_turn (a := a) (b := b) (c := c) hT8 lb lc hr8 (by show 1 ≤ 5; decide) fun m9 r1 L1 x9 hr9 h19 ne1 G1 => ⟨trivial, rfl, ?_⟩
  have hT9 := hT8.ext ⟨_, hr8⟩ x9
  refine law6_turn (a := a) (b := b) (c := c) hT9 la lc hr9 (by show 2 ≤ 5; decide) fun m10 r2 L2 x10 hr10 h210 ne2 G2 => ⟨trivial, n9 _ ?_⟩
  have hT10 := hT9.ext ⟨_, hr9⟩ x10
  exact law6_end hT10 (x10 _ _ nS (x9 _ _ nS (x8 _ _ nS hS7))) la lb lc Aa Ac hr10 (x10 _ _ ne0 (x9 _ _ ne0 h08)) (x10 _ _ ne1 h19) h210 G0 G1 G2 fun m' σ' hm e => show Q (.bool true) σ'.mem by rw [e]; exact h m' hm
end
noncomputable def fns6 : List String := ["_law_signs", "_law_single", "_law_text", "_law_joined", "_law_edits", "_law_stretches", "_law_capitals", "_law_turned", "diff_match_patch"]
noncomputable def meths6 : List String := ["diff_commonPrefix", "diff_commonSuffix", "diff_cleanupMerge", "diff_main", "diff_compute", "diff_bisect", "diff_bisectSplit", "diff_halfMatch", "diff_text1", "diff_text2", "diff_levenshtein"]
noncomputable def chk6a (K : Frag) : Bool :=
  fnsOk K fns6 && (methsOk K (clsA K) meths6 && (pcChk K (clsA K) && (biChk K && (noList K && (fns6.all (fun n => fnV K n == .ref (fnA K n)) && (cmChk K (clsA K) fns6 meths6 && (dmChk K (clsA K) fns6 meths6 && (txChk K (clsA K) fns6 meths6 &&
  (fnChk K (meA K (clsA K) "diff_halfMatch") m_diff_halfMatchPs m_diff_halfMatchRest (locSC m_diff_halfMatchPs m_diff_halfMatchRest m_diff_halfMatchNames fns6 meths6 m_diff_halfMatchCells) m_diff_halfMatchNo &&
  fnChk K (meA K (clsA K) "diff_levenshtein") m_diff_levenshteinPs m_diff_levenshteinRest (locSC m_diff_levenshteinPs m_diff_levenshteinRest m_diff_levenshteinNames fns6 meths6 m_diff_levenshteinCells) m_diff_levenshteinBody)))))))))
noncomputable def chk6b (K : Frag) : Bool :=
  fnChk K (fnA K "_law_signs") f_law_signsPs f_law_signsRest (locSC f_law_signsPs f_law_signsRest f_law_signsNames fns6 meths6 f_law_signsCells) f_law_signsBody &&
  (fnChk K (fnA K "_law_single") f_law_singlePs f_law_singleRest (locSC f_law_singlePs f_law_singleRest f_law_singleNames fns6 meths6 f_law_singleCells) f_law_singleBody &&
  (fnChk K (fnA K "_law_text") f_law_textPs f_law_textRest (locSC f_law_textPs f_law_textRest f_law_textNames fns6 meths6 f_law_textCells) f_law_textBody &&
  (fnChk K (fnA K "_law_joined") f_law_joinedPs f_law_joinedRest (locSC f_law_joinedPs f_law_joinedRest f_law_joinedNames fns6 meths6 f_law_joinedCells) f_law_joinedBody &&
  (fnChk K (fnA K "_law_edits") f_law_editsPs f_law_editsRest (locSC f_law_editsPs f_law_editsRest f_law_editsNames fns6 meths6 f_law_editsCells) f_law_editsBody &&
  (fnChk K (fnA K "_law_stretches") f_law_stretchesPs f_law_stretchesRest (locSC f_law_stretchesPs f_law_stretchesRest f_law_stretchesNames fns6 meths6 f_law_stretchesCells) f_law_stretchesBody &&
  (fnChk K (fnA K "_law_capitals") f_law_capitalsPs f_law_capitalsRest (locSC f_law_capitalsPs f_law_capitalsRest f_law_capitalsNames fns6 meths6 f_law_capitalsCells) f_law_capitalsBody &&
  fnChk K (fnA K "_law_turned") f_law_turnedPs f_law_turnedRest (locSC f_law_turnedPs f_law_turnedRest f_law_turnedNames fns6 meths6 f_law_turnedCells) f_law_turnedBody))))))
noncomputable def chk6c (K : Frag) : Bool :=
  makesIn K (clsA K) && (findIn K (.ref (clsA K)) "__init__" == some (some (.ref (meA K (clsA K) "__init__"))) && (typeIn K (.ref (meA K (clsA K) "__init__")) == some (.type "function") &&
  fnChk K (meA K (clsA K) "__init__") m_initPs m_initRest (locSC m_initPs m_initRest m_initNames fns6 meths6 m_initCells) m_initBody))
noncomputable def chk6d (K : Frag) : Bool := fnV K "law" == .ref (fnA K "law") && fnChk K (fnA K "law") f_lawPs f_lawRest (locSC f_lawPs f_lawRest f_lawNames fns6 meths6 f_lawCells) f_lawBody
noncomputable def chk6 (K : Frag) : Bool := chk6a K && (chk6b K && (chk6c K && chk6d K))
noncomputable def lawCallE (f : String) (vs : List V) (Q : V → Mem → Prop) (m : Mem) : Prop :=
  (∃ a b, f = "_law_edits" ∧ vs = [.str a, .str b] ∧ a.length ≤ 1000 ∧ b.length ≤ 1000 ∧ ∀ m', Gr m m' → Q (.int (edits a b : Nat)) m') ∨
  ∃ d r, f = "_law_single" ∧ vs = [.obj d] ∧ m d = some (.list (rv r)) ∧ phi r ≤ 900 ∧ ∀ m' c, Gr m m' → m c = none → m' c = some (.list (rv (cut r))) → Q (.obj c) m'
noncomputable def pcE (cls : Addr) : PC := { pcOf cls with call := lawCallE }
section
variable {G : GS} {A : Around}
theorem run6 (gok : G.ok) (gbi : G.bi) (hf : G.fns = fns6) (hme : G.meths = meths6) (ha : chk6a G.K = true) (hb : chk6b G.K = true) (hc : chk6c G.K = true) (lv : Lv A 400) : (pcL6 (clsA G.K)).run G A := by
  obtain ⟨a1, ha⟩ := and_e ha
  obtain ⟨a2, ha⟩ := and_e ha
  obtain ⟨a3, ha⟩ := and_e ha
  obtain ⟨a4, ha⟩ := and_e ha
  obtain ⟨a5, ha⟩ := and_e ha
  obtain ⟨a6, ha⟩ := and_e ha
  obtain ⟨a7, ha⟩ := and_e ha
  obtain ⟨a8, ha⟩ := and_e ha
  obtain ⟨a9, ha⟩ := and_e ha
  obtain ⟨a10, a11⟩ := and_e ha
  obtain ⟨b1, hb⟩ := and_e hb
  obtain ⟨b2, hb⟩ := and_e hb
  obtain ⟨b3, hb⟩ := and_e hb
  obtain ⟨b4, hb⟩ := and_e hb
  obtain ⟨b5, hb⟩ := and_e hb
  obtain ⟨b6, hb⟩ := and_e hb
  obtain ⟨b7, b8⟩ := and_e hb
  obtain ⟨c1, hc⟩ := and_e hc
  obtain ⟨c2, hc⟩ := and_e hc
  obtain ⟨c3, c4⟩ := and_e hc
  rw [← hf, ← hme] at a7 a8 a9 a10
  have b : Base G (pcOf (clsA G.K)) := ⟨gok, gbi, pc_ok a3, by rw [hf]; exact a1, by rw [hme]; exact a2⟩
  have fv : ∀ n, n ∈ fns6 → fnV G.K n = .ref (fnA G.K n) := fun n hn => beq_iff_eq.mp (List.all_eq_true.mp a6 n hn)
  have hF : ∀ n, n ∈ fns6 → n ∈ G.fns := fun n hn => by rw [hf]; exact hn
  have hM : ∀ n, n ∈ meths6 → n ∈ G.meths := fun n hn => by rw [hme]; exact hn
  have lv9 : Lv A (399 + 1) := lv
  have rm := fun env => (lv9.deeper env).rm
  have r0 := fun env => run0 (A := A.deeper env) b
  have rE : ∀ env, (pcE (clsA G.K)).run G (A.deeper env) := fun env => by
    have lv8 : Lv (A.deeper env) (398 + 1) := lv9.deeper env
    refine run_mk (b.swap rfl rfl rfl) (fun n hn vs Q m hc => ?_) (fun _ _ _ _ _ h => h.elim) (fun _ _ _ _ h => h.elim)
    rcases hc with ⟨x, y, rfl, rfl, h1, h2, q⟩ | ⟨d, r, rfl, rfl, h1, h2, q⟩
    · rw [fv _ (by decide)]
      exact (call_fn gok gbi b5 lv8.room (fun env' => (lv8.deeper env').rm) (fun env' => run0 b) hF hM rfl (w_edits h1 h2 q)).toS
    · rw [fv _ (by decide)]
      exact (call_fn gok gbi b2 lv8.room (fun env' => (lv8.deeper env').rm) (fun env' => run0 b) hF hM rfl (w_single h1 h2 q)).toS
  refine run_mk (b.swap rfl rfl rfl) (fun n hn vs Q m hc => ?_) (fun n hn vs Q m hc => ?_) (fun _ _ _ _ h => h.elim)
  · rcases hc with ⟨d, ns, rfl, rfl, hm, hl, q⟩ | ⟨d, k, r, rfl, rfl, h1, h2, h3, h4, q⟩ | ⟨d, r, rfl, rfl, h1, h2, h3, q⟩ | ⟨d, r, rfl, rfl, h1, h2, h3, h4, q⟩ | ⟨d, r, rfl, rfl, h1, h2, q⟩ | ⟨e, l, R0, R1, rfl, rfl, h1, h2, h3, h4, h5, h6, h7, q⟩ | ⟨x, y, rfl, rfl, h1, h2, q⟩ | ⟨rfl, rfl, q⟩
    · rw [fv _ (by decide)]
      exact (call_fn gok gbi b1 lv.room rm r0 hF hM rfl (w_signs6 hm hl q)).toS
    · rw [fv _ (by decide)]
      exact (call_fn gok gbi b3 lv.room rm r0 hF hM rfl (w_text h1 h2 h3 h4 q)).toS
    · rw [fv _ (by decide)]
      exact (call_fn gok gbi b6 lv.room rm rE hF hM rfl (w_str (fun x y Q m ha hb h => .inl ⟨x, y, rfl, rfl, ha, hb, h⟩) h1 h2 h3 q)).toS
    · rw [fv _ (by decide)]
      exact (call_fn gok gbi b7 lv.room rm r0 hF hM rfl (w_caps h1 h2 h3 h4 q)).toS
    · rw [fv _ (by decide)]
      exact (call_fn gok gbi b8 lv.room rm r0 hF hM rfl (w_turned h1 h2 q)).toS
    · rw [fv _ (by decide)]
      exact (call_fn gok gbi b4 lv.room rm rE hF hM rfl (w_joined (fun d r Q m h1 h2 h => .inr ⟨d, r, rfl, rfl, h1, h2, h⟩) h1 h2 h3 h4 h5 h6 h7 q)).toS
    · rw [fv _ (by decide)]
      exact (call_fn gok gbi b5 lv.room rm r0 hF hM rfl (w_edits h1 h2 q)).toS
    · rw [fv _ (by decide)]
      refine call_class gok c1 (beq_iff_eq.mp c2) (beq_iff_eq.mp c3) fun x d hx hd hne => ?_
      have lv' := lv9.call (k := 399) (clsA G.K)
      refine call_fn gok gbi c4 lv'.room (fun env => ((lv'.less (by exact Nat.lt_succ_self _ : 398 + 1 ≤ 399)).deeper env).rm) (fun env => run0 b) hF hM rfl (w_init (clsA G.K) x d _ (ups _ _ _) (by rw [upn _ _ (Ne.symm hne), ups]) (fun r m' => r = V.none ∧ Q (.obj x) m') fun m' h1 h2 h3 => ⟨rfl, q x d m' (fun a o e => ?_) hx hd hne h1 h2⟩)
      have nx : a ≠ x := fun z => by subst z; rw [hx] at e; exact (Option.some_ne_none _ e.symm).elim
      have nd : a ≠ d := fun z => by subst z; rw [hd] at e; exact (Option.some_ne_none _ e.symm).elim
      exact h3 a o nd (by rw [upn _ _ nx, upn _ _ nd]; exact e)
  · rcases hc with hc | ⟨t, d, r, rfl, rfl, h1, h2, h3, h4, q⟩
    · exact law_meth b a7 a8 a9 (half_no b (Int.le_refl 0) a10) (lv.less (by exact Nat.le_add_left ..)) n vs Q m hc
    · exact (call_fn gok gbi a11 lv.room rm r0 hF hM rfl (w_lev h1 h2 h3 h4 rfl rfl rfl q)).toS
end
theorem go6 {K : Frag} {sc : Addr} {ns : List Int} (hn : ns.length ≤ 63) (ha : chk6a K = true) (hb : chk6b K = true) (hc : chk6c K = true) (hd : fnChk K (fnA K "law") f_lawPs f_lawRest (locSC f_lawPs f_lawRest f_lawNames fns6 meths6 f_lawCells) f_lawBody = true)
    {ol : Obj} {m : Mem} (G : GS) (e3 : G.K = K) (e4 : G.fns = fns6) (e5 : G.meths = meths6) (gok : G.ok) (gbi : G.bi) (m2 : m sc = some (.ro ol (ns.map V.int))) (Q : V → Mem → Prop) (hQ : ∀ m', m' sc = some (.ro ol (ns.map V.int)) → Q (.bool true) m') :
    CallC G callerA (.ref (fnA K "law")) [.obj sc] Q m := by
  subst e3
  have hF : ∀ n, n ∈ fns6 → n ∈ G.fns := fun n hn => by rw [e4]; exact hn
  have hM : ∀ n, n ∈ meths6 → n ∈ G.meths := fun n hn => by rw [e5]; exact hn
  have lv : Lv callerA (499 + 1) := callerLv
  exact call_fn gok gbi hd lv.room (fun env => (lv.deeper env).rm) (fun env => run6 gok gbi e4 e5 ha hb hc ((lv.deeper env).less (by exact Nat.le_add_left ..))) hF hM rfl (w_law6 m2 hn hQ)
theorem law6_top {prog : Program} {w : World} {p : Program} {loose : List Str} {mean : ExcName → Option Value} {mg mb : Str → Option Value} {K : Frag} {sc fa : Addr} {s : Shared}
    {vals : List Value} {ns : List Int} {R : Result → Shared → Prop}
    (X : K.In (ghostOf s.heap [])) (T : Top p loose mean mg mb (ghostOf s.heap [])) (hl : s.heap.IsList sc vals.toArray) (hI : IntsAre vals ns) (hn : ¬ (63 : Int) < (ns.length : Int))
    (hK : chk6 K = true) (hfa : mg (Str.ofString "law") = some (.ref fa))
    (hpost : ∀ s' : Shared, (∃ h tk, s' = { s with heap := h, toks := tk }) → (∀ b o, (ghostOf s.heap []).get? b = some o → s'.heap.get? b = some o) → R (.ok (.ret (.bool true))) s') :
    codeAny (model prog w) callerA (.call (.ref fa) ⟨[.ref sc], []⟩) R s := by
  obtain ⟨ha, hK⟩ := and_e hK
  obtain ⟨hb, hK⟩ := and_e hK
  obtain ⟨hc, hd⟩ := and_e hK
  obtain ⟨hd1, hd2⟩ := and_e hd
  have ef := fa_law X T.g hfa (beq_iff_eq.mp hd1)
  obtain ⟨_, h1⟩ := and_e ha
  obtain ⟨_, h2⟩ := and_e h1
  obtain ⟨_, h3⟩ := and_e h2
  obtain ⟨hbi, h4⟩ := and_e h3
  obtain ⟨hnl, _⟩ := and_e h4
  have hn' : ns.length ≤ 63 := by lia
  rw [ef]
  exact law_top (fns := fns6) (meths := meths6) X T hl hI hbi hnl (fun ol G e1 e2 e3 e4 e5 gok gbi => go6 hn' ha hb hc hd2 G e3 e4 e5 gok gbi (if_pos rfl) _ fun m' h => ⟨rfl, h⟩) hpost
end Mine.Internal
open PySem PySem.W PyProof.Rows
set_option Elab.async false
namespace Mine.Internal
noncomputable def vw : Program := view PySem.Challenge.pw_im0119_06 [0, 2, 4, 5, 6, 7, 8, 9, 10, 11, 12]
noncomputable def topHook : Hook := myHook chk6 [2, 3, 15, 17, 18, 20, 21, 29, 31, 32, 34, 35, 36, 37, 39, 40, 42, 43, 44, 46, 47, 49, 50, 51, 53, 54, 56, 57, 58, 60, 61, 63, 64, 65, 67, 68, 70, 71, 72, 74, 75, 77, 78, 79, 81, 82, 84, 85, 86, 88, 89, 91, 92, 93, 95, 96, 98, 99, 100, 102, 103, 105, 106, 107, 109, 110, 112, 113, 114, 116, 117, 119, 120, 121, 123, 124, 126, 127, 128, 130, 131, 133, 134, 135, 136, 137, 138, 139, 142, 145, 146, 147, 150, 151, 152, 155, 156, 157, 159, 160, 162, 163, 164, 166, 167, 169, 170, 171, 173, 174, 176, 177, 178, 181, 182, 183, 186, 187, 188, 190, 191, 193, 194] []
set_option maxRecDepth 100000 in
theorem boot1 : ∀ w : World, (fencedOpening treeTable PySem.Challenge.pw_im0119_06 w 1300).map (fun s => (s.heap, s.gens, s.drawn, s.toks)) = some (boot_heap w.params, Array.mk [], boot_drawn, boot_toks) :=
  boot_open rfl (by decide) (fun s => rfl)
set_option maxRecDepth 100000 in
theorem left1 : LeftO PySem.Challenge.pw_im0119_06 vw ["diff_match_patch"] (fun s => xlAt vw [] s && recOk [] s) topHook.obs topHook.val 1300 := by
  refine left_boot boot1 fun w os => ?_
  kernel_rfl
end Mine.Internal
set_option maxRecDepth 100000 in
set_option maxHeartbeats 8000000 in
theorem PySem.Challenge.cw_im0119_06_holds : PySem.Challenge.rw_im0119_06.Holds := by
  w_on
  refine holds_law (by kernel_rfl) fun said => ?_
  refine holds_open (q := Mine.Internal.vw) (XP := XL Mine.Internal.vw []) (YP := Mine.Internal.topHook.says) Mine.Internal.left1 Mine.Internal.topHook.of Mine.Internal.topHook.keeps (fun s e => xl_of s (Bool.and_eq_true_iff.mp e).1) XL.keeps (by rfl) (by rfl) (by rfl) (fun s e => recFacts_of (Bool.and_eq_true_iff.mp e).2) (by rfl) (by first | assumption | decide +kernel) (by decide +kernel) ⟨rfl, rfl, rfl, rfl, rfl, by decide +kernel⟩ ?hw ?hc
  (case hw => w_witness2)
  intro w s₀ s₁ mg mb G Y fa o pm cd doc dV kV ho hd hcd hD hmg hg args vals as hpre hlay hrd hwl hlo
  obtain ⟨⟨K, KX, hchk⟩, hT8⟩ := Y
  refine Ground.open G ?_
  intro T B D TE TW
  try (refine guard_noD D (by decide +kernel) ?_; clear D)
  wrow_args hpre hlay hrd hwl hlo
  refine wpAny_call ?_
  refine' Mine.Internal.law6_top KX T ?minehl ?minehI ?minehn hchk hmg ?minehpost
  (case minehl => assumption)
  (case minehI => assumption)
  (case minehn => assumption)
  (case minehpost => (intro s' hs hkeep; obtain ⟨h, tk, rfl⟩ := hs; (show GoodWG _ _ _ _ _ (.ok (.ret (.bool true))) _); refine GoodW.toG ?_; refine' And.intro (Or.inl ⟨_, _, [], rfl, raisesW_false ?minep2, .bool true, ?minep3, unshared_nil⟩) ⟨hkeep, rfl, ?minep4⟩; (case minep2 => wrow_none_raised); (case minep3 => first | wrow_post | kc_post); (case minep4 => assumption)))
