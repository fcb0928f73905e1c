import PyProof.Rows.All
import Wide.All
import OpenK.AllK
import Wide.FinOn
import Lean
import PySem.Challenge.RW_wj0033_01
set_option Elab.async false
set_option maxRecDepth 100000
set_option linter.unusedVariables false
namespace Mine
open PySem PySem.W PyProof.Rows
set_option maxHeartbeats 8000000 in
/-- The head of the walk, its three tasks left open: only the written-out heap, hd.heap_39, is used by what follows. -/
theorem hd : ∃ A B C : Prop, A → B → C → PySem.Challenge.rw_wj0033_01.Holds := by
  apply Exists.intro
  apply Exists.intro
  apply Exists.intro
  intro a b c
  refine (fun _ _ _ => ?g : type_of% a → type_of% b → type_of% c → PySem.Challenge.rw_wj0033_01.Holds) ?hl ?hw ?hc
  rotate_left
  exact a
  exact b
  exact c
  rotate_left 3
  w_on
  o_law
  k_head
end Mine

namespace Mine
open PySem PySem.Spec PySem.Calls PyProof.Rows PySem.W

noncomputable abbrev PR : Program := PySem.Challenge.pw_wj0033_01

/-- data as trees; `mr` a list that is still being changed -/
inductive V where
  | none | bool (b : Bool) | int (i : Int) | str (s : Str) | strT (s : Str) (lo : Nat) (hi : Option Nat) | val (v : Value) | mr (a : Addr) | rng (a b : Int)
  | list (xs : List V) | tup (xs : List V) | obj (xs : List V)

noncomputable def Has (H : Addr → Prop) (h : Heap) (a : Addr) (o : Obj) : Prop := h.get? a = some o ∧ ¬ H a
theorem Has.mono {H : Addr → Prop} {h h' : Heap} (e : ∀ b o, h.get? b = some o → h'.get? b = some o) (a : Addr) (o : Obj) (x : Has H h a o) : Has H h' a o := ⟨e _ _ x.1, x.2⟩

noncomputable def wsNames : List Str := ["raw", "n", "nt", "norm", "is_simple"]
noncomputable def keysAre : List Str → List DictEntry → Prop
  | [], [] => True
  | x :: xs, e :: es => (∃ t, e.key = .str x t) ∧ keysAre xs es
  | _, _ => False

mutual
inductive VR (W : Addr → Obj → Prop) : V → Value → Prop
  | none : VR W .none .none
  | bool (b) : VR W (.bool b) (.bool b)
  | int (i t) : VR W (.int i) (.int i t)
  | str (x t) : VR W (.str x) (.str x t)
  | strT (x t lo hi) (h : lo ≤ t) (h' : ∀ m, hi = some m → t < m) : VR W (.strT x lo hi) (.str x t)
  | val (v) : VR W (.val v) v
  | mr (a) : VR W (.mr a) (.ref a)
  | rng {r a b t u v} : W r { cls := .type "range", dict := none, data := .fields #[.int a t, .int b u, .int 1 v], slots := #[] } → VR W (.rng a b) (.ref r)
  | list {a n xs vs} : W a { cls := .type "list", data := .seq (List.toArray vs) n } → VRs W xs vs → VR W (.list xs) (.ref a)
  | tup {a n xs vs} : W a { cls := .type "tuple", data := .seq (List.toArray vs) n } → VRs W xs vs → VR W (.tup xs) (.ref a)
  | obj {x dx n es xs} : W x ⟨.ref 83, some dx, .plain, #[]⟩ → W dx (dictOf es n) → keysAre wsNames es → VRs W xs (es.map (·.val)) → VR W (.obj xs) (.ref x)
inductive VRs (W : Addr → Obj → Prop) : List V → List Value → Prop
  | nil : VRs W [] []
  | cons {x v xs vs} : VR W x v → VRs W xs vs → VRs W (x :: xs) (v :: vs)
end
mutual
theorem VR.mono {W W' : Addr → Obj → Prop} (h : ∀ a o, W a o → W' a o) : ∀ {x : V} {v : Value}, VR W x v → VR W' x v
  | _, _, .none => .none
  | _, _, .bool b => .bool b
  | _, _, .int i t => .int i t
  | _, _, .str x t => .str x t
  | _, _, .strT x t lo hi h h' => .strT x t lo hi h h'
  | _, _, .val v => .val v
  | _, _, .mr a => .mr a
  | _, _, .rng a => .rng (h _ _ a)
  | _, _, .list a b => .list (h _ _ a) (VRs.mono h b)
  | _, _, .tup a b => .tup (h _ _ a) (VRs.mono h b)
  | _, _, .obj a b c d => .obj (h _ _ a) (h _ _ b) c (VRs.mono h d)
theorem VRs.mono {W W' : Addr → Obj → Prop} (h : ∀ a o, W a o → W' a o) : ∀ {x : List V} {v : List Value}, VRs W x v → VRs W' x v
  | _, _, .nil => .nil
  | _, _, .cons a b => .cons (VR.mono h a) (VRs.mono h b)
end
theorem VRs.length {W : Addr → Obj → Prop} : ∀ {x : List V} {v : List Value}, VRs W x v → v.length = x.length
  | _, _, .nil => rfl
  | _, _, .cons _ b => by simp [VRs.length b]
theorem VRs.get {W : Addr → Obj → Prop} : ∀ {xs : List V} {vs : List Value}, VRs W xs vs → ∀ {i : Nat} {x : V}, xs[i]? = some x → ∃ v, vs[i]? = some v ∧ VR W x v
  | _, _, .cons a b, 0, x, e => by cases e; exact ⟨_, rfl, a⟩
  | _, _, .cons a b, i + 1, x, e => VRs.get b (i := i) (by simpa using e)
theorem VRs.append {W : Addr → Obj → Prop} : ∀ {xs ys : List V} {vs us : List Value}, VRs W xs vs → VRs W ys us → VRs W (xs ++ ys) (vs ++ us)
  | _, _, _, _, .nil, h => h
  | _, _, _, _, .cons a b, h => .cons a (VRs.append b h)
theorem VRs.set {W : Addr → Obj → Prop} : ∀ {xs : List V} {vs : List Value} (i : Nat) {x : V} {v : Value}, VRs W xs vs → VR W x v → VRs W (xs.set i x) (vs.set i v)
  | _, _, _, _, _, .nil, _ => .nil
  | _, _, 0, _, _, .cons _ b, h => .cons h b
  | _, _, i + 1, _, _, .cons a b, h => .cons a (VRs.set i b h)

structure TopF (w : World) (h : Heap) : Prop where
  X : (hd.heap_39 w.params).In h
  T : ∃ (p : Program) (loose : List Str) (mean : ExcName → Option Value) (mg mb : Str → Option Value), Top p loose mean mg mb h
  nb : NoneBooked h
theorem TopF.keeps {w : World} {h h' : Heap} (x : TopF w h) (e : ∀ b o, h.get? b = some o → h'.get? b = some o) : TopF w h' :=
  ⟨x.X.keeps e, let ⟨p, l, m, mg, mb, T⟩ := x.T; ⟨p, l, m, mg, mb, T.keeps e⟩, let ⟨mc, a, b⟩ := x.nb; ⟨mc, a.keeps e, b⟩⟩
theorem TopF.nolimit {w : World} {h : Heap} (x : TopF w h) : h.NoLimit := let ⟨_, _, _, _, _, T⟩ := x.T; T.nolimit

structure AOk (A : Around) (d : Nat) : Prop where
  hh : A.handled = none
  dp : A.depth + d < 900
  un : A.units + 8 * d < 9000
theorem AOk.less {A : Around} {d d' : Nat} (h : AOk A d) (e : d' ≤ d) : AOk A d' := ⟨h.hh, by have := h.dp; omega, by have := h.un; omega⟩
theorem AOk.room {A : Around} {d : Nat} (h : AOk A d) : A.depth < recursionLimit := by have := h.dp; show A.depth < 1000; omega
theorem AOk.deeper {A : Around} {d : Nat} (h : AOk A (d + 1)) (env : Env) : AOk (A.deeper env) d :=
  ⟨h.hh, by have := h.dp; show A.depth + 1 + d < 900; omega, by have := h.un; show A.units + 3 + 8 * d < 9000; omega⟩
theorem AOk.in1 {A : Around} {d : Nat} (h : AOk A (d + 1)) : AOk A.in1 d :=
  ⟨h.hh, by have := h.dp; show A.depth + d < 900; omega, by have := h.un; show A.units + 1 + 8 * d < 9000; omega⟩

structure Cx where
  w : World
  env : Env
  H : Addr → Prop
  d : Nat
  /-- the marks of new strs stand at this or above -/
  lo : Nat := 430
  /-- what the cells of outer frames hold -/
  fr : List (Str × V) := []

structure Sg where
  ρ : List (Str × V)
  cl : List (Str × Addr × Option V) := []
  O : List (Addr × List V) := []
  /-- objects under way: the object, its dict, its fields so far -/
  D : List (Addr × Addr × List (Str × V)) := []

noncomputable def own (σ : Sg) (F : List (Addr × Obj)) : List Addr := σ.cl.map (·.2.1) ++ σ.O.map (·.1) ++ σ.D.flatMap (fun p => [p.1, p.2.1]) ++ F.map (·.1)
noncomputable def Hd (C : Cx) (σ : Sg) (F : List (Addr × Obj)) (a : Addr) : Prop := C.H a ∨ a = C.env.locals ∨ a ∈ own σ F

noncomputable def put (x : Str) (v : V) : List (Str × V) → List (Str × V)
  | [] => [(x, v)]
  | (y, u) :: r => if x == y then (y, v) :: r else (y, u) :: put x v r
theorem put_lookup (x : Str) (v : V) (y : Str) : ∀ ρ : List (Str × V), (put x v ρ).lookup y = if y == x then some v else ρ.lookup y
  | [] => by simp only [put, List.lookup_cons, List.lookup_nil]; cases y == x <;> rfl
  | (z, u) :: r => by
    have ih := put_lookup x v y r
    unfold put
    by_cases h : (x == z) = true
    · rw [if_pos h]
      have e := eq_of_beq h
      subst e
      simp only [List.lookup_cons]
      cases y == x <;> rfl
    · rw [if_neg h]
      simp only [List.lookup_cons, ih]
      cases hy : y == z with
      | true =>
        have e := eq_of_beq hy
        subst e
        have : (y == x) = false := by
          cases q : y == x with
          | true => exact absurd (by rw [eq_of_beq q]; simp) h
          | false => rfl
        rw [this]; rfl
      | false => rfl

noncomputable def FieldsR (W : Addr → Obj → Prop) : List (Str × V) → List DictEntry → Prop
  | [], [] => True
  | (x, v) :: r, e :: es => (∃ t, e.key = .str x t) ∧ VR W v e.val ∧ FieldsR W r es
  | _, _ => False
theorem FieldsR.mono {W W' : Addr → Obj → Prop} (h : ∀ a o, W a o → W' a o) : ∀ {fs : List (Str × V)} {es : List DictEntry}, FieldsR W fs es → FieldsR W' fs es
  | [], [], _ => trivial
  | (x, v) :: r, e :: es, ⟨a, b, c⟩ => ⟨a, b.mono h, FieldsR.mono h c⟩
  | [], _ :: _, f => f.elim
  | _ :: _, [], f => f.elim

/-- what an expression sees -/
structure Vw (C : Cx) (σ : Sg) (F : List (Addr × Obj)) (s : Shared) : Prop where
  top : TopF C.w s.heap
  tk : 430 ≤ C.lo ∧ C.lo ≤ s.toks
  fn : C.env.scope.kind = .function
  glob : C.env.globals = mainGlobals
  blt : C.env.builtins = builtinsNs
  ns : ∃ m, s.heap.Ns C.env.locals m ∧ ∀ x v, σ.ρ.lookup x = some v → ∃ v', m x = some v' ∧ VR (Has (Hd C σ F) s.heap) v v'
  cells : ∀ x c v, σ.cl.lookup x = some (c, some v) → C.env.cells.lookup x = some c ∧ ∃ v', s.heap.IsCell c (some v') ∧ VR (Has (Hd C σ F) s.heap) v v'
  lists : ∀ p ∈ σ.O, ∃ vs : List Value, s.heap.PlainList p.1 vs.toArray ∧ VRs (Has (Hd C σ F) s.heap) p.2 vs
  objs : ∀ p ∈ σ.D, s.heap.get? p.1 = some (instObj 83 p.2.1) ∧ ∃ es n, s.heap.get? p.2.1 = some (dictOf es n) ∧ FieldsR (Has (Hd C σ F) s.heap) p.2.2 es
  raws : ∀ p ∈ F, s.heap.get? p.1 = some p.2
  low : ∀ a, Hd C σ F a → ∃ o, s.heap.get? a = some o
  nd : (C.env.locals :: own σ F).Nodup
  apart : ∀ a, a ∈ C.env.locals :: own σ F → ¬ C.H a
  free : ∀ x v, C.fr.lookup x = some v → ∃ c v', C.env.cells.lookup x = some c ∧ s.heap.IsCell c (some v') ∧ VR (Has (Hd C σ F) s.heap) v v'

structure Kp (s s' : Shared) : Prop where
  same : ∃ h tk, s' = { s with heap := h, toks := tk }
  ext : ∀ b o, s.heap.get? b = some o → s'.heap.get? b = some o
  tk : s.toks ≤ s'.toks
theorem Kp.of {s s' : Shared} (k : Keeps s s') (q : s.toks ≤ s'.toks) : Kp s s' := by
  obtain ⟨h, t, rfl, e⟩ := k
  exact ⟨⟨h, t, rfl⟩, e, q⟩
theorem Kp.out {s s' : Shared} (k : Kp s s') : Keeps s s' := by
  obtain ⟨⟨h, t, rfl⟩, e, _⟩ := k
  exact ⟨h, t, rfl, e⟩
theorem Vw.toks {C : Cx} {σ : Sg} {F : List (Addr × Obj)} {s : Shared} (x : Vw C σ F s) : 430 ≤ s.toks := Nat.le_trans x.tk.1 x.tk.2
theorem Vw.keeps {C : Cx} {σ : Sg} {F : List (Addr × Obj)} {s s' : Shared} (x : Vw C σ F s) (k : Kp s s') : Vw C σ F s' := by
  obtain ⟨⟨h', tk, rfl⟩, e, htk⟩ := k
  have mono : ∀ {v : V} {v' : Value}, VR (Has (Hd C σ F) s.heap) v v' → VR (Has (Hd C σ F) h') v v' := fun y => y.mono (Has.mono e)
  refine ⟨x.top.keeps e, ⟨x.tk.1, Nat.le_trans x.tk.2 htk⟩, x.fn, x.glob, x.blt, ?_, fun y c v hy => ?_, fun p hp => ?_, fun p hp => ?_, fun p hp => e _ _ (x.raws p hp), fun a ha => let ⟨o, ho⟩ := x.low a ha; ⟨o, e _ _ ho⟩, x.nd, x.apart, fun y v hy => let ⟨c, v', a, ⟨o, ho, hd⟩, b⟩ := x.free y v hy; ⟨c, v', a, ⟨o, e _ _ ho, hd⟩, mono b⟩⟩
  · obtain ⟨m, hn, hv⟩ := x.ns
    exact ⟨m, hn.keeps e, fun y v hy => let ⟨v', a, b⟩ := hv y v hy; ⟨v', a, mono b⟩⟩
  · obtain ⟨a, v', ⟨o, ho, hd⟩, b⟩ := x.cells y c v hy
    exact ⟨a, v', ⟨o, e _ _ ho, hd⟩, mono b⟩
  · obtain ⟨vs, a, b⟩ := x.lists p hp
    exact ⟨vs, a.at fun o q => e _ _ q, b.mono (Has.mono e)⟩
  · obtain ⟨a, es, n, b, c⟩ := x.objs p hp
    exact ⟨e _ _ a, es, n, e _ _ b, c.mono (Has.mono e)⟩

theorem Kp.refl (s : Shared) : Kp s s := ⟨⟨s.heap, s.toks, rfl⟩, fun _ _ e => e, Nat.le_refl _⟩
theorem Kp.trans {a b c : Shared} (x : Kp a b) (y : Kp b c) : Kp a c := by
  obtain ⟨⟨h, t, rfl⟩, e, q⟩ := x
  obtain ⟨⟨h', t', rfl⟩, e', q'⟩ := y
  exact ⟨⟨h', t', rfl⟩, fun b o z => e' b o (e b o z), Nat.le_trans q q'⟩
theorem Kp.tok {s : Shared} : Kp s { s with toks := s.toks + 1 } := ⟨⟨s.heap, _, rfl⟩, fun _ _ e => e, Nat.le_succ _⟩
theorem Kp.tokk {s : Shared} {k : Nat} (h : s.toks ≤ k) : Kp s { s with toks := k } := ⟨⟨s.heap, _, rfl⟩, fun _ _ e => e, h⟩
theorem Kp.push {s : Shared} (o : Obj) : Kp s { s with heap := s.heap.push o } := ⟨⟨_, s.toks, rfl⟩, fun _ _ e => Heap.get?_push_of_some o e, Nat.le_refl _⟩
theorem Kp.pushk {s : Shared} (o : Obj) {k : Nat} (h : s.toks ≤ k) : Kp s { s with heap := s.heap.push o, toks := k } := ⟨⟨_, _, rfl⟩, fun _ _ e => Heap.get?_push_of_some o e, h⟩
theorem withToks {α : Type} {M : Model} {A : Around} {E : Value → Shared → Prop} {t : Sem α} {Q : α → Shared → Prop} {s : Shared} (h : wpAny M A t (fun v s' => s.toks ≤ s'.toks → Q v s') E s) : wpAny M A t Q E s :=
  wpAny_mono (wpAny_toks_of (Nat.le_refl _) h) (fun _ _ x => x.2 x.1) fun _ _ x => x.2

/-- an expression has a value -/
noncomputable def EV (C : Cx) (σ : Sg) (e : Expr) (v : V) : Prop :=
  ∀ (F : List (Addr × Obj)) (A : Around) (E : Value → Shared → Prop) (s : Shared), AOk A C.d → Vw C σ F s → ∀ Q : Value → Shared → Prop, (∀ v' s', Kp s s' → VR (Has (Hd C σ F) s'.heap) v v' → Q v' s') → wpAny (model PR C.w) A (eval e C.env) Q E s
/-- a test -/
noncomputable def EB (C : Cx) (σ : Sg) (e : Expr) (b : Bool) : Prop :=
  ∀ (F : List (Addr × Obj)) (A : Around) (E : Value → Shared → Prop) (s : Shared), AOk A C.d → Vw C σ F s → ∀ Q : Bool → Shared → Prop, (∀ s', Kp s s' → Q b s') → wpAny (model PR C.w) A (isTrue e C.env (eval e C.env)) Q E s
noncomputable def EVs (C : Cx) (σ : Sg) (es : List Expr) (vs : List V) : Prop :=
  ∀ (F : List (Addr × Obj)) (A : Around) (E : Value → Shared → Prop) (s : Shared) (pos : Pos), AOk A C.d → Vw C σ F s → ∀ Q : List Value → Shared → Prop, (∀ v' s', Kp s s' → VRs (Has (Hd C σ F) s'.heap) vs v' → Q v' s') → wpAny (model PR C.w) A (spliced (backTo pos (starEach es C.env))) Q E s
/-- an operation on values that stand -/
noncomputable def OPQ (w : World) (lo : Nat) (t : List Value → Sem Value) (xs : List V) (r : V) (d : Nat) : Prop :=
  ∀ (A : Around) (E : Value → Shared → Prop) (s : Shared) (H : Addr → Prop) (vs : List Value), AOk A d → TopF w s.heap → 430 ≤ lo ∧ lo ≤ s.toks → (∀ a, H a → ∃ o, s.heap.get? a = some o) → VRs (Has H s.heap) xs vs → ∀ Q : Value → Shared → Prop, (∀ v' s', Kp s s' → VR (Has H s'.heap) r v' → Q v' s') → wpAny (model PR w) A (t vs) Q E s
noncomputable def OP1 (w : World) (d : Nat) (t : Value → Sem Value) (a r : V) : Prop :=
  ∀ (A : Around) (E : Value → Shared → Prop) (s : Shared) (H : Addr → Prop) (x : Value), AOk A d → TopF w s.heap → 430 ≤ s.toks → (∀ a, H a → ∃ o, s.heap.get? a = some o) → VR (Has H s.heap) a x → ∀ Q : Value → Shared → Prop, (∀ v' s', Kp s s' → VR (Has H s'.heap) r v' → Q v' s') → wpAny (model PR w) A (t x) Q E s
noncomputable def OP2 (w : World) (d : Nat) (t : Value → Value → Sem Value) (a b r : V) : Prop :=
  ∀ (A : Around) (E : Value → Shared → Prop) (s : Shared) (H : Addr → Prop) (x y : Value), AOk A d → TopF w s.heap → 430 ≤ s.toks → (∀ a, H a → ∃ o, s.heap.get? a = some o) → VR (Has H s.heap) a x → VR (Has H s.heap) b y → ∀ Q : Value → Shared → Prop, (∀ v' s', Kp s s' → VR (Has H s'.heap) r v' → Q v' s') → wpAny (model PR w) A (t x y) Q E s

section
variable {C : Cx} {σ : Sg}
theorem VR.keeps {H : Addr → Prop} {s s' : Shared} {x : V} {v : Value} (h : VR (Has H s.heap) x v) (k : Kp s s') : VR (Has H s'.heap) x v := h.mono (Has.mono k.ext)
theorem VRs.keeps {H : Addr → Prop} {s s' : Shared} {x : List V} {v : List Value} (h : VRs (Has H s.heap) x v) (k : Kp s s') : VRs (Has H s'.heap) x v := h.mono (Has.mono k.ext)

theorem EV.int {i k pos} : EV C σ (.Constant (.int i) k pos) (.int i) := fun _ _ _ s _ _ _ hQ => wpAny_Constant_int (hQ _ _ Kp.tok (.int _ _))
theorem EV.str {x k pos} : EV C σ (.Constant (.str x) k pos) (.str x) := fun _ _ _ s _ _ _ hQ => wpAny_Constant_str (hQ _ _ Kp.tok (.str _ _))
theorem EV.bool {b k pos} : EV C σ (.Constant (.bool b) k pos) (.bool b) := fun _ _ _ s _ _ _ hQ => wpAny_Constant_bool (hQ _ _ (Kp.refl _) (.bool _))
theorem EV.name {x pos v} (hv : σ.ρ.lookup x = some v) (hx : C.env.kindOf x = some .local) (hd : (x == ("__debug__" : Str)) = false := by decide) : EV C σ (.Name x pos) v := fun _ _ _ s _ S _ hQ => by
  obtain ⟨m, hn, hm⟩ := S.ns
  obtain ⟨v', a, b⟩ := hm x v hv
  exact wpAny_Name (wpAny_loadName_local S.fn hx hn a (hQ _ _ (Kp.refl _) b)) hd
theorem EV.cell {x pos c v} (hv : σ.cl.lookup x = some (c, some v)) (hx : C.env.kindOf x = some .cell) (hd : (x == ("__debug__" : Str)) = false := by decide) : EV C σ (.Name x pos) v := fun _ _ _ s _ S _ hQ => by
  obtain ⟨a, v', hc, b⟩ := S.cells x c v hv
  exact wpAny_Name (wpAny_loadName_cell S.fn hx a hc (hQ _ _ (Kp.refl _) b)) hd
/-- a name of the module's -/
noncomputable def GLB (w : World) (x : Str) (v : Value) : Prop := nsIn (hd.heap_39 w.params) mainGlobals x = some (some v) ∨ (nsIn (hd.heap_39 w.params) mainGlobals x = some none ∧ bootBuiltins x = some v ∧ x ≠ "__name__")
theorem EV.glob {x pos v} (g : GLB C.w x v) (hx : C.env.kindOf x = some .globalImplicit) (hd : (x == ("__debug__" : Str)) = false := by decide) : EV C σ (.Name x pos) (.val v) := fun _ _ _ s _ S _ hQ => by
  obtain ⟨p, l, me, mg, mb, T⟩ := S.top.T
  have hg : s.heap.Ns C.env.globals mg := by rw [S.glob]; exact T.g
  have hb : s.heap.Ns C.env.builtins mb := by rw [S.blt]; exact T.b
  rcases g with e | ⟨e, hb', hn⟩
  · exact Name_function_global S.fn hx (loadGlobal_global hg (mg_of S.top.X T.g e) (hQ _ _ (Kp.refl _) (.val _))) hd
  · exact Name_function_global S.fn hx (loadGlobal_builtin hg (mg_none_of S.top.X T.g e) hb ((T.builtins x hn).trans hb') (hQ _ _ (Kp.refl _) (.val _))) hd

theorem EVs.nil : EVs C σ [] [] := fun _ _ _ _ _ _ _ _ hQ => args_nil (hQ _ _ (Kp.refl _) .nil)
theorem EVs.cons {e es v vs} (h : EV C σ e v) (hs : EVs C σ es vs) (he : starEach (e :: es) C.env = (false, eval e C.env) :: starEach es C.env) : EVs C σ (e :: es) (v :: vs) := fun F A E s pos a S Q hQ =>
  args_cons (h F A E s a S _ fun v' s' k r => hs F A E s' pos a (S.keeps k) _ fun vs' s'' k' r' => hQ _ _ (k.trans k') (.cons (r.keeps k') r')) he

theorem EV.bin {l op r pos a b v} (hl : EV C σ l a) (hr : EV C σ r b) (o : OP2 C.w C.d (binaryOp op) a b v) : EV C σ (.BinOp l op r pos) v := fun F A E s ok S Q hQ =>
  wpAny_BinOp (hl F A E s ok S _ fun x s₁ k₁ h₁ => hr F A E s₁ ok (S.keeps k₁) _ fun y s₂ k₂ h₂ =>
    o A E s₂ (Hd C σ F) x y ok ((S.keeps k₁).keeps k₂).top ((S.keeps k₁).keeps k₂).toks ((S.keeps k₁).keeps k₂).low (h₁.keeps k₂) h₂ _ fun z s₃ k₃ h₃ => hQ _ _ ((k₁.trans k₂).trans k₃) h₃)

theorem EV.cmp {l op r pos a b v} (hl : EV C σ l a) (hr : EV C σ r b) (o : OP2 C.w C.d (compareOp op) a b (.bool v)) (hm : behindInMarks op r = false) : EV C σ (.Compare l [op] [r] pos) (.bool v) := fun F A E s ok S Q hQ =>
  wpAny_Compare1 (hl F A E s ok S _ fun x s₁ k₁ h₁ => hr F A E s₁ ok (S.keeps k₁) _ fun y s₂ k₂ h₂ =>
    o A E s₂ (Hd C σ F) x y ok ((S.keeps k₁).keeps k₂).top ((S.keeps k₁).keeps k₂).toks ((S.keeps k₁).keeps k₂).low (h₁.keeps k₂) h₂ _ fun z s₃ k₃ h₃ => hQ _ _ ((k₁.trans k₂).trans k₃) h₃) hm

theorem EB.cmp {l op r pos a b v} (hl : EV C σ l a) (hr : EV C σ r b) (o : OP2 C.w C.d (compareOp op) a b (.bool v)) (hm : behindInMarks op r = false) : EB C σ (.Compare l [op] [r] pos) v := fun F A E s ok S Q hQ =>
  wpAny_isTrue_Compare1 (hl F A E s ok S _ fun x s₁ k₁ h₁ => hr F A E s₁ ok (S.keeps k₁) _ fun y s₂ k₂ h₂ =>
    o A E s₂ (Hd C σ F) x y ok ((S.keeps k₁).keeps k₂).top ((S.keeps k₁).keeps k₂).toks ((S.keeps k₁).keeps k₂).low (h₁.keeps k₂) h₂ _ fun z s₃ k₃ h₃ => by
      cases h₃
      exact wpAny_truthy_bool (hQ _ ((k₁.trans k₂).trans k₃))) hm
theorem EV.free {x pos v} (hv : C.fr.lookup x = some v) (hx : C.env.kindOf x = some .cell) (hd : (x == ("__debug__" : Str)) = false := by decide) : EV C σ (.Name x pos) v := fun _ _ _ s _ S _ hQ => by
  obtain ⟨c, v', a, hc, b⟩ := S.free x v hv
  exact wpAny_Name (wpAny_loadName_cell S.fn hx a hc (hQ _ _ (Kp.refl _) b)) hd
theorem EV.weak {e x lo hi} (h : EV C σ e (.strT x lo hi)) : EV C σ e (.str x) := fun F A E s ok S Q hQ => h F A E s ok S Q fun v' s' k r => hQ _ _ k (by cases r; exact .str _ _)
theorem EV.strT {x k pos} : EV C σ (.Constant (.str x) k pos) (.strT x C.lo Option.none) := fun _ _ _ s _ S _ hQ => wpAny_Constant_str (hQ _ _ Kp.tok (.strT _ _ _ _ S.tk.2 fun _ e => nomatch e))

theorem EV.ite {t b o pos c v} (ht : EB C σ t c) (h1 : c = true → EV C σ b v) (h2 : c = false → EV C σ o v) : EV C σ (.IfExp t b o pos) v := fun F A E s ok S Q hQ =>
  wpAny_IfExp (ht F A E s ok S _ fun s₁ k₁ => by
    cases c with
    | true => exact h1 rfl F A E s₁ ok (S.keeps k₁) _ fun v' s₂ k₂ r => hQ _ _ (k₁.trans k₂) r
    | false => exact h2 rfl F A E s₁ ok (S.keeps k₁) _ fun v' s₂ k₂ r => hQ _ _ (k₁.trans k₂) r)
end
end Mine

namespace Mine
open PySem PySem.Spec PySem.Calls PyProof.Rows PySem.W

/-- a frame of a def's: `s₀` the state at its call -/
structure Fw (C : Cx) (s₀ : Shared) (σ : Sg) (F : List (Addr × Obj)) (s : Shared) : Prop where
  vw : Vw C σ F s
  same : ∃ h tk, s = { s₀ with heap := h, toks := tk }
  ext : ∀ b o, s₀.heap.get? b = some o → s.heap.get? b = some o
  top0 : TopF C.w s₀.heap
  new : ∀ a, a ∈ C.env.locals :: own σ F → s₀.heap.get? a = none
  nd : (C.env.locals :: own σ F).Nodup
  out : ∀ a, C.H a → ∃ o, s₀.heap.get? a = some o
  cls : ∀ x c v, (x, c, v) ∈ σ.cl → C.env.cells.lookup x = some c ∧ ∃ u, s.heap.IsCell c u
  tk0 : s₀.toks ≤ s.toks
  frs : ∀ x v, C.fr.lookup x = some v → ∃ c v', C.env.cells.lookup x = some c ∧ s₀.heap.IsCell c (some v') ∧ VR (Has C.H s₀.heap) v v'
theorem oldHas {C : Cx} {σ : Sg} {F : List (Addr × Obj)} {h₀ h' : Heap} (ext : ∀ b o, h₀.get? b = some o → h'.get? b = some o) (new : ∀ a, a ∈ C.env.locals :: own σ F → h₀.get? a = none) : ∀ b o, Has C.H h₀ b o → Has (Hd C σ F) h' b o := fun b o x => ⟨ext _ _ x.1, fun q => by
  rcases q with q | q | q
  · exact x.2 q
  · have := new b (q ▸ List.mem_cons_self)
    rw [x.1] at this; cases this
  · have := new b (List.mem_cons_of_mem _ q)
    rw [x.1] at this; cases this⟩
theorem freeOf {C : Cx} {σ : Sg} {F : List (Addr × Obj)} {h₀ h' : Heap} (frs : ∀ x v, C.fr.lookup x = some v → ∃ c v', C.env.cells.lookup x = some c ∧ h₀.IsCell c (some v') ∧ VR (Has C.H h₀) v v') (ext : ∀ b o, h₀.get? b = some o → h'.get? b = some o) (new : ∀ a, a ∈ C.env.locals :: own σ F → h₀.get? a = none) :
    ∀ x v, C.fr.lookup x = some v → ∃ c v', C.env.cells.lookup x = some c ∧ h'.IsCell c (some v') ∧ VR (Has (Hd C σ F) h') v v' := fun x v hx =>
  let ⟨c, v', a, hc, b⟩ := frs x v hx
  ⟨c, v', a, hc.keeps ext, b.mono (oldHas ext new)⟩
theorem apartOf {C : Cx} {σ : Sg} {F : List (Addr × Obj)} {h₀ : Heap} (out : ∀ a, C.H a → ∃ o, h₀.get? a = some o) (new : ∀ a, a ∈ C.env.locals :: own σ F → h₀.get? a = none) : ∀ a, a ∈ C.env.locals :: own σ F → ¬ C.H a := fun a ha hH => by
  obtain ⟨o, ho⟩ := out a hH
  rw [new a ha] at ho; cases ho

noncomputable def Le (H H' : Addr → Prop) (s s' : Shared) : Prop := ∀ b o, Has H s.heap b o → Has H' s'.heap b o
theorem Le.refl (H : Addr → Prop) (s : Shared) : Le H H s s := fun _ _ x => x
theorem Le.trans {H H' H'' : Addr → Prop} {a b c : Shared} (x : Le H H' a b) (y : Le H' H'' b c) : Le H H'' a c := fun _ _ h => y _ _ (x _ _ h)
theorem Kp.le {s s' : Shared} (k : Kp s s') (H : Addr → Prop) : Le H H s s' := Has.mono k.ext

inductive Fl where
  | next | brk | cont | ret (v : V)
noncomputable def FlR (W : Addr → Obj → Prop) : Fl → Flow → Prop
  | .next, .next => True
  | .brk, .brk => True
  | .cont, .cont => True
  | .ret v, .ret v' => VR W v v'
  | _, _ => False

noncomputable def EX (C : Cx) (s₀ : Shared) (σ : Sg) (ss : List Stmt) (Ψ : Fl → Sg → Prop) : Prop :=
  ∀ (F : List (Addr × Obj)) (A : Around) (s : Shared), AOk A C.d → Fw C s₀ σ F s → ∀ Q : Flow → Shared → Prop, (∀ fl σ' f s', Fw C s₀ σ' F s' → Le (Hd C σ F) (Hd C σ' F) s s' → FlR (Has (Hd C σ' F) s'.heap) fl f → Ψ fl σ' → Q f s') → wpAny (model PR C.w) A (execs ss C.env) Q (fun _ _ => False) s
noncomputable def ES (C : Cx) (s₀ : Shared) (σ : Sg) (st : Stmt) (Ψ : Fl → Sg → Prop) : Prop :=
  ∀ (F : List (Addr × Obj)) (A : Around) (s : Shared), AOk A C.d → Fw C s₀ σ F s → ∀ Q : Flow → Shared → Prop, (∀ fl σ' f s', Fw C s₀ σ' F s' → Le (Hd C σ F) (Hd C σ' F) s s' → FlR (Has (Hd C σ' F) s'.heap) fl f → Ψ fl σ' → Q f s') → wpAny (model PR C.w) A (exec st C.env) Q (fun _ _ => False) s

section
variable {C : Cx} {s₀ : Shared} {σ : Sg} {F : List (Addr × Obj)} {s : Shared}
theorem Fw.keeps {s' : Shared} (S : Fw C s₀ σ F s) (k : Kp s s') : Fw C s₀ σ F s' := by
  refine ⟨S.vw.keeps k, ?_, fun b o e => k.ext _ _ (S.ext _ _ e), S.top0, S.new, S.nd, S.out, fun x c v hm => ?_, Nat.le_trans S.tk0 k.tk, S.frs⟩
  · obtain ⟨h, t, rfl⟩ := S.same
    obtain ⟨h', t', rfl⟩ := k.same
    exact ⟨h', t', rfl⟩
  · obtain ⟨a, u, hu⟩ := S.cls x c v hm
    exact ⟨a, u, hu.keeps k.ext⟩

theorem hidMono {a : Addr} (ha : Hd C σ F a) {h h' : Heap} (hs : Heap.SameBut a h h') : ∀ b o, Has (Hd C σ F) h b o → Has (Hd C σ F) h' b o :=
  fun b o x => ⟨(hs.2 b (by rintro rfl; exact x.2 ha)).trans x.1, x.2⟩

theorem EX.nil {Ψ} (h : Ψ .next σ) : EX C s₀ σ [] Ψ := fun F A s ok S Q hQ => wpAny_execs_nil (hQ .next _ _ _ S (Le.refl _ _) trivial h)
theorem EX.cons {st rest Ψ Ψ'} (h : ES C s₀ σ st Ψ') (h1 : ∀ fl σ', Ψ' fl σ' → match fl with | .next => EX C s₀ σ' rest Ψ | fl => Ψ fl σ') : EX C s₀ σ (st :: rest) Ψ := fun F A s ok S Q hQ =>
  wpAny_execs_cons (h F A s ok S _ fun fl σ' f s' S' l R p => by
    have z := h1 fl σ' p
    cases fl with
    | next => cases f <;> first | exact R.elim | exact z F A s' ok S' Q fun fl₂ σ₂ f₂ s₂ S₂ l₂ R₂ p₂ => hQ fl₂ σ₂ f₂ s₂ S₂ (l.trans l₂) R₂ p₂
    | brk => cases f <;> first | exact R.elim | exact hQ .brk _ _ _ S' l R z
    | cont => cases f <;> first | exact R.elim | exact hQ .cont _ _ _ S' l R z
    | ret v => cases f <;> first | exact R.elim | exact hQ (.ret v) _ _ _ S' l R z)
/-- a statement that only goes on -/
theorem EX.step {st rest Ψ} {σ' : Sg} (h : ES C s₀ σ st (fun fl σ₁ => fl = .next ∧ σ₁ = σ')) (h1 : EX C s₀ σ' rest Ψ) : EX C s₀ σ (st :: rest) Ψ :=
  EX.cons h fun fl σ₁ ⟨a, b⟩ => by subst a b; exact h1
theorem EX.mono {ss Ψ Ψ'} (h : EX C s₀ σ ss Ψ') (h1 : ∀ fl σ', Ψ' fl σ' → Ψ fl σ') : EX C s₀ σ ss Ψ := fun F A s ok S Q hQ => h F A s ok S Q fun fl σ' f s' S' l R p => hQ fl σ' f s' S' l R (h1 _ _ p)
theorem ES.mono {st Ψ Ψ'} (h : ES C s₀ σ st Ψ') (h1 : ∀ fl σ', Ψ' fl σ' → Ψ fl σ') : ES C s₀ σ st Ψ := fun F A s ok S Q hQ => h F A s ok S Q fun fl σ' f s' S' l R p => hQ fl σ' f s' S' l R (h1 _ _ p)

theorem Fw.own_ne {a : Addr} (S : Fw C s₀ σ F s) (ha : a ∈ own σ F) : a ≠ C.env.locals := fun e => by
  have := (List.nodup_cons.mp S.nd).1
  exact this (e ▸ ha)
theorem Fw.hid {a : Addr} (S : Fw C s₀ σ F s) (ha : a ∈ C.env.locals :: own σ F) : Hd C σ F a := by
  rcases List.mem_cons.mp ha with rfl | h
  · exact .inr (.inl rfl)
  · exact .inr (.inr h)
theorem Fw.ne_old {a b : Addr} {o : Obj} (S : Fw C s₀ σ F s) (ha : a ∈ C.env.locals :: own σ F) (hb : s₀.heap.get? b = some o) : b ≠ a := by
  rintro rfl
  have := S.new b ha
  rw [hb] at this
  cases this

theorem mem_O {p : Addr × List V} (h : p ∈ σ.O) : p.1 ∈ own σ F := List.mem_append.mpr (.inl (List.mem_append.mpr (.inl (List.mem_append.mpr (.inr (List.mem_map_of_mem h))))))
theorem mem_D1 {p : Addr × Addr × List (Str × V)} (h : p ∈ σ.D) : p.1 ∈ own σ F := List.mem_append.mpr (.inl (List.mem_append.mpr (.inr (List.mem_flatMap.mpr ⟨p, h, .head _⟩))))
theorem mem_D2 {p : Addr × Addr × List (Str × V)} (h : p ∈ σ.D) : p.2.1 ∈ own σ F := List.mem_append.mpr (.inl (List.mem_append.mpr (.inr (List.mem_flatMap.mpr ⟨p, h, .tail _ (.head _)⟩))))
theorem mem_F {p : Addr × Obj} (h : p ∈ F) : p.1 ∈ own σ F := List.mem_append.mpr (.inr (List.mem_map_of_mem h))
theorem mem_cl {x : Str} {c : Addr} {v : Option V} (h : (x, c, v) ∈ σ.cl) : c ∈ own σ F := List.mem_append.mpr (.inl (List.mem_append.mpr (.inl (List.mem_append.mpr (.inl (List.mem_map.mpr ⟨_, h, rfl⟩))))))

theorem lookup_mem {α : Type} : ∀ {l : List (Str × α)} {n : Str} {c : α}, l.lookup n = some c → (n, c) ∈ l
  | (k, v) :: r, n, c, h => by
    rw [List.lookup_cons] at h
    cases hb : n == k with
    | true => rw [hb] at h; cases h; rw [beq_iff_eq.mp hb]; exact List.mem_cons_self
    | false => rw [hb] at h; exact List.mem_cons_of_mem _ (lookup_mem h)

theorem Fw.store {A : Around} {E : Value → Shared → Prop} {x : Str} {v : V} {v' : Value} {Q : Unit → Shared → Prop} (S : Fw C s₀ σ F s) (hx : C.env.kindOf x = some .local) (r : VR (Has (Hd C σ F) s.heap) v v')
    (hQ : ∀ s', Fw C s₀ { σ with ρ := put x v σ.ρ } F s' → Le (Hd C σ F) (Hd C σ F) s s' → Q () s') : wpAny (model PR C.w) A (storeName C.env x v') Q E s := by
  obtain ⟨m, hn, hm⟩ := S.vw.ns
  refine wpAny_storeName_local hx hn (fun h' hn' hs => hQ _ ?_ (hidMono (.inr (.inl rfl)) hs)) (by rw [S.vw.fn]; rfl)
  have hL : Hd C σ F C.env.locals := .inr (.inl rfl)
  have mono := hidMono hL hs
  have ext : ∀ b o, s₀.heap.get? b = some o → h'.get? b = some o := fun b o e => (hs.2 b (S.ne_old (.head _) e)).trans (S.ext _ _ e)
  have hne : ∀ a, a ∈ own σ F → a ≠ C.env.locals := fun a ha => S.own_ne ha
  refine ⟨⟨S.top0.keeps ext, ⟨S.vw.tk.1, Nat.le_succ_of_le S.vw.tk.2⟩, S.vw.fn, S.vw.glob, S.vw.blt, ⟨_, hn', fun y u hy => ?_⟩, fun y c u hy => ?_, fun p hp => ?_, fun p hp => ?_, fun p hp => (hs.2 _ (hne _ (mem_F hp))).trans (S.vw.raws p hp), fun a ha => ?_, S.vw.nd, S.vw.apart, freeOf S.frs ext S.new⟩, ?_, ext, S.top0, S.new, S.nd, S.out, fun y c u hm' => ?_, Nat.le_succ_of_le S.tk0, S.frs⟩
  · rw [put_lookup] at hy
    by_cases e : (y == x) = true
    · rw [if_pos e] at hy
      cases hy
      refine ⟨v', ?_, r.mono mono⟩
      rw [eq_of_beq e, if_pos rfl]
    · rw [if_neg e] at hy
      obtain ⟨u', a, b⟩ := hm y u hy
      refine ⟨u', ?_, b.mono mono⟩
      rw [if_neg (fun q => e (by rw [q]; exact beq_self_eq_true x))]
      exact a
  · obtain ⟨a, u', hc, b⟩ := S.vw.cells y c u hy
    exact ⟨a, u', hc.sameBut hs (hne _ (mem_cl (lookup_mem hy))), b.mono mono⟩
  · obtain ⟨vs, a, b⟩ := S.vw.lists p hp
    exact ⟨vs, a.at fun o q => (hs.2 _ (hne _ (mem_O hp))).trans q, b.mono mono⟩
  · obtain ⟨a, es, n, b, c⟩ := S.vw.objs p hp
    exact ⟨(hs.2 _ (hne _ (mem_D1 hp))).trans a, es, n, (hs.2 _ (hne _ (mem_D2 hp))).trans b, c.mono mono⟩
  · by_cases e : a = C.env.locals
    · subst e
      obtain ⟨o, _, _, ho, _⟩ := hn'
      exact ⟨o, ho⟩
    · obtain ⟨o, ho⟩ := S.vw.low a ha
      exact ⟨o, (hs.2 a e).trans ho⟩
  · obtain ⟨h, t, rfl⟩ := S.same
    exact ⟨h', _, rfl⟩
  · obtain ⟨a, u', hu⟩ := S.cls y c u hm'
    exact ⟨a, u', hu.sameBut hs (hne _ (mem_cl hm'))⟩

noncomputable def putc (x : Str) (v : V) : List (Str × Addr × Option V) → List (Str × Addr × Option V)
  | [] => []
  | (y, c, u) :: r => if x == y then (y, c, some v) :: r else (y, c, u) :: putc x v r
theorem putc_own (x : Str) (v : V) : ∀ l : List (Str × Addr × Option V), (putc x v l).map (·.2.1) = l.map (·.2.1)
  | [] => rfl
  | (y, c, u) :: r => by
    unfold putc
    split
    · rfl
    · simp [putc_own x v r]
theorem putc_lookup (x : Str) (v : V) (y : Str) : ∀ l : List (Str × Addr × Option V), (putc x v l).lookup y = if y == x then (l.lookup x).map (fun p => (p.1, some v)) else l.lookup y
  | [] => by simp [putc]
  | (z, c, u) :: r => by
    have ih := putc_lookup x v y r
    unfold putc
    by_cases h : (x == z) = true
    · rw [if_pos h]
      have e := eq_of_beq h
      subst e
      simp only [List.lookup_cons, beq_self_eq_true]
      cases y == x <;> rfl
    · rw [if_neg h]
      have h' : (x == z) = false := by cases q : x == z <;> simp_all
      simp only [List.lookup_cons, ih, h']
      cases hy : y == z with
      | true =>
        have e := eq_of_beq hy
        subst e
        have : (y == x) = false := by
          cases q : y == x with
          | true => exact absurd (by rw [eq_of_beq q]; simp) h
          | false => rfl
        rw [this]; rfl
      | false => rfl
theorem putc_mem {x : Str} {v : V} {y : Str} {c : Addr} {u : Option V} : ∀ {l : List (Str × Addr × Option V)}, (y, c, u) ∈ putc x v l → ∃ u', (y, c, u') ∈ l
  | [], h => nomatch h
  | (z, d, w) :: r, h => by
    unfold putc at h
    split at h
    · rcases List.mem_cons.mp h with e | h
      · cases e; exact ⟨_, .head _⟩
      · exact ⟨_, .tail _ h⟩
    · rcases List.mem_cons.mp h with e | h
      · cases e; exact ⟨_, .head _⟩
      · obtain ⟨u', h'⟩ := putc_mem h
        exact ⟨u', .tail _ h'⟩

theorem Fw.storeC {A : Around} {E : Value → Shared → Prop} {x : Str} {c : Addr} {old : Option V} {v : V} {v' : Value} {Q : Unit → Shared → Prop} (S : Fw C s₀ σ F s) (hx : C.env.kindOf x = some .cell) (hl : σ.cl.lookup x = some (c, old)) (r : VR (Has (Hd C σ F) s.heap) v v')
    (hQ : ∀ s', Fw C s₀ { σ with cl := putc x v σ.cl } F s' → Le (Hd C σ F) (Hd C { σ with cl := putc x v σ.cl } F) s s' → Q () s') : wpAny (model PR C.w) A (storeName C.env x v') Q E s := by
  have hm := lookup_mem hl
  obtain ⟨hc, u, hu⟩ := S.cls x c old hm
  have hown : own { σ with cl := putc x v σ.cl } F = own σ F := by unfold own; rw [putc_own]
  have hHd : Hd C { σ with cl := putc x v σ.cl } F = Hd C σ F := by funext a; unfold Hd; rw [hown]
  refine wpAny_storeName_cell S.vw.fn hx hc hu fun h' hu' hs => hQ _ ?_ (by rw [hHd]; exact hidMono (.inr (.inr (mem_cl hm))) hs)
  have hco : c ∈ own σ F := mem_cl hm
  have hh : Hd C σ F c := .inr (.inr hco)
  have mono := hidMono hh hs
  have ext : ∀ b o, s₀.heap.get? b = some o → h'.get? b = some o := fun b o e => (hs.2 b (S.ne_old (.tail _ hco) e)).trans (S.ext _ _ e)
  have nd := (List.nodup_cons.mp S.nd).2
  unfold own at nd
  rw [List.append_assoc, List.append_assoc] at nd
  have nd1 := List.nodup_append.mp nd
  have hne : ∀ a, a ∈ σ.O.map (·.1) ++ (σ.D.flatMap (fun p => [p.1, p.2.1]) ++ F.map (·.1)) → a ≠ c := fun a ha e => nd1.2.2 c (List.mem_map.mpr ⟨_, hm, rfl⟩) a ha e.symm
  have uniq : ∀ y d w, (y, d, w) ∈ σ.cl → d = c → (y, d, w) = (x, c, old) := fun y d w hy e => by
    have inj : ∀ {l : List (Str × Addr × Option V)}, (l.map (·.2.1)).Nodup → ∀ {p q : Str × Addr × Option V}, p ∈ l → q ∈ l → p.2.1 = q.2.1 → p = q := by
      intro l
      induction l with
      | nil => intro _ p q hp; cases hp
      | cons z r ih =>
        intro hn p q hp hq e
        rw [List.map_cons, List.nodup_cons] at hn
        rcases List.mem_cons.mp hp with rfl | hp' <;> rcases List.mem_cons.mp hq with rfl | hq'
        · rfl
        · exact absurd (by rw [e]; exact List.mem_map.mpr ⟨_, hq', rfl⟩) hn.1
        · exact absurd (by rw [← e]; exact List.mem_map.mpr ⟨_, hp', rfl⟩) hn.1
        · exact ih hn.2 hp' hq' e
    exact inj nd1.1 hy hm e
  refine ⟨⟨S.top0.keeps ext, S.vw.tk, S.vw.fn, S.vw.glob, S.vw.blt, ?_, fun y d w hy => ?_, fun p hp => ?_, fun p hp => ?_, fun p hp => (hs.2 _ (hne _ (List.mem_append_right _ (List.mem_append_right _ (List.mem_map_of_mem hp))))).trans (S.vw.raws p hp), fun a ha => ?_, (by rw [hown]; exact S.nd), (by rw [hown]; exact S.vw.apart), freeOf S.frs ext (by rw [hown]; exact S.new)⟩, ?_, ext, S.top0, (by rw [hown]; exact S.new), (by rw [hown]; exact S.nd), S.out, fun y d w hy => ?_, S.tk0, S.frs⟩
  · rw [hHd]
    obtain ⟨m, hn, hv⟩ := S.vw.ns
    refine ⟨m, hn.sameBut hs (fun e => S.own_ne hco e.symm), fun y w hy => ?_⟩
    obtain ⟨w', a, b⟩ := hv y w hy
    exact ⟨w', a, b.mono mono⟩
  · rw [hHd]
    have hy' : (putc x v σ.cl).lookup y = some (d, some w) := hy
    rw [putc_lookup] at hy'
    by_cases e : (y == x) = true
    · rw [if_pos e, hl] at hy'
      cases hy'
      rw [eq_of_beq e]
      exact ⟨hc, v', hu', r.mono mono⟩
    · rw [if_neg e] at hy'
      obtain ⟨a, w', hw, b⟩ := S.vw.cells y d w hy'
      refine ⟨a, w', hw.sameBut hs (fun q => ?_), b.mono mono⟩
      have := uniq y d _ (lookup_mem hy') q
      exact e (by rw [(Prod.mk.inj this).1]; exact beq_self_eq_true x)
  · rw [hHd]
    obtain ⟨vs, a, b⟩ := S.vw.lists p hp
    exact ⟨vs, a.at fun o q => (hs.2 _ (hne _ (List.mem_append_left _ (List.mem_map_of_mem hp)))).trans q, b.mono mono⟩
  · rw [hHd]
    obtain ⟨a, es, n, b, c'⟩ := S.vw.objs p hp
    exact ⟨(hs.2 _ (hne _ (List.mem_append_right _ (List.mem_append_left _ (List.mem_flatMap.mpr ⟨p, hp, .head _⟩))))).trans a, es, n, (hs.2 _ (hne _ (List.mem_append_right _ (List.mem_append_left _ (List.mem_flatMap.mpr ⟨p, hp, .tail _ (.head _)⟩))))).trans b, c'.mono mono⟩
  · rw [hHd] at ha
    by_cases e : a = c
    · subst e
      obtain ⟨o, ho, _⟩ := hu'
      exact ⟨o, ho⟩
    · obtain ⟨o, ho⟩ := S.vw.low a ha
      exact ⟨o, (hs.2 a e).trans ho⟩
  · obtain ⟨h, t, rfl⟩ := S.same
    exact ⟨h', _, rfl⟩
  · obtain ⟨w₀, hy₀⟩ := putc_mem hy
    obtain ⟨a, u', hu''⟩ := S.cls y d w₀ hy₀
    by_cases e : d = c
    · subst e
      exact ⟨a, _, hu'⟩
    · exact ⟨a, u', hu''.sameBut hs e⟩

theorem ES.ret {e pos v Ψ} (h : EV C σ e v) (hΨ : Ψ (.ret v) σ) : ES C s₀ σ (.Return (some e) pos) Ψ := fun F A s ok S Q hQ =>
  wpAny_Return_some (h F A _ s ok S.vw _ fun v' s' k r => hQ (.ret v) _ _ _ (S.keeps k) (k.le _) r hΨ)
theorem ES.ife {t b o pos c Ψ} (ht : EB C σ t c) (h1 : c = true → EX C s₀ σ b Ψ) (h2 : c = false → EX C s₀ σ o Ψ) : ES C s₀ σ (.If t b o pos) Ψ := fun F A s ok S Q hQ =>
  wpAny_If (ht F A _ s ok S.vw _ fun s' k => by
    cases c with
    | true => exact h1 rfl F A s' ok (S.keeps k) Q fun fl₂ σ₂ f₂ s₂ S₂ l₂ R₂ p₂ => hQ fl₂ σ₂ f₂ s₂ S₂ ((k.le _).trans l₂) R₂ p₂
    | false => exact h2 rfl F A s' ok (S.keeps k) Q fun fl₂ σ₂ f₂ s₂ S₂ l₂ R₂ p₂ => hQ fl₂ σ₂ f₂ s₂ S₂ ((k.le _).trans l₂) R₂ p₂)
theorem ES.brk {pos Ψ} (hΨ : Ψ .brk σ) : ES C s₀ σ (.Break pos) Ψ := fun F A s ok S Q hQ => wpAny_Break (hQ .brk _ _ _ S (Le.refl _ _) trivial hΨ)
theorem ES.assign {x p e pos v Ψ} (h : EV C σ e v) (hx : C.env.kindOf x = some .local) (hΨ : Ψ .next { σ with ρ := put x v σ.ρ }) (hs : swapsWith e (some (.Name x p)) pos.line C.env = pure false) : ES C s₀ σ (.Assign [.Name x p] e pos) Ψ := fun F A s ok S Q hQ =>
  wpAny_Assign_Name (h F A _ s ok S.vw _ fun v' s' k r => (S.keeps k).store hx r fun s'' S'' l => hQ .next _ _ _ S'' ((k.le _).trans l) trivial hΨ) hs
theorem ES.assignC {x p e pos c old v Ψ} (h : EV C σ e v) (hx : C.env.kindOf x = some .cell) (hl : σ.cl.lookup x = some (c, old)) (hΨ : Ψ .next { σ with cl := putc x v σ.cl }) (hs : swapsWith e (some (.Name x p)) pos.line C.env = pure false) : ES C s₀ σ (.Assign [.Name x p] e pos) Ψ := fun F A s ok S Q hQ =>
  wpAny_Assign_Name (h F A _ s ok S.vw _ fun v' s' k r => (S.keeps k).storeC hx hl r fun s'' S'' l => hQ .next _ _ _ S'' ((k.le _).trans l) trivial hΨ) hs
noncomputable def Then (C : Cx) (s₀ : Shared) (rest : List Stmt) (Ψ : Fl → Sg → Prop) : Fl → Sg → Prop
  | .next, σ => EX C s₀ σ rest Ψ
  | fl, σ => Ψ fl σ
theorem EX.of {st rest Ψ} (h : ES C s₀ σ st (Then C s₀ rest Ψ)) : EX C s₀ σ (st :: rest) Ψ := EX.cons h fun fl σ' p => by cases fl <;> exact p
theorem EX.ret {e pos v rest Ψ} (h : EV C σ e v) (hΨ : Ψ (.ret v) σ) : EX C s₀ σ (.Return (some e) pos :: rest) Ψ := EX.of (ES.ret h hΨ)
theorem EX.assign {x p e pos v rest Ψ} (h : EV C σ e v) (hx : C.env.kindOf x = some .local) (hs : swapsWith e (some (.Name x p)) pos.line C.env = pure false) (h1 : EX C s₀ { σ with ρ := put x v σ.ρ } rest Ψ) : EX C s₀ σ (.Assign [.Name x p] e pos :: rest) Ψ := EX.of (ES.assign h hx h1 hs)
theorem EX.assignC {x p e pos c old v rest Ψ} (h : EV C σ e v) (hx : C.env.kindOf x = some .cell) (hl : σ.cl.lookup x = some (c, old)) (hs : swapsWith e (some (.Name x p)) pos.line C.env = pure false) (h1 : EX C s₀ { σ with cl := putc x v σ.cl } rest Ψ) : EX C s₀ σ (.Assign [.Name x p] e pos :: rest) Ψ := EX.of (ES.assignC h hx hl h1 hs)
theorem EX.ife {t b o pos c rest Ψ} (ht : EB C σ t c) (h1 : c = true → EX C s₀ σ b (Then C s₀ rest Ψ)) (h2 : c = false → EX C s₀ σ o (Then C s₀ rest Ψ)) : EX C s₀ σ (.If t b o pos :: rest) Ψ := EX.of (ES.ife ht h1 h2)
theorem EX.brk {pos rest Ψ} (h : Ψ .brk σ) : EX C s₀ σ (.Break pos :: rest) Ψ := EX.of (ES.brk h)
theorem EX.done {rest Ψ} (h : EX C s₀ σ rest Ψ) : EX C s₀ σ [] (Then C s₀ rest Ψ) := EX.nil h
end
end Mine

namespace Mine
open PySem PySem.W in
theorem fill0 : (hd.heap_39 = hd.heap_39) ∧ (PySem.Challenge.rw_wj0033_01 = PySem.Challenge.rw_wj0033_01) := by k_fill; exact ⟨rfl, rfl⟩
open PySem PySem.Spec PySem.Calls PyProof.Rows PySem.W

noncomputable def Back (r : V) (fl : Fl) : Prop := fl = .ret r ∨ (fl = .next ∧ r = .none)

theorem pushHas {H : Addr → Prop} {s : Shared} {h' : Heap} (e : ∀ b o, s.heap.get? b = some o → h'.get? b = some o) {C : Cx} {σ : Sg} (hH : C.H = H) (hL : C.env.locals = s.heap.objs.size) (hc : σ.cl = []) (hO : σ.O = []) (hD : σ.D = []) :
    ∀ a o, Has H s.heap a o → Has (Hd C σ []) h' a o := fun a o x => ⟨e _ _ x.1, fun q => by
  rcases q with q | q | q
  · exact x.2 (hH ▸ q)
  · rw [hL] at q
    have := x.1
    rw [q] at this
    exact absurd (Heap.lt_size this) (Nat.lt_irrefl _)
  · unfold own at q; rw [hc, hO, hD] at q; cases q⟩

section
variable {w : World} {f : Addr} {oc pm cdv ct doc : Value} {od an : Option Addr} {osl : Array (Option Value)} {name qual : Str} {params : Arguments} {body : List Stmt} {scope : Scope} {d lo : Nat} {r : V}

noncomputable abbrev fdOf (name qual : Str) (params : Arguments) (body : List Stmt) (scope : Scope) (doc pm : Value) (an : Option Addr) (cdv ct : Value) : FuncData := fnOf name qual params body scope .none .none doc pm an cdv ct

/-- a def of the top's, called with values that stand -/
theorem OPQ.fn {args : List V} {names : List Str} (ho : (hd.heap_39 w.params).lookup f = some ⟨oc, od, .func (fdOf name qual params body scope doc pm an cdv ct), osl⟩) (hcd : codeIn (hd.heap_39 w.params) cdv qual = true)
    (hb : ∀ vs : List Value, vs.length = args.length → bindArgs (fdOf name qual params body scope doc pm an cdv ct) ⟨vs, []⟩ = pure (names.zip vs))
    (hl : names.length = args.length) (hnd : names.Nodup) (hloc : (names.all fun n => scope.names.lookup n == some .local) = true) (hcell : (scope.names.all fun x => x.2 != .cell) = true)
    (hco : scope.isCoroutine = false) (hgen : scope.isGenerator = false) (hk : scope.kind = .function)
    (h : ∀ (H : Addr → Prop) (s₀ : Shared) (L : Addr), EX ⟨w, envX qual scope L f cdv [], H, d, lo, []⟩ s₀ ⟨names.zip args, [], [], []⟩ body (fun fl _ => Back r fl)) :
    OPQ w lo (fun vs => call (.ref f) vs) args r (d + 1) := by
  intro A E s H vs ok T tk low hvs Q hQ
  have hlen : vs.length = args.length := hvs.length
  refine wpAny_call ?_
  refine codeAny_call_def (fd := fdOf name qual params body scope doc pm an cdv ct) (body := body) (binds := names.zip vs) ok.room (T.X _ _ ho) rfl T.nolimit (codeRec_of T.X hcd) rfl (BindsTo.of_eq (hb vs hlen))
    (fun x hx => by have := List.all_eq_true.mp hcell x hx; simpa using this) (fun x hx => by have := List.all_eq_true.mp hloc x.1 (List.of_mem_zip hx).1; simpa using this) (fun h₀ hns hk₀ => ?_) hco hgen hk
  have none_size : s.heap.get? s.heap.objs.size = none := by
    cases q : s.heap.get? s.heap.objs.size with
    | none => rfl
    | some o => exact absurd (Heap.lt_size q) (Nat.lt_irrefl _)
  have hnew : ∀ a, a ∈ s.heap.objs.size :: own ⟨names.zip args, [], [], []⟩ [] → s.heap.get? a = none := fun a ha => by
    rcases List.mem_cons.mp ha with rfl | ha
    · exact none_size
    · cases ha
  have S : Fw ⟨w, envX qual scope s.heap.objs.size f cdv [], H, d, lo, []⟩ s ⟨names.zip args, [], [], []⟩ [] { s with heap := h₀, toks := s.toks + (names.zip vs).length } := by
    have up := pushHas (H := H) (s := s) hk₀ (C := ⟨w, envX qual scope s.heap.objs.size f cdv [], H, d, lo, []⟩) (σ := ⟨names.zip args, [], [], []⟩) rfl rfl rfl rfl rfl
    refine ⟨⟨T.keeps hk₀, ⟨tk.1, Nat.le_trans tk.2 (Nat.le_add_right _ _)⟩, hk, rfl, rfl, ⟨_, hns, ?_⟩, (fun _ _ _ e => by cases e), (fun _ hp => by cases hp), (fun _ hp => by cases hp), (fun _ hp => by cases hp), fun a ha => ?_, List.nodup_cons.mpr ⟨(fun h => by cases h), List.nodup_nil⟩, apartOf low hnew, (fun _ _ e => by cases e)⟩, ⟨_, _, rfl⟩, hk₀, T, hnew, List.nodup_cons.mpr ⟨(fun h => by cases h), List.nodup_nil⟩, low, (fun _ _ _ e => by cases e), Nat.le_add_right _ _, (fun _ _ e => by cases e)⟩
    · -- the locals
      have key : ∀ (ns : List Str) (xs : List V) (us : List Value), ns.Nodup → VRs (Has H s.heap) xs us → ∀ y u, (ns.zip xs).lookup y = some u → ∃ u', (y, u') ∈ ns.zip us ∧ VR (Has H s.heap) u u' := by
        intro ns
        induction ns with
        | nil => intro xs us _ _ y u e; cases e
        | cons n ns ih =>
          intro xs us hn hr y u e
          cases hr with
          | nil => cases e
          | cons a b =>
            rw [List.zip_cons_cons, List.lookup_cons] at e
            cases hy : y == n with
            | true =>
              rw [hy] at e; cases e
              exact ⟨_, by rw [eq_of_beq hy]; exact List.mem_cons_self, a⟩
            | false =>
              rw [hy] at e
              obtain ⟨u', m, q⟩ := ih _ _ (List.nodup_cons.mp hn).2 b y u e
              exact ⟨u', List.mem_cons_of_mem _ m, q⟩
      have look : ∀ (l : List (Str × Value)), (l.map (·.1)).Nodup → ∀ y u, (y, u) ∈ l → l.lookup y = some u := by
        intro l
        induction l with
        | nil => intro _ y u h; cases h
        | cons p l ih =>
          intro hn y u h
          obtain ⟨k, v⟩ := p
          rw [List.map_cons, List.nodup_cons] at hn
          rw [List.lookup_cons]
          rcases List.mem_cons.mp h with e | h
          · cases e; simp
          · have : (y == k) = false := by
              cases q : y == k with
              | false => rfl
              | true => exact absurd (by rw [← eq_of_beq q]; exact List.mem_map.mpr ⟨_, h, rfl⟩) hn.1
            rw [this]; exact ih hn.2 y u h
      intro y u e
      obtain ⟨u', m, q⟩ := key names args vs hnd hvs y u e
      refine ⟨u', ?_, q.mono up⟩
      refine look _ ?_ y u' (List.mem_reverse.mpr m)
      rw [List.map_reverse]
      have : (names.zip vs).map (·.1) = names := List.map_fst_zip (by omega)
      rw [this]; exact List.pairwise_reverse.mpr (hnd.imp Ne.symm)
    · rcases ha with ha | ha | ha
      · obtain ⟨o, e⟩ := low a ha; exact ⟨o, hk₀ _ _ e⟩
      · obtain ⟨o, _, _, e, _⟩ := hns
        exact ⟨o, by rw [ha]; exact e⟩
      · cases ha
  refine wpAny_mono (h H s s.heap.objs.size [] (A.deeper (callEnv (fdOf name qual params body scope doc pm an cdv ct) s.heap.objs.size f)) _ (ok.deeper _) S
    (fun fl s' => match (Except.ok (Flow.ret (match fl with | .ret v => v | _ => .none)) : Result) with | .ok (.ret v) => Q v s' | .ok _ => False | .error e => E e s') fun fl σ' f' s' S' l R b => ?_) (fun _ _ x => x) (fun _ _ x => x.elim)
  have hkp : Kp s s' := ⟨S'.same, S'.ext, S'.tk0⟩
  have down : ∀ a o, Has (Hd ⟨w, envX qual scope s.heap.objs.size f cdv [], H, d, lo, []⟩ σ' []) s'.heap a o → Has H s'.heap a o := fun a o x => ⟨x.1, fun q => x.2 (.inl q)⟩
  rcases b with rfl | ⟨rfl, rfl⟩
  · cases f' <;> first | exact R.elim | exact hQ _ _ hkp (VR.mono down R)
  · cases f' <;> first | exact R.elim | exact hQ _ _ hkp .none
end

section
variable {C : Cx} {σ : Sg}
theorem EV.callK {x p e es a vs fv v pos} (hf : EV C σ (.Name x p) (.val fv)) (hk : keepIn (hd.heap_39 C.w.params) fv = true) (ha : EVs C σ (e :: es) (a :: vs)) (o : OPQ C.w C.lo (fun as => call fv as) (a :: vs) v C.d)
    (he : starEach (e :: es) C.env = (false, eval e C.env) :: starEach es C.env) (hplain : (backTo pos (starEach es C.env)).any (·.1) = false) : EV C σ (.Call (.Name x p) (e :: es) [] pos) v := fun F A E s ok S Q hQ =>
  Call_ (hf F A E s ok S _ fun f' s₁ k₁ r₁ => by
    cases r₁
    exact callWith_K (h₀ := s₁.heap) ((S.keeps k₁).top.X) hk (ha F A E s₁ pos ok (S.keeps k₁) _ fun as s₂ k₂ r₂ => ⟨((S.keeps k₁).keeps k₂).top.X, o A E s₂ (Hd C σ F) as ok ((S.keeps k₁).keeps k₂).top ((S.keeps k₁).keeps k₂).tk ((S.keeps k₁).keeps k₂).low r₂ _ fun v' s₃ k₃ r₃ => hQ _ _ ((k₁.trans k₂).trans k₃) r₃⟩) he hplain) rfl
theorem EV.callB {x p e es a vs id v pos} (hf : EV C σ (.Name x p) (.val (.builtin id))) (ha : EVs C σ (e :: es) (a :: vs)) (o : OPQ C.w C.lo (fun as => call (.builtin id) as) (a :: vs) v C.d)
    (he : starEach (e :: es) C.env = (false, eval e C.env) :: starEach es C.env) (hplain : (backTo pos (starEach es C.env)).any (·.1) = false) : EV C σ (.Call (.Name x p) (e :: es) [] pos) v := fun F A E s ok S Q hQ =>
  Call_ (hf F A E s ok S _ fun f' s₁ k₁ r₁ => by
    cases r₁
    exact PyProof.Rows.callWith_builtin1 (ha F A E s₁ pos ok (S.keeps k₁) _ fun as s₂ k₂ r₂ => o A E s₂ (Hd C σ F) as ok ((S.keeps k₁).keeps k₂).top ((S.keeps k₁).keeps k₂).tk ((S.keeps k₁).keeps k₂).low r₂ _ fun v' s₃ k₃ r₃ => hQ _ _ ((k₁.trans k₂).trans k₃) r₃) he hplain) rfl
theorem EV.callT {x p e es a vs T v pos} (hf : EV C σ (.Name x p) (.val (.type T))) (ha : EVs C σ (e :: es) (a :: vs)) (o : OPQ C.w C.lo (fun as => call (.type T) as) (a :: vs) v C.d)
    (he : starEach (e :: es) C.env = (false, eval e C.env) :: starEach es C.env) (hplain : (backTo pos (starEach es C.env)).any (·.1) = false) : EV C σ (.Call (.Name x p) (e :: es) [] pos) v := fun F A E s ok S Q hQ =>
  Call_ (hf F A E s ok S _ fun f' s₁ k₁ r₁ => by
    cases r₁
    exact PyProof.Rows.callWith_type1 (ha F A E s₁ pos ok (S.keeps k₁) _ fun as s₂ k₂ r₂ => o A E s₂ (Hd C σ F) as ok ((S.keeps k₁).keeps k₂).top ((S.keeps k₁).keeps k₂).tk ((S.keeps k₁).keeps k₂).low r₂ _ fun v' s₃ k₃ r₃ => hQ _ _ ((k₁.trans k₂).trans k₃) r₃) he hplain) rfl
end

theorem OPQ.less {w lo t xs r d d'} (h : OPQ w lo t xs r d) (e : d ≤ d') : OPQ w lo t xs r d' := fun A E s H vs ok => h A E s H vs (ok.less e)

end Mine

namespace Mine
open PySem PySem.Spec PySem.Calls PyProof.Rows PySem.W

section
variable {w : World} {d : Nat} {a b : Int} {x y : Str}
theorem o_add : OP2 w d (binaryOp .Add) (.int a) (.int b) (.int (a + b)) := fun A E s H u v ok T tk low hx hy Q hQ => by
  cases hx; cases hy; exact wpAny_add_int (hQ _ _ Kp.tok (.int _ _))
theorem o_sub : OP2 w d (binaryOp .Sub) (.int a) (.int b) (.int (a - b)) := fun A E s H u v ok T tk low hx hy Q hQ => by
  cases hx; cases hy; exact PyProof.Rows.sub_int (hQ _ _ Kp.tok (.int _ _))
theorem o_mul (hm : IntMulOk a b) : OP2 w d (binaryOp .Mult) (.int a) (.int b) (.int (a * b)) := fun A E s H u v ok T tk low hx hy Q hQ => by
  cases hx; cases hy; exact AutoIntOps.mul_0 (hQ _ _ Kp.tok (.int _ _)) hm
theorem o_fdiv (hb : b ≠ 0) (hp : Builtin.divisionGoesByPylong a b = false) : OP2 w d (binaryOp .FloorDiv) (.int a) (.int b) (.int (a.fdiv b)) := fun A E s H u v ok T tk low hx hy Q hQ => by
  cases hx; cases hy; exact PyProof.Rows.floordiv_int hb (hQ _ _ Kp.tok (.int _ _)) (.inl hp)
theorem o_mod (hb : b ≠ 0) : OP2 w d (binaryOp .Mod) (.int a) (.int b) (.int (a.fmod b)) := fun A E s H u v ok T tk low hx hy Q hQ => by
  cases hx; cases hy; exact PyProof.Rows.mod_int hb (hQ _ _ Kp.tok (.int _ _))
theorem o_pow (hn : 0 ≤ b) (hn2 : b ≤ 1000000) (ha : a.natAbs < 2 ^ 64) : OP2 w d (binaryOp .Pow) (.int a) (.int b) (.int (a ^ b.toNat)) := fun A E s H u v ok T tk low hx hy Q hQ => by
  cases hx; cases hy; exact PyProof.Rows.pow_int_small hn hn2 ha (hQ _ _ Kp.tok (.int _ _))
theorem o_shl (hn : 0 ≤ b) (hn2 : b ≤ 1000000) (ha : a.natAbs < 2 ^ 64) : OP2 w d (binaryOp .LShift) (.int a) (.int b) (.int (a * 2 ^ b.toNat)) := fun A E s H u v ok T tk low hx hy Q hQ => by
  cases hx; cases hy; exact PyProof.Rows.lshift_int_small hn hn2 ha (hQ _ _ Kp.tok (.int _ _))
theorem o_and : OP2 w d (binaryOp .BitAnd) (.int a) (.int b) (.int (Builtin.bitAnd a b)) := fun A E s H u v ok T tk low hx hy Q hQ => by
  cases hx; cases hy; exact PyProof.Rows.and_int (hQ _ _ Kp.tok (.int _ _))
theorem o_or : OP2 w d (binaryOp .BitOr) (.int a) (.int b) (.int (Builtin.bitOr a b)) := fun A E s H u v ok T tk low hx hy Q hQ => by
  cases hx; cases hy; exact PyProof.Rows.or_int (hQ _ _ Kp.tok (.int _ _))
theorem o_xor : OP2 w d (binaryOp .BitXor) (.int a) (.int b) (.int (Builtin.bitXor a b)) := fun A E s H u v ok T tk low hx hy Q hQ => by
  cases hx; cases hy; exact PyProof.Rows.xor_int (hQ _ _ Kp.tok (.int _ _))
theorem o_ixor : OP2 w d (inplaceOp .BitXor) (.int a) (.int b) (.int (Builtin.bitXor a b)) := fun A E s H u v ok T tk low hx hy Q hQ => by
  cases hx; cases hy; exact PyProof.Rows.ixor_int (hQ _ _ Kp.tok (.int _ _))
theorem o_lt : OP2 w d (compareOp .Lt) (.int a) (.int b) (.bool (decide (a < b))) := fun A E s H u v ok T tk low hx hy Q hQ => by
  cases hx; cases hy; exact wpAny_lt_int (hQ _ _ (Kp.refl _) (.bool _))
theorem o_le : OP2 w d (compareOp .LtE) (.int a) (.int b) (.bool (decide (a ≤ b))) := fun A E s H u v ok T tk low hx hy Q hQ => by
  cases hx; cases hy; exact PyProof.Rows.le_int (hQ _ _ (Kp.refl _) (.bool _))
theorem o_ge : OP2 w d (compareOp .GtE) (.int a) (.int b) (.bool (decide (b ≤ a))) := fun A E s H u v ok T tk low hx hy Q hQ => by
  cases hx; cases hy; exact PyProof.Rows.ge_int (hQ _ _ (Kp.refl _) (.bool _))
theorem o_eq : OP2 w d (compareOp .Eq) (.int a) (.int b) (.bool (a == b)) := fun A E s H u v ok T tk low hx hy Q hQ => by
  cases hx; cases hy; exact PyProof.Rows.eq_int (hQ _ _ (Kp.refl _) (.bool _))
theorem o_ne : OP2 w d (compareOp .NotEq) (.int a) (.int b) (.bool (a != b)) := fun A E s H u v ok T tk low hx hy Q hQ => by
  cases hx; cases hy; exact PyProof.Rows.ne_int (hQ _ _ (Kp.refl _) (.bool _))
theorem list_beq_str (x y : Str) : (x.cps.toList == y.cps.toList) = (x == y) := by
  by_cases h : x = y
  · subst h; simp
  · have h1 : (x == y) = false := by simpa using h
    rw [h1]
    cases q : x.cps.toList == y.cps.toList with
    | false => rfl
    | true =>
      exfalso
      apply h
      have := eq_of_beq q
      cases x; cases y
      congr 1
      exact Array.ext' this
theorem o_eqS : OP2 w d (compareOp .Eq) (.str x) (.str y) (.bool (x == y)) := fun A E s H u v ok T tk low hx hy Q hQ => by
  cases hx; cases hy; exact P.eq_str (by rw [list_beq_str]; exact hQ _ _ (Kp.refl _) (.bool _))
theorem o_eqST {l₁ l₂ h₁ h₂} : OP2 w d (compareOp .Eq) (.strT x l₁ h₁) (.strT y l₂ h₂) (.bool (x == y)) := fun A E s H u v ok T tk low hx hy Q hQ => by
  cases hx; cases hy; exact P.eq_str (by rw [list_beq_str]; exact hQ _ _ (Kp.refl _) (.bool _))
theorem o_isB {p q : Bool} : OP2 w d (compareOp .Is) (.bool p) (.bool q) (.bool (p == q)) := fun A E s H u v ok T tk low hx hy Q hQ => by
  cases hx; cases hy
  refine wpAny_is_plain rfl ?_
  have : (Value.bool p == Value.bool q) = (p == q) := by cases p <;> cases q <;> rfl
  rw [this]; exact hQ _ _ (Kp.refl _) (.bool _)
theorem o_isNotB {p q : Bool} : OP2 w d (compareOp .IsNot) (.bool p) (.bool q) (.bool (p != q)) := fun A E s H u v ok T tk low hx hy Q hQ => by
  cases hx; cases hy
  refine wpAny_isNot_plain rfl ?_
  have : (!(Value.bool p == Value.bool q)) = (p != q) := by cases p <;> cases q <;> rfl
  rw [this]; exact hQ _ _ (Kp.refl _) (.bool _)
theorem o_addS (hsz : x.length + y.length ≤ sizeLine) : OP2 w d (binaryOp .Add) (.str x) (.str y) (.str (x ++ y)) := fun A E s H u v ok T tk low hx hy Q hQ => by
  cases hx; cases hy
  exact withToks (PyProof.Rows.add_str (fun t' k => fun h => hQ _ _ (Kp.tokk h) (.str _ _)) hsz)
end

-- the small defs of operator
end Mine

namespace Mine
open PySem PySem.W in
theorem fill5 : (hd.heap_39 = hd.heap_39) ∧ (PySem.Challenge.rw_wj0033_01 = PySem.Challenge.rw_wj0033_01) := by k_fill; exact ⟨rfl, rfl⟩
open PySem PySem.Spec PySem.Calls PyProof.Rows PySem.W

section
variable {w : World}
theorem g_Whitespace : GLB w "Whitespace" (.ref 83) := .inl (by k_is)
theorem g_FLAGS : GLB w "COMPILER_FLAG_NAMES" (.ref 88) := .inl (by k_is)
theorem g_pretty : GLB w "pretty_flags" (.ref 95) := .inl (by k_is)
theorem g_add : GLB w "add" (.ref 102) := .inl (by k_is)
theorem g_and : GLB w "and_" (.ref 109) := .inl (by k_is)
theorem g_lshift : GLB w "lshift" (.ref 116) := .inl (by k_is)
theorem g_mul : GLB w "mul" (.ref 123) := .inl (by k_is)
theorem g_or : GLB w "or_" (.ref 130) := .inl (by k_is)
theorem g_xor : GLB w "xor" (.ref 137) := .inl (by k_is)
theorem g_indexOf : GLB w "indexOf" (.ref 144) := .inl (by k_is)
theorem g_columns : GLB w "_law_columns" (.ref 151) := .inl (by k_is)
theorem g_ties : GLB w "_law_ties" (.ref 156) := .inl (by k_is)
theorem g_rows : GLB w "_law_rows" (.ref 161) := .inl (by k_is)
theorem g_len : GLB w "len" (.builtin "len") := .inr ⟨by k_is, by boot_by_name, by decide⟩
theorem g_max : GLB w "max" (.builtin "max") := .inr ⟨by k_is, by boot_by_name, by decide⟩
theorem g_sum : GLB w "sum" (.builtin "sum") := .inr ⟨by k_is, by boot_by_name, by decide⟩
theorem g_all : GLB w "all" (.builtin "all") := .inr ⟨by k_is, by boot_by_name, by decide⟩
theorem g_hex : GLB w "hex" (.builtin "hex") := .inr ⟨by k_is, by boot_by_name, by decide⟩
theorem g_sorted : GLB w "sorted" (.builtin "sorted") := .inr ⟨by k_is, by boot_by_name, by decide⟩
theorem g_range : GLB w "range" (.type "range") := .inr ⟨by k_is, by boot_by_name, by decide⟩
theorem g_tuple : GLB w "tuple" (.type "tuple") := .inr ⟨by k_is, by boot_by_name, by decide⟩
theorem g_enumerate : GLB w "enumerate" (.type "enumerate") := .inr ⟨by k_is, by boot_by_name, by decide⟩
end

theorem binds2 {P : List Value → Prop} (h : ∀ x y, P [x, y]) : ∀ vs, vs.length = 2 → P vs := fun vs e => by
  match vs, e with | [x, y], _ => exact h x y
theorem binds1 {P : List Value → Prop} (h : ∀ x, P [x]) : ∀ vs, vs.length = 1 → P vs := fun vs e => by
  match vs, e with | [x], _ => exact h x

section
variable {w : World} {a b : Int} {d lo : Nat}
theorem f_bin {f : Addr} {r : V} {op} (h : OP2 w d (binaryOp op) (.int a) (.int b) r) {oc pm cdv ct doc : Value} {od an : Option Addr} {osl : Array (Option Value)} {name qual : Str} {params : Arguments} {scope : Scope} {p1 p2 p3 p4}
    (ho : (hd.heap_39 w.params).lookup f = some ⟨oc, od, .func (fdOf name qual params [.Return (some (.BinOp (.Name "a" p1) op (.Name "b" p2) p3)) p4] scope doc pm an cdv ct), osl⟩) (hcd : codeIn (hd.heap_39 w.params) cdv qual = true)
    (hb : ∀ vs : List Value, vs.length = 2 → bindArgs (fdOf name qual params [.Return (some (.BinOp (.Name "a" p1) op (.Name "b" p2) p3)) p4] scope doc pm an cdv ct) ⟨vs, []⟩ = pure ((["a", "b"] : List Str).zip vs))
    (hs : scope.names = [(Str.ofString "a", NameKind.local), (Str.ofString "b", NameKind.local)]) (hco : scope.isCoroutine = false) (hgen : scope.isGenerator = false) (hk : scope.kind = .function) :
    OPQ w lo (fun vs => call (.ref f) vs) [.int a, .int b] r (d + 1) := by
  refine OPQ.fn (names := ["a", "b"]) ho hcd hb rfl (by decide) (by rw [hs]; rfl) (by rw [hs]; rfl) hco hgen hk fun H s₀ L => ?_
  refine EX.ret (EV.bin (EV.name rfl ?_) (EV.name rfl ?_) h) (.inl rfl)
  · show Env.kindOf _ _ = _; unfold Env.kindOf; rw [hs]; rfl
  · show Env.kindOf _ _ = _; unfold Env.kindOf; rw [hs]; rfl
end
section
variable {w : World} {a b : Int} {d lo : Nat}
theorem fn_add : OPQ w lo (fun vs => call (.ref 102) vs) [.int a, .int b] (.int (a + b)) (d + 1) := by (refine' f_bin (d := _) ?o ?k1 ?k2 ?kb ?k3 ?k5 ?k6 ?k7; (case k1 => k_is); (case k2 => k_is); (case k3 => rfl); (case k5 => rfl); (case k6 => rfl); (case k7 => rfl); (case kb => (refine binds2 ?_; intros; rfl))); exact o_add
theorem fn_and : OPQ w lo (fun vs => call (.ref 109) vs) [.int a, .int b] (.int (Builtin.bitAnd a b)) (d + 1) := by (refine' f_bin (d := _) ?o ?k1 ?k2 ?kb ?k3 ?k5 ?k6 ?k7; (case k1 => k_is); (case k2 => k_is); (case k3 => rfl); (case k5 => rfl); (case k6 => rfl); (case k7 => rfl); (case kb => (refine binds2 ?_; intros; rfl))); exact o_and
theorem fn_lshift (hn : 0 ≤ b) (hn2 : b ≤ 1000000) (ha : a.natAbs < 2 ^ 64) : OPQ w lo (fun vs => call (.ref 116) vs) [.int a, .int b] (.int (a * 2 ^ b.toNat)) (d + 1) := by (refine' f_bin (d := _) ?o ?k1 ?k2 ?kb ?k3 ?k5 ?k6 ?k7; (case k1 => k_is); (case k2 => k_is); (case k3 => rfl); (case k5 => rfl); (case k6 => rfl); (case k7 => rfl); (case kb => (refine binds2 ?_; intros; rfl))); exact o_shl hn hn2 ha
theorem fn_mul (hm : IntMulOk a b) : OPQ w lo (fun vs => call (.ref 123) vs) [.int a, .int b] (.int (a * b)) (d + 1) := by (refine' f_bin (d := _) ?o ?k1 ?k2 ?kb ?k3 ?k5 ?k6 ?k7; (case k1 => k_is); (case k2 => k_is); (case k3 => rfl); (case k5 => rfl); (case k6 => rfl); (case k7 => rfl); (case kb => (refine binds2 ?_; intros; rfl))); exact o_mul hm
theorem fn_or : OPQ w lo (fun vs => call (.ref 130) vs) [.int a, .int b] (.int (Builtin.bitOr a b)) (d + 1) := by (refine' f_bin (d := _) ?o ?k1 ?k2 ?kb ?k3 ?k5 ?k6 ?k7; (case k1 => k_is); (case k2 => k_is); (case k3 => rfl); (case k5 => rfl); (case k6 => rfl); (case k7 => rfl); (case kb => (refine binds2 ?_; intros; rfl))); exact o_or
theorem fn_xor : OPQ w lo (fun vs => call (.ref 137) vs) [.int a, .int b] (.int (Builtin.bitXor a b)) (d + 1) := by (refine' f_bin (d := _) ?o ?k1 ?k2 ?kb ?k3 ?k5 ?k6 ?k7; (case k1 => k_is); (case k2 => k_is); (case k3 => rfl); (case k5 => rfl); (case k6 => rfl); (case k7 => rfl); (case kb => (refine binds2 ?_; intros; rfl))); exact o_xor
end
end Mine

namespace Mine
open PySem PySem.Spec PySem.Calls PyProof.Rows PySem.W

section
variable {C : Cx} {s₀ : Shared} {σ : Sg} {F : List (Addr × Obj)} {s : Shared}

/-- one own object, not a name, not a cell, is changed -/
theorem Fw.upd (S : Fw C s₀ σ F s) {a : Addr} (ha : a ∈ own σ F) {h' : Heap} {tk : Nat} (hs : Heap.SameBut a s.heap h') (alive : ∃ o, h'.get? a = some o) (htk : s.toks ≤ tk) {σ' : Sg}
    (hown : own σ' F = own σ F) (hρ : σ'.ρ = σ.ρ) (hcl : σ'.cl = σ.cl)
    (hO : ∀ p ∈ σ'.O, (p ∈ σ.O ∧ p.1 ≠ a) ∨ ∃ vs : List Value, h'.PlainList p.1 vs.toArray ∧ VRs (Has (Hd C σ F) h') p.2 vs)
    (hD : ∀ p ∈ σ'.D, (p ∈ σ.D ∧ p.1 ≠ a ∧ p.2.1 ≠ a) ∨ (h'.get? p.1 = some (instObj 83 p.2.1) ∧ ∃ es n, h'.get? p.2.1 = some (dictOf es n) ∧ FieldsR (Has (Hd C σ F) h') p.2.2 es))
    (hcell : ∀ x c v, (x, c, v) ∈ σ.cl → c ≠ a) (hF : ∀ p ∈ F, p.1 ≠ a) : Fw C s₀ σ' F { s with heap := h', toks := tk } := by
  have hHd : Hd C σ' F = Hd C σ F := by funext b; unfold Hd; rw [hown]
  have hh : Hd C σ F a := .inr (.inr ha)
  have mono := hidMono hh hs
  have ext : ∀ b o, s₀.heap.get? b = some o → h'.get? b = some o := fun b o e => (hs.2 b (S.ne_old (.tail _ ha) e)).trans (S.ext _ _ e)
  refine ⟨⟨S.top0.keeps ext, ⟨S.vw.tk.1, Nat.le_trans S.vw.tk.2 htk⟩, S.vw.fn, S.vw.glob, S.vw.blt, ?_, fun y d w hy => ?_, fun p hp => ?_, fun p hp => ?_, fun p hp => (hs.2 _ (hF p hp)).trans (S.vw.raws p hp), fun b hb => ?_, (by rw [hown]; exact S.nd), (by rw [hown]; exact S.vw.apart), freeOf S.frs ext (by rw [hown]; exact S.new)⟩, ?_, ext, S.top0, (by rw [hown]; exact S.new), (by rw [hown]; exact S.nd), S.out, fun y d w hy => ?_, Nat.le_trans S.tk0 htk, S.frs⟩
  · rw [hHd, hρ]
    obtain ⟨m, hn, hv⟩ := S.vw.ns
    exact ⟨m, hn.sameBut hs (fun e => S.own_ne ha e.symm), fun y w hy => let ⟨w', a, b⟩ := hv y w hy; ⟨w', a, b.mono mono⟩⟩
  · rw [hHd]
    rw [hcl] at hy
    obtain ⟨p, w', hw, q⟩ := S.vw.cells y d w hy
    exact ⟨p, w', hw.sameBut hs (hcell _ _ _ (lookup_mem hy)), q.mono mono⟩
  · rw [hHd]
    rcases hO p hp with ⟨h1, h2⟩ | h1
    · obtain ⟨vs, q, r⟩ := S.vw.lists p h1
      exact ⟨vs, q.at fun o z => (hs.2 _ h2).trans z, r.mono mono⟩
    · exact h1
  · rw [hHd]
    rcases hD p hp with ⟨h1, h2, h3⟩ | h1
    · obtain ⟨q, es, n, r, t⟩ := S.vw.objs p h1
      exact ⟨(hs.2 _ h2).trans q, es, n, (hs.2 _ h3).trans r, t.mono mono⟩
    · exact h1
  · rw [hHd] at hb
    by_cases e : b = a
    · subst e; exact alive
    · obtain ⟨o, ho⟩ := S.vw.low b hb
      exact ⟨o, (hs.2 b e).trans ho⟩
  · obtain ⟨h, t, rfl⟩ := S.same
    exact ⟨h', _, rfl⟩
  · rw [hcl] at hy
    obtain ⟨p, u, hu⟩ := S.cls y d w hy
    exact ⟨p, u, hu.sameBut hs (hcell _ _ _ hy)⟩

theorem nd_ne {α : Type} {a : α} {l₁ l₂ : List α} (h : (l₁ ++ l₂).Nodup) (h1 : a ∈ l₁) {b : α} (h2 : b ∈ l₂) : b ≠ a := fun e => (List.nodup_append.mp h).2.2 a h1 b h2 e.symm
structure Apart (σ : Sg) (F : List (Addr × Obj)) : Prop where
  nd : (own σ F).Nodup
theorem Fw.ndO (S : Fw C s₀ σ F s) : (σ.O.map (·.1)).Nodup := by
  have := (List.nodup_cons.mp S.nd).2
  unfold own at this
  rw [List.append_assoc, List.append_assoc] at this
  exact (List.nodup_append.mp (List.nodup_append.mp this).2.1).1
theorem Fw.O_cl (S : Fw C s₀ σ F s) {p : Addr × List V} (hp : p ∈ σ.O) : ∀ x c v, (x, c, v) ∈ σ.cl → c ≠ p.1 := fun x c v hm e => by
  have := (List.nodup_cons.mp S.nd).2
  unfold own at this
  rw [List.append_assoc, List.append_assoc] at this
  exact (List.nodup_append.mp this).2.2 c (List.mem_map.mpr ⟨_, hm, rfl⟩) p.1 (List.mem_append_left _ (List.mem_map_of_mem hp)) e
theorem Fw.O_F (S : Fw C s₀ σ F s) {p : Addr × List V} (hp : p ∈ σ.O) : ∀ q ∈ F, q.1 ≠ p.1 := fun q hq e => by
  have := (List.nodup_cons.mp S.nd).2
  unfold own at this
  rw [List.append_assoc, List.append_assoc] at this
  exact (List.nodup_append.mp (List.nodup_append.mp this).2.1).2.2 p.1 (List.mem_map_of_mem hp) q.1 (List.mem_append_right _ (List.mem_map_of_mem hq)) e.symm
theorem Fw.O_D (S : Fw C s₀ σ F s) {p : Addr × List V} (hp : p ∈ σ.O) : ∀ q ∈ σ.D, q.1 ≠ p.1 ∧ q.2.1 ≠ p.1 := fun q hq => by
  have := (List.nodup_cons.mp S.nd).2
  unfold own at this
  rw [List.append_assoc, List.append_assoc] at this
  have z := (List.nodup_append.mp (List.nodup_append.mp this).2.1).2.2 p.1 (List.mem_map_of_mem hp)
  exact ⟨fun e => z q.1 (List.mem_append_left _ (List.mem_flatMap.mpr ⟨q, hq, .head _⟩)) e.symm, fun e => z q.2.1 (List.mem_append_left _ (List.mem_flatMap.mpr ⟨q, hq, .tail _ (.head _)⟩)) e.symm⟩

theorem set_O_own {i : Nat} {a : Addr} {xs xs' : List V} (hi : σ.O[i]? = some (a, xs)) : own { σ with O := σ.O.set i (a, xs') } F = own σ F := by
  unfold own
  have : (σ.O.set i (a, xs')).map (·.1) = σ.O.map (·.1) := by
    rw [List.map_set]
    exact X.set_same (by rw [List.getElem?_map, hi]; rfl)
  show _ ++ (σ.O.set i (a, xs')).map (·.1) ++ _ ++ _ = _
  rw [this]

/-- a list of one's own gets new items -/
theorem Fw.setO (S : Fw C s₀ σ F s) {i : Nat} {a : Addr} {xs xs' : List V} (hi : σ.O[i]? = some (a, xs)) {h' : Heap} {tk : Nat} (hs : Heap.SameBut a s.heap h') (htk : s.toks ≤ tk) {vs : List Value} (hl : h'.PlainList a vs.toArray)
    (hv : VRs (Has (Hd C σ F) h') xs' vs) : Fw C s₀ { σ with O := σ.O.set i (a, xs') } F { s with heap := h', toks := tk } := by
  have hm := List.mem_of_getElem? hi
  refine S.upd (mem_O hm) hs ?_ htk (set_O_own hi) rfl rfl (fun p hp => ?_) (fun p hp => .inl ⟨hp, S.O_D hm p hp⟩) (S.O_cl hm) (S.O_F hm)
  · obtain ⟨n, ho⟩ := hl; exact ⟨_, ho⟩
  · obtain ⟨j, hj, e⟩ := List.mem_iff_getElem.mp hp
    rw [List.getElem_set] at e
    by_cases q : i = j
    · rw [if_pos q] at e
      subst e
      exact .inr ⟨vs, hl, hv⟩
    · rw [if_neg q] at e
      have hj' : j < σ.O.length := by simpa using hj
      refine .inl ⟨e ▸ List.getElem_mem hj', fun z => q ?_⟩
      obtain ⟨hi', e'⟩ := List.getElem?_eq_some_iff.mp hi
      have P := List.pairwise_iff_getElem.mp S.ndO
      rcases Nat.lt_trichotomy i j with h1 | h1 | h1
      · have := P i j (by simpa using hi') (by simpa using hj') h1
        simp only [List.getElem_map, e'] at this
        exact absurd (by rw [e]; exact z.symm) this
      · exact h1
      · have := P j i (by simpa using hj') (by simpa using hi') h1
        simp only [List.getElem_map, e'] at this
        exact absurd (by rw [e]; exact z) this

theorem setItem_plain {A : Around} {E : Value → Shared → Prop} {w : World} {l : Addr} {items : Array Value} {k : Int} {t : Tok} {v : Value} {Q : Unit → Shared → Prop} (hl : s.heap.PlainList l items)
    (h0 : 0 ≤ k) (hfit : k < 2 ^ 63) (hn : k < items.size)
    (hQ : ∀ h', h'.PlainList l (items.setIfInBounds k.toNat v) → Heap.SameBut l s.heap h' → Q () { s with heap := h' }) :
    wpAny (model PR w) A (setItem (.ref l) (.int k t) v) Q E s := by
  obtain ⟨ne, ho⟩ := hl
  have hl : s.heap.IsList l items := ⟨_, ho, rfl, ne, rfl⟩
  unfold setItem
  try with_reducible refine wpAny_holding ?_
  first | refine wpAny_bind (wpAny_pure ?_) | skip
  refine wpAny_bind (wpAny_sequenceKey hl.typeIs (by decide) ?_)
  refine wpAny_bind (wpAny_callSpecial?_slot (name := Str.ofString "__setitem__") hl.typeIs slot_list_setitem
    (wpAny_call_entry slot_list_setitem hl.typeIs entry_list_setitem ?_ (args_list_setitem _ _ _)))
  show wpAny _ _ (Builtin.List.listSubscript? (.int k t) >>= _) _ _ s
  refine wpAny_bind (wpAny_listSubscript_int (fitsIndex_of h0 hfit) ?_)
  clear hfit
  obtain ⟨j, rfl⟩ := Int.eq_ofNat_of_zero_le h0
  have hj : j < items.size := by omega
  have hx' : items[j]? = some items[j] := Array.getElem?_eq_getElem hj
  show wpAny _ _ ((seqItemAt l j >>= fun r => pure (r.map (j, ·))) >>= _) _ _ s
  refine wpAny_bind (wpAny_bind (wpAny_seqItemAt ho rfl (wpAny_pure ?_)))
  rw [hx']
  show wpAny _ _ (setSeqItemAt l j v >>= _) _ _ s
  refine wpAny_bind (wpAny_setSeqItemAt ho rfl ?_)
  have e : Obj.mapSeq (fun x => x.setIfInBounds j v) ({ cls := .type "list", data := .seq items ne } : Obj) = { cls := .type "list", data := .seq (items.setIfInBounds j v) ne } := by
    unfold Obj.mapSeq
    simp
  have g : (s.heap.update l (Obj.mapSeq fun x => x.setIfInBounds j v)).get? l = some { cls := .type "list", data := .seq (items.setIfInBounds j v) ne } := by
    rw [Heap.get?_update_self _ ho (by rw [e]; rfl), e]
  have z := hQ _ ⟨ne, g⟩ (Heap.SameBut.update ..)
  first | exact wpAny_bind (wpAny_pure (wpAny_pure ⟨.none, rfl, wpAny_pure z⟩)) | exact wpAny_pure ⟨.none, rfl, wpAny_pure z⟩
end
end Mine

namespace Mine
open PySem PySem.Spec PySem.Calls PyProof.Rows PySem.W

section
variable {C : Cx} {s₀ : Shared} {σ : Sg} {F : List (Addr × Obj)} {s : Shared}

noncomputable def ClSub : List (Str × Addr × Option V) → List (Str × Addr × Option V) → Prop
  | [], [] => True
  | (x, c, v) :: r, (y, d, u) :: t => x = y ∧ c = d ∧ (v = none ∨ v = u) ∧ ClSub r t
  | _, _ => False
theorem ClSub.refl : ∀ l, ClSub l l
  | [] => trivial
  | (_, _, _) :: r => ⟨rfl, rfl, .inr rfl, ClSub.refl r⟩
theorem ClSub.own : ∀ {l l' : List (Str × Addr × Option V)}, ClSub l l' → l.map (·.2.1) = l'.map (·.2.1)
  | [], [], _ => rfl
  | (_, _, _) :: r, (_, _, _) :: t, ⟨_, b, _, d⟩ => by simp only [List.map_cons]; rw [b, ClSub.own d]
  | [], _ :: _, h => h.elim
  | _ :: _, [], h => h.elim
theorem ClSub.look : ∀ {l l' : List (Str × Addr × Option V)}, ClSub l l' → ∀ {x c v}, l.lookup x = some (c, some v) → l'.lookup x = some (c, some v)
  | (y, d, u) :: r, (z, e, w) :: t, ⟨a, b, c', d'⟩, x, c, v, h => by
    subst a b
    rw [List.lookup_cons] at h ⊢
    cases q : x == y with
    | true =>
      rw [q] at h
      simp only [Option.some.injEq, Prod.mk.injEq] at h
      rcases c' with c' | c'
      · rw [c'] at h; cases h.2
      · simp only [← c', h]
    | false => rw [q] at h; exact ClSub.look d' h
theorem ClSub.mem : ∀ {l l' : List (Str × Addr × Option V)}, ClSub l l' → ∀ {x c v}, (x, c, v) ∈ l → ∃ u, (x, c, u) ∈ l'
  | (y, d, u) :: r, (z, e, w) :: t, ⟨a, b, c', d'⟩, x, c, v, h => by
    subst a b
    rcases List.mem_cons.mp h with e | h
    · cases e; exact ⟨_, .head _⟩
    · obtain ⟨u, h'⟩ := ClSub.mem d' h
      exact ⟨u, .tail _ h'⟩
noncomputable def RhoSub : List (Str × V) → List (Str × V) → Prop
  | [], _ => True
  | (x, v) :: r, ρ => ρ.lookup x = some v ∧ RhoSub r ρ
theorem RhoSub.look : ∀ {r ρ : List (Str × V)}, RhoSub r ρ → ∀ {x v}, r.lookup x = some v → ρ.lookup x = some v
  | (y, u) :: r, ρ, ⟨a, b⟩, x, v, h => by
    rw [List.lookup_cons] at h
    cases q : x == y with
    | true => rw [q] at h; cases h; rw [eq_of_beq q]; exact a
    | false => rw [q] at h; exact RhoSub.look b h
theorem RhoSub.of : ∀ {r ρ : List (Str × V)}, (∀ p ∈ r, ρ.lookup p.1 = some p.2) → RhoSub r ρ
  | [], _, _ => trivial
  | (_, _) :: r, _, h => ⟨h _ (.head _), RhoSub.of fun p hp => h p (.tail _ hp)⟩

/-- σ₁ says less than σ -/
structure Sub (σ₁ σ : Sg) : Prop where
  ρ : ∀ {x v}, σ₁.ρ.lookup x = some v → σ.ρ.lookup x = some v
  cl : ClSub σ₁.cl σ.cl
  O : σ₁.O = σ.O
  D : σ₁.D = σ.D
theorem Sub.refl (σ : Sg) : Sub σ σ := ⟨fun h => h, ClSub.refl _, rfl, rfl⟩
theorem Sub.own {σ₁ : Sg} (h : Sub σ₁ σ) : own σ₁ F = own σ F := by unfold Mine.own; rw [h.cl.own, h.O, h.D]
theorem Vw.sub {σ₁ : Sg} (S : Vw C σ F s) (h : Sub σ₁ σ) : Vw C σ₁ F s := by
  have hH : Hd C σ₁ F = Hd C σ F := by funext a; unfold Hd; rw [h.own]
  refine ⟨S.top, S.tk, S.fn, S.glob, S.blt, ?_, fun x c v hx => ?_, fun p hp => ?_, fun p hp => ?_, S.raws, ?_, ?_, ?_, ?_⟩
  · rw [hH]; obtain ⟨m, hn, hv⟩ := S.ns; exact ⟨m, hn, fun x v hx => hv x v (h.ρ hx)⟩
  · rw [hH]; exact S.cells x c v (h.cl.look hx)
  · rw [hH]; exact S.lists p (h.O ▸ hp)
  · rw [hH]; exact S.objs p (h.D ▸ hp)
  · rw [hH]; exact S.low
  · rw [h.own]; exact S.nd
  · rw [h.own]; exact S.apart
  · rw [hH]; exact S.free
theorem Fw.sub {σ₁ : Sg} (S : Fw C s₀ σ F s) (h : Sub σ₁ σ) : Fw C s₀ σ₁ F s := by
  refine ⟨S.vw.sub h, S.same, S.ext, S.top0, by rw [h.own]; exact S.new, by rw [h.own]; exact S.nd, S.out, fun x c v hm => ?_, S.tk0, S.frs⟩
  obtain ⟨u, hu⟩ := h.cl.mem hm
  exact S.cls x c u hu
theorem Sub.hd {σ₁ : Sg} (h : Sub σ₁ σ) : Hd C σ₁ F = Hd C σ F := by funext a; unfold Hd; rw [h.own]
theorem EX.sub {σ₁ : Sg} {ss Ψ} (h : Sub σ₁ σ) (x : EX C s₀ σ₁ ss Ψ) : EX C s₀ σ ss Ψ := fun F A s ok S Q hQ => x F A s ok (S.sub h) Q fun fl σ' f s' S' l R p => hQ fl σ' f s' S' (by rw [← h.hd]; exact l) R p
theorem EV.sub {σ₁ : Sg} {e v} (h : Sub σ₁ σ) (x : EV C σ₁ e v) : EV C σ e v := fun F A E s ok S Q hQ => x F A E s ok (S.sub h) Q fun v' s' k r => hQ v' s' k (by rw [← h.hd]; exact r)

noncomputable def base (σ : Sg) : List Addr := σ.cl.map (·.2.1) ++ σ.O.map (·.1) ++ σ.D.flatMap (fun p => [p.1, p.2.1])
theorem own_base : own σ F = base σ ++ F.map (·.1) := rfl

/-- the raw objects change -/
theorem Fw.reF (S : Fw C s₀ σ F s) {F' : List (Addr × Obj)} {h' : Heap} {tk : Nat} (htk : s.toks ≤ tk) (X : List Addr) (hX : ∀ b ∈ X, b ∈ F.map (·.1))
    (keep : ∀ b o, b ∉ X → s.heap.get? b = some o → h'.get? b = some o) (hF : ∀ p ∈ F', h'.get? p.1 = some p.2)
    (hnew : ∀ p ∈ F', p.1 ∈ F.map (·.1) ∨ s.heap.get? p.1 = none) (hnd : (F'.map (·.1)).Nodup) :
    Fw C s₀ σ F' { s with heap := h', toks := tk } ∧ Le (Hd C σ F) (Hd C σ F') s { s with heap := h', toks := tk } := by
  have nd := S.nd
  rw [own_base] at nd
  have nd1 := List.nodup_append.mp (show ((C.env.locals :: base σ) ++ F.map (·.1)).Nodup from nd)
  have bX : ∀ b, b ∈ C.env.locals :: base σ → b ∉ X := fun b hb hx => nd1.2.2 b hb b (hX b hx) rfl
  have aliveB : ∀ b, b ∈ C.env.locals :: base σ → ∃ o, s.heap.get? b = some o := fun b hb => S.vw.low b (by
    rcases List.mem_cons.mp hb with rfl | h
    · exact .inr (.inl rfl)
    · exact .inr (.inr (by rw [own_base]; exact List.mem_append_left _ h)))
  have newF : ∀ b, b ∈ F'.map (·.1) → b ∈ F.map (·.1) ∨ s.heap.get? b = none := fun b hb => by
    obtain ⟨p, hp, rfl⟩ := List.mem_map.mp hb; exact hnew p hp
  have le : Le (Hd C σ F) (Hd C σ F') s { s with heap := h', toks := tk } := fun b o x => by
    have hbX : b ∉ X := fun h => x.2 (.inr (.inr (by rw [own_base]; exact List.mem_append_right _ (hX b h))))
    refine ⟨keep b o hbX x.1, fun q => ?_⟩
    rcases q with q | q | q
    · exact x.2 (.inl q)
    · exact x.2 (.inr (.inl q))
    · rw [own_base] at q
      rcases List.mem_append.mp q with q | q
      · exact x.2 (.inr (.inr (by rw [own_base]; exact List.mem_append_left _ q)))
      · rcases newF b q with q | q
        · exact x.2 (.inr (.inr (by rw [own_base]; exact List.mem_append_right _ q)))
        · rw [x.1] at q; cases q
  have ext : ∀ b o, s₀.heap.get? b = some o → h'.get? b = some o := fun b o e => keep b o (fun h => by
    have := S.new b (.tail _ (by rw [own_base]; exact List.mem_append_right _ (hX b h)))
    rw [e] at this; cases this) (S.ext _ _ e)
  have new' : ∀ a, a ∈ C.env.locals :: own σ F' → s₀.heap.get? a = none := fun a ha => by
    rw [own_base] at ha
    have ha' : a ∈ (C.env.locals :: base σ) ++ F'.map (·.1) := ha
    rcases List.mem_append.mp ha' with h | h
    · refine S.new a ?_
      rw [own_base]; exact List.mem_append_left (as := C.env.locals :: base σ) _ h
    · rcases newF a h with h | h
      · exact S.new a (.tail _ (by rw [own_base]; exact List.mem_append_right _ h))
      · cases q : s₀.heap.get? a with
        | none => rfl
        | some o => rw [S.ext _ _ q] at h; cases h
  have nd' : (C.env.locals :: own σ F').Nodup := by
    rw [own_base]
    refine (List.nodup_append (l₁ := C.env.locals :: base σ)).mpr ⟨(nd1.1 : (C.env.locals :: base σ).Nodup), hnd, fun a ha b hb e => ?_⟩
    subst e
    rcases newF a hb with h | h
    · exact nd1.2.2 a ha a h rfl
    · obtain ⟨o, ho⟩ := aliveB a ha
      rw [ho] at h; cases h
  have keepB : ∀ b, b ∈ C.env.locals :: base σ → ∀ o, s.heap.get? b = some o → h'.get? b = some o := fun b hb o e => keep b o (bX b hb) e
  have inB : ∀ a, a ∈ own σ [] → a ∈ C.env.locals :: base σ := fun a ha => List.mem_cons_of_mem _ (by rw [own_base] at ha; simpa using ha)
  refine ⟨⟨⟨S.top0.keeps ext, ⟨S.vw.tk.1, Nat.le_trans S.vw.tk.2 htk⟩, S.vw.fn, S.vw.glob, S.vw.blt, ?_, fun y d w hy => ?_, fun p hp => ?_, fun p hp => ?_, hF, fun a ha => ?_, nd', apartOf S.out new', freeOf S.frs ext new'⟩, ?_, ext, S.top0, new', nd', S.out, fun y d w hy => ?_, Nat.le_trans S.tk0 htk, S.frs⟩, le⟩
  · obtain ⟨m, hn, hv⟩ := S.vw.ns
    exact ⟨m, hn.at' (keepB _ (.head _)), fun y w hy => let ⟨w', a, b⟩ := hv y w hy; ⟨w', a, b.mono le⟩⟩
  · obtain ⟨a, w', ⟨o, ho, hd⟩, b⟩ := S.vw.cells y d w hy
    exact ⟨a, w', ⟨o, keepB _ (inB _ (mem_cl (lookup_mem hy))) _ ho, hd⟩, b.mono le⟩
  · obtain ⟨vs, a, b⟩ := S.vw.lists p hp
    exact ⟨vs, a.at (keepB _ (inB _ (mem_O hp))), b.mono le⟩
  · obtain ⟨a, es, n, b, c⟩ := S.vw.objs p hp
    exact ⟨keepB _ (inB _ (mem_D1 hp)) _ a, es, n, keepB _ (inB _ (mem_D2 hp)) _ b, c.mono le⟩
  · rcases ha with ha | ha | ha
    · obtain ⟨o, ho⟩ := S.out a ha; exact ⟨o, ext _ _ ho⟩
    · obtain ⟨o, ho⟩ := aliveB a (ha ▸ .head _); exact ⟨o, keepB a (ha ▸ .head _) o ho⟩
    · rw [own_base] at ha
      rcases List.mem_append.mp ha with h | h
      · obtain ⟨o, ho⟩ := aliveB a (.tail _ h); exact ⟨o, keepB a (.tail _ h) o ho⟩
      · obtain ⟨p, hp, rfl⟩ := List.mem_map.mp h; exact ⟨_, hF p hp⟩
  · obtain ⟨h, t, rfl⟩ := S.same; exact ⟨h', _, rfl⟩
  · obtain ⟨a, u, o, ho, hd⟩ := S.cls y d w hy
    exact ⟨a, u, o, keepB _ (inB _ (mem_cl hy)) _ ho, hd⟩

theorem Fw.drop {R : List (Addr × Obj)} (S : Fw C s₀ σ (R ++ F) s) : Fw C s₀ σ F s ∧ Le (Hd C σ (R ++ F)) (Hd C σ F) s s := by
  have nd := (List.nodup_cons.mp S.nd).2
  rw [own_base, List.map_append] at nd
  exact S.reF (F' := F) (Nat.le_refl _) [] (fun _ h => nomatch h) (fun _ _ _ e => e) (fun p hp => S.vw.raws p (List.mem_append_right _ hp)) (fun p hp => .inl (List.mem_map.mpr ⟨p, List.mem_append_right _ hp, rfl⟩))
    (List.nodup_append.mp (List.nodup_append.mp nd).2.1).2.1

theorem rawsOf {h : Heap} : ∀ {wr : List Addr}, (∀ b ∈ wr, ∃ o, h.get? b = some o) → ∃ R : List (Addr × Obj), R.map (·.1) = wr ∧ ∀ p ∈ R, h.get? p.1 = some p.2
  | [], _ => ⟨[], rfl, fun _ hp => nomatch hp⟩
  | a :: wr, al => by
    obtain ⟨o, ho⟩ := al a (.head _)
    obtain ⟨R, e, hR⟩ := rawsOf (wr := wr) fun b hb => al b (.tail _ hb)
    refine ⟨(a, o) :: R, by simp [e], fun p hp => ?_⟩
    rcases List.mem_cons.mp hp with rfl | hp
    · exact ho
    · exact hR p hp

theorem Fw.ndF (S : Fw C s₀ σ F s) : (F.map (·.1)).Nodup := by
  have nd := (List.nodup_cons.mp S.nd).2
  rw [own_base] at nd
  exact (List.nodup_append.mp nd).2.1

theorem Fw.iter (S : Fw C s₀ σ F s) {s' : Shared} (k : Kp s s') {wr : List Addr} (nd : wr.Nodup) (fresh : ∀ b ∈ wr, s.heap.get? b = none) (al : ∀ b ∈ wr, ∃ o, s'.heap.get? b = some o) :
    ∃ R : List (Addr × Obj), R.map (·.1) = wr ∧ Fw C s₀ σ (R ++ F) s' ∧ Le (Hd C σ F) (Hd C σ (R ++ F)) s s' := by
  obtain ⟨R, e, hR⟩ := rawsOf al
  have hm : ∀ p ∈ R, s.heap.get? p.1 = none := fun p hp => fresh _ (by rw [← e]; exact List.mem_map_of_mem hp)
  obtain ⟨⟨h', tk, rfl⟩, ext, htk⟩ := k
  obtain ⟨a, b⟩ := S.reF (F' := R ++ F) htk [] (fun _ h => nomatch h) (fun b o _ e => ext b o e) (fun p hp => by
      rcases List.mem_append.mp hp with h | h
      · exact hR p h
      · exact ext _ _ (S.vw.raws p h))
    (fun p hp => by
      rcases List.mem_append.mp hp with h | h
      · exact .inr (hm p h)
      · exact .inl (List.mem_map_of_mem h))
    (by
      rw [List.map_append]
      refine List.nodup_append.mpr ⟨by rw [e]; exact nd, S.ndF, fun a ha b hb q => ?_⟩
      subst q
      rw [e] at ha
      obtain ⟨p, hp, rfl⟩ := List.mem_map.mp hb
      have := fresh _ ha
      rw [S.vw.raws p hp] at this; cases this)
  exact ⟨R, e, a, b⟩
theorem Fw.move {R : List (Addr × Obj)} (S : Fw C s₀ σ (R ++ F) s) {h' : Heap} {tk : Nat} (htk : s.toks ≤ tk) (keep : ∀ b o, b ∉ R.map (·.1) → s.heap.get? b = some o → h'.get? b = some o) (al : ∀ b ∈ R.map (·.1), ∃ o, h'.get? b = some o) :
    ∃ R' : List (Addr × Obj), R'.map (·.1) = R.map (·.1) ∧ Fw C s₀ σ (R' ++ F) { s with heap := h', toks := tk } ∧ Le (Hd C σ (R ++ F)) (Hd C σ (R' ++ F)) s { s with heap := h', toks := tk } := by
  obtain ⟨R', e, hR⟩ := rawsOf al
  have nd := S.ndF
  obtain ⟨a, b⟩ := S.reF (F' := R' ++ F) htk (R.map (·.1)) (fun b hb => by rw [List.map_append]; exact List.mem_append_left _ hb) keep (fun p hp => by
      rcases List.mem_append.mp hp with h | h
      · exact hR p h
      · refine keep _ _ (fun q => ?_) (S.vw.raws p (List.mem_append_right _ h))
        rw [List.map_append] at nd
        exact (List.nodup_append.mp nd).2.2 _ q _ (List.mem_map_of_mem h) rfl)
    (fun p hp => .inl (by
      rw [List.map_append, ← e, ← List.map_append]; exact List.mem_map_of_mem hp))
    (by rw [List.map_append, e, ← List.map_append]; exact nd)
  exact ⟨R', e, a, b⟩
theorem Fw.leave {R : List (Addr × Obj)} (S : Fw C s₀ σ (R ++ F) s) {h' : Heap} {tk : Nat} (htk : s.toks ≤ tk) (keep : ∀ b o, b ∉ R.map (·.1) → s.heap.get? b = some o → h'.get? b = some o) :
    Fw C s₀ σ F { s with heap := h', toks := tk } ∧ Le (Hd C σ (R ++ F)) (Hd C σ F) s { s with heap := h', toks := tk } := by
  have nd := S.ndF
  rw [List.map_append] at nd
  exact S.reF (F' := F) htk (R.map (·.1)) (fun b hb => by rw [List.map_append]; exact List.mem_append_left _ hb) keep
    (fun p hp => keep _ _ (fun q => (List.nodup_append.mp nd).2.2 _ q _ (List.mem_map_of_mem hp) rfl) (S.vw.raws p (List.mem_append_right _ hp)))
    (fun p hp => .inl (List.mem_map.mpr ⟨p, List.mem_append_right _ hp, rfl⟩)) (List.nodup_append.mp nd).2.1
theorem hd_move {R R' : List (Addr × Obj)} (e : R'.map (·.1) = R.map (·.1)) : Hd C σ (R' ++ F) = Hd C σ (R ++ F) := by
  funext a; unfold Hd; rw [own_base, own_base, List.map_append, List.map_append, e]

structure Src (w : World) (tg : Expr) (I : Addr) (wr : List Addr) (W0 : Addr → Obj → Prop) (xs : List V) (St : Nat → Heap → Prop) (Mid : Nat → Value → Heap → Prop) : Prop where
  nd : wr.Nodup
  frame : ∀ i h h', St i h → (∀ b ∈ wr, ∀ o, h.get? b = some o → h'.get? b = some o) → St i h'
  alive : ∀ i h, St i h → ∀ b ∈ wr, ∃ o, h.get? b = some o
  aliveM : ∀ i v h, Mid i v h → ∀ b ∈ wr, ∃ o, h.get? b = some o
  item : ∀ (A : Around) (E : Value → Shared → Prop) (s : Shared) (H : Addr → Prop) (i : Nat) (x : V) (Q : Option Value → Shared → Prop), A.handled = none → (∀ b, H b → ∃ o, s.heap.get? b = some o) → (∀ b ∈ wr, H b) → (∀ b o, W0 b o → Has H s.heap b o) → xs[i]? = some x → St i s.heap →
    (∀ v h' tk, s.toks ≤ tk → VR (Has H h') x v → Mid i v h' → (∀ b o, b ∉ wr → s.heap.get? b = some o → h'.get? b = some o) → Q (some v) { s with heap := h', toks := tk }) → wpAny (model PR w) A (pyNext (.ref I)) Q E s
  go : ∀ (A : Around) (E : Value → Shared → Prop) (s : Shared) (i : Nat) (v : Value) (Q : Unit → Shared → Prop), Mid i v s.heap →
    (∀ h', St (i + 1) h' → (∀ b o, b ∉ wr → s.heap.get? b = some o → h'.get? b = some o) → Q () { s with heap := h' }) → wpAny (model PR w) A (letOwnedTupleGo tg (.ref I) v) Q E s
  done : ∀ (A : Around) (E : Value → Shared → Prop) (s : Shared) (Q : Option Value → Shared → Prop), A.handled = none → (∀ b o, W0 b o → s.heap.get? b = some o) → St xs.length s.heap →
    (∀ h' tk, s.toks ≤ tk → (∀ b o, b ∉ wr → s.heap.get? b = some o → h'.get? b = some o) → Q none { s with heap := h', toks := tk }) → wpAny (model PR w) A (pyNext (.ref I)) Q E s
  self : ∀ (A : Around) (E : Value → Shared → Prop) (s : Shared) (i : Nat) (Q : Value → Shared → Prop), St i s.heap → Q (.ref I) s → wpAny (model PR w) A (pyIter (.ref I)) Q E s

/-- what an iterable gives -/
noncomputable def EI (C : Cx) (σ : Sg) (tg : Expr) (e : Expr) (xs : List V) : Prop :=
  ∀ (F : List (Addr × Obj)) (A : Around) (E : Value → Shared → Prop) (s : Shared), AOk A C.d → Vw C σ F s → ∀ Q : Value → Shared → Prop,
    (∀ I wr St Mid s', Kp s s' → (∀ b ∈ wr, s.heap.get? b = none) → Src C.w tg I wr (Has (fun b => Hd C σ F b ∨ b ∈ wr) s'.heap) xs St Mid → St 0 s'.heap → Q (.ref I) s') →
    wpAny (model PR C.w) A (eval e C.env) (fun v s₁ => wpAny (model PR C.w) A (pyIter v) Q E s₁) E s

/-- a value goes into a target -/
noncomputable def TG (C : Cx) (s₀ : Shared) (σ : Sg) (t : Expr) (x : V) (σ₁ : Sg) : Prop :=
  ∀ (F : List (Addr × Obj)) (A : Around) (E : Value → Shared → Prop) (s : Shared) (v : Value), AOk A C.d → Fw C s₀ σ F s → VR (Has (Hd C σ F) s.heap) x v → ∀ Q : Unit → Shared → Prop, (∀ s', Fw C s₀ σ₁ F s' → Le (Hd C σ F) (Hd C σ₁ F) s s' → Q () s') → wpAny (model PR C.w) A (assign t C.env v) Q E s
theorem TG.name {x p v} (hx : C.env.kindOf x = some .local) : TG C s₀ σ (.Name x p) v { σ with ρ := put x v σ.ρ } := fun F A E s v' ok S r Q hQ => wpAny_assign_Name (S.store hx r hQ)
theorem TG.cell {x p v c old} (hx : C.env.kindOf x = some .cell) (hl : σ.cl.lookup x = some (c, old)) : TG C s₀ σ (.Name x p) v { σ with cl := putc x v σ.cl } := fun F A E s v' ok S r Q hQ => wpAny_assign_Name (S.storeC hx hl r hQ)

noncomputable def Turn (Inv : Nat → Sg → Prop) (i : Nat) (Ψ : Fl → Sg → Prop) : Fl → Sg → Prop
  | .next, σ => ∃ σ₁, Sub σ₁ σ ∧ Inv i σ₁
  | .cont, σ => ∃ σ₁, Sub σ₁ σ ∧ Inv i σ₁
  | .brk, σ => Ψ .next σ
  | .ret v, σ => Ψ (.ret v) σ

theorem ES.for {t e body orelse pos xs Ψ} (hi : EI C σ t e xs) (Inv : Nat → Sg → Prop) (h0 : Inv 0 σ)
    (turn : ∀ i x σ', xs[i]? = some x → Inv i σ' → ∃ σ₁, TG C s₀ σ' t x σ₁ ∧ EX C s₀ σ₁ body (Turn Inv (i + 1) Ψ))
    (fin : ∀ σ', Inv xs.length σ' → EX C s₀ σ' orelse Ψ) (hs : ∀ x, foldedSetIterable e C.env x = pure x) : ES C s₀ σ (.For t e body orelse pos) Ψ := fun F A s ok S Q hQ => by
  refine wpAny_For (hi F A _ s ok S.vw _ fun I wr St Mid s' k fresh src st0 => ?_) hs
  obtain ⟨R, eR, S1, l1⟩ := S.iter k src.nd fresh (src.alive 0 _ st0)
  have W1 : ∀ b o, Has (fun b => Hd C σ F b ∨ b ∈ wr) s'.heap b o → Has (Hd C σ (R ++ F)) s'.heap b o := fun b o x => ⟨x.1, fun q => x.2 (by
    rcases q with q | q | q
    · exact .inl (.inl q)
    · exact .inl (.inr (.inl q))
    · rw [own_base, List.map_append, eR] at q
      rcases List.mem_append.mp q with q | q
      · exact .inl (.inr (.inr (by rw [own_base]; exact List.mem_append_left _ q)))
      · rcases List.mem_append.mp q with q | q
        · exact .inr q
        · exact .inl (.inr (.inr (by rw [own_base]; exact List.mem_append_right _ q))))⟩
  have wrH : ∀ (σ' : Sg) (R' : List (Addr × Obj)), R'.map (·.1) = wr → ∀ b ∈ wr, Hd C σ' (R' ++ F) b := fun σ' R' e b hb => .inr (.inr (by rw [own_base, List.map_append, e]; exact List.mem_append_right _ (List.mem_append_left _ hb)))
  refine codeAny_forLoop_any (fun n s₂ => ∃ i σ' R', n = xs.length + 1 - i ∧ i ≤ xs.length ∧ Inv i σ' ∧ R'.map (·.1) = wr ∧ Fw C s₀ σ' (R' ++ F) s₂ ∧ St i s₂.heap ∧ Le (Hd C σ F) (Hd C σ' (R' ++ F)) s s₂ ∧
    (∀ b o, Has (fun b => Hd C σ F b ∨ b ∈ wr) s'.heap b o → Has (Hd C σ' (R' ++ F)) s₂.heap b o)) ?_ (xs.length + 1) ⟨0, σ, R, rfl, Nat.zero_le _, h0, eR, S1, st0, l1, W1⟩
  rintro n s₂ ⟨i, σ', R', rfl, hi', inv, eR', S2, st, l2, W2⟩
  by_cases hlt : i < xs.length
  · obtain ⟨σ₁, tg, bd⟩ := turn i xs[i] σ' (by simp [hlt]) inv
    refine src.item A _ s₂ (Hd C σ' (R' ++ F)) i xs[i] _ ok.hh S2.vw.low (wrH _ _ eR') W2 (by simp [hlt]) st fun v h₃ tk₃ htk r mid keep => ?_
    obtain ⟨R₃, eR₃, S3, l3⟩ := S2.move (h' := h₃) htk (by rw [eR']; exact keep) (by rw [eR']; exact src.aliveM _ _ _ mid)
    refine src.go A _ _ i v _ mid fun h₄ st4 keep4 => ?_
    have eR3' : R₃.map (·.1) = wr := eR₃.trans eR'
    obtain ⟨R₄, eR₄, S4, l4⟩ := S3.move (h' := h₄) (Nat.le_refl _) (by rw [eR3']; exact keep4) (by rw [eR3']; exact src.alive _ _ st4)
    have eR4' : R₄.map (·.1) = wr := eR₄.trans eR3'
    have r4 : VR (Has (Hd C σ' (R₄ ++ F)) h₄) xs[i] v := by
      rw [hd_move (eR₄.trans eR₃)]
      refine r.mono fun b o x => ⟨keep4 b o (fun q => x.2 (wrH _ _ eR' b q)) x.1, x.2⟩
    refine tg (R₄ ++ F) A _ _ v ok S4 r4 _ fun s₅ S5 l5 => ?_
    have st5 : St (i + 1) s₅.heap := by
      refine src.frame _ _ _ st4 fun b hb o e => ?_
      obtain ⟨p, hp, q⟩ := List.mem_map.mp (eR4' ▸ hb)
      have e1 := S4.vw.raws p (List.mem_append_left _ hp)
      have e2 := S5.vw.raws p (List.mem_append_left _ hp)
      rw [q] at e1 e2
      have : (some p.2 : Option Obj) = some o := e1.symm.trans e
      rw [← this]; exact e2
    refine wpAny_mono (bd (R₄ ++ F) A s₅ ok S5 (fun f s₆ => match f with
        | .next | .cont => ∃ m, m < xs.length + 1 - i ∧ (fun n s₂ => ∃ i σ' R', n = xs.length + 1 - i ∧ i ≤ xs.length ∧ Inv i σ' ∧ R'.map (·.1) = wr ∧ Fw C s₀ σ' (R' ++ F) s₂ ∧ St i s₂.heap ∧ Le (Hd C σ F) (Hd C σ' (R' ++ F)) s s₂ ∧
            (∀ b o, Has (fun b => Hd C σ F b ∨ b ∈ wr) s'.heap b o → Has (Hd C σ' (R' ++ F)) s₂.heap b o)) m s₆
        | .brk => Q .next s₆
        | .ret v => Q (.ret v) s₆) fun fl σ₆ f s₆ S6 l6 R6 p6 => ?_) (fun f s₆ x => by cases f <;> exact x) fun _ _ x => x.elim
    have lall := (((l2.trans l3).trans l4).trans l5).trans l6
    have Wall : ∀ b o, Has (fun b => Hd C σ F b ∨ b ∈ wr) s'.heap b o → Has (Hd C σ₆ (R₄ ++ F)) s₆.heap b o := fun b o x => l6 _ _ (l5 _ _ (l4 _ _ (l3 _ _ (W2 _ _ x))))
    have back : ∀ σ₇, Sub σ₇ σ₆ → Inv (i + 1) σ₇ → ∃ m, m < xs.length + 1 - i ∧ (fun n s₂ => ∃ i σ' R', n = xs.length + 1 - i ∧ i ≤ xs.length ∧ Inv i σ' ∧ R'.map (·.1) = wr ∧ Fw C s₀ σ' (R' ++ F) s₂ ∧ St i s₂.heap ∧ Le (Hd C σ F) (Hd C σ' (R' ++ F)) s s₂ ∧
            (∀ b o, Has (fun b => Hd C σ F b ∨ b ∈ wr) s'.heap b o → Has (Hd C σ' (R' ++ F)) s₂.heap b o)) m s₆ := fun σ₇ sb iv => by
      refine ⟨xs.length + 1 - (i + 1), by omega, i + 1, σ₇, R₄, rfl, hlt, iv, eR4', S6.sub sb, ?_, by rw [sb.hd]; exact lall, by rw [sb.hd]; exact Wall⟩
      refine src.frame _ _ _ st5 fun b hb o e => ?_
      obtain ⟨p, hp, q⟩ := List.mem_map.mp (eR4' ▸ hb)
      have e1 := S5.vw.raws p (List.mem_append_left _ hp)
      have e2 := S6.vw.raws p (List.mem_append_left _ hp)
      rw [q] at e1 e2
      have : (some p.2 : Option Obj) = some o := e1.symm.trans e
      rw [← this]; exact e2
    obtain ⟨S6', l6'⟩ := S6.drop
    cases fl with
    | next => cases f <;> first | exact R6.elim | (obtain ⟨σ₇, sb, iv⟩ := p6; exact back σ₇ sb iv)
    | cont => cases f <;> first | exact R6.elim | (obtain ⟨σ₇, sb, iv⟩ := p6; exact back σ₇ sb iv)
    | brk => cases f <;> first | exact R6.elim | exact hQ .next _ _ _ S6' (lall.trans l6') trivial p6
    | ret u => cases f <;> first | exact R6.elim | exact hQ (.ret u) _ _ _ S6' (lall.trans l6') (VR.mono l6' R6) p6
  · have hlen : i = xs.length := by omega
    subst hlen
    refine src.done A _ s₂ _ ok.hh (fun b o x => (W2 b o x).1) st fun h₃ tk₃ htk keep => ?_
    obtain ⟨S3, l3⟩ := S2.leave (h' := h₃) htk (by rw [eR']; exact keep)
    refine wpAny_mono (fin σ' inv F A _ ok S3 Q fun fl σ₆ f s₆ S6 l6 R6 p6 => hQ fl σ₆ f s₆ S6 ((l2.trans l3).trans l6) R6 p6) (fun _ _ x => x) fun _ _ x => x.elim
end
end Mine

namespace Mine
open PySem PySem.Spec PySem.Calls PyProof.Rows PySem.W

theorem none_size (h : Heap) : h.get? h.objs.size = none := by
  cases q : h.get? h.objs.size with
  | none => rfl
  | some o => exact absurd (Heap.lt_size q) (Nat.lt_irrefl _)
theorem Kp.fresh {s s₁ : Shared} (k : Kp s s₁) {a : Addr} (h : s₁.heap.get? a = none) : s.heap.get? a = none := by
  cases q : s.heap.get? a with
  | none => rfl
  | some o => rw [k.ext _ _ q] at h; cases h

noncomputable def Simple (tg : Expr) : Prop := (∃ x p, tg = .Name x p) ∨ ∃ es k p, tg = .Tuple es k p

section
variable {w : World} {A : Around} {E : Value → Shared → Prop} {s : Shared}
theorem go_list {tg : Expr} (ht : Simple tg) {I l : Addr} {i : Nat} {v : Value} {Q : Unit → Shared → Prop} (hit : s.heap.IsListIter I l i) (hQ : Q () s) : wpAny (model PR w) A (letOwnedTupleGo tg (.ref I) v) Q E s := by
  rcases ht with ⟨x, p, rfl⟩ | ⟨es, k, p, rfl⟩
  · exact wpAny_pure hQ
  · cases v <;> first | exact wpAny_letOwnedTupleGo_listiter hit hQ | exact wpAny_pure hQ
end

theorem Src.list {w : World} {tg : Expr} (ht : Simple tg) {I ax : Addr} {xs : List V} {vs : List Value} {n : Nat} {W0 : Addr → Obj → Prop} (hl : W0 ax { cls := .type "list", data := .seq vs.toArray n }) (hv : VRs W0 xs vs) :
    Src w tg I [I] W0 xs (fun i h => h.IsListIter I ax i) (fun i v h => h.IsListIter I ax (i + 1)) where
  nd := List.nodup_cons.mpr ⟨(fun h => by cases h), List.nodup_nil⟩
  frame := fun i h h' st k => st.at fun o e => k I (.head _) o e
  alive := fun i h ⟨o, ho, _⟩ b hb => by rw [List.mem_singleton] at hb; subst hb; exact ⟨o, ho⟩
  aliveM := fun i v h ⟨o, ho, _⟩ b hb => by rw [List.mem_singleton] at hb; subst hb; exact ⟨o, ho⟩
  item := fun A E s H i x Q hh low wrH W hx st hQ => by
    obtain ⟨v, hv1, hv2⟩ := hv.get hx
    have hL : s.heap.IsList ax vs.toArray := ⟨_, (W _ _ hl).1, rfl, n, rfl⟩
    refine wpAny_pyNext_list_item st hL (x := v) (by simpa using hv1) fun h' hit' hs => hQ v h' s.toks (Nat.le_refl _) ?_ hit' fun b o hb e => hs.extBut b o (fun q => hb (by simp [q])) e
    exact hv2.mono fun b o y => ⟨hs.extBut b o (fun q => (W _ _ y).2 (wrH b (by simp [q]))) (W _ _ y).1, (W _ _ y).2⟩
  go := fun A E s i v Q mid hQ => go_list ht mid (hQ s.heap mid fun _ _ _ e => e)
  done := fun A E s Q hh W st hQ => wpAny_pyNext_list_end hh st ⟨_, W _ _ hl, rfl, n, rfl⟩ (by rw [← hv.length]; simp) fun h' he => hQ h' s.toks (Nat.le_refl _) fun b o hb e => he b o (fun q => hb (by simp [q])) e
  self := fun A E s i Q st hQ => wpAny_pyIter_listiter st hQ

theorem Src.range {w : World} {x : Str} {p : Pos} {I : Addr} {a : Int} {n : Nat} {W0 : Addr → Obj → Prop} :
    Src w (.Name x p) I [I] W0 ((List.range n).map fun i : Nat => V.int (a + (i : Int))) (fun i h => IsRangeIter h I (a + (i : Nat) * 1) ((n : Int) - (i : Nat)) 1) (fun i v h => IsRangeIter h I (a + ((i + 1 : Nat) : Int) * 1) ((n : Int) - ((i + 1 : Nat) : Int)) 1) where
  nd := List.nodup_cons.mpr ⟨(fun h => by cases h), List.nodup_nil⟩
  frame := fun i h h' st k => k I (.head _) _ st
  alive := fun i h st b hb => by rw [List.mem_singleton] at hb; subst hb; exact ⟨_, st⟩
  aliveM := fun i v h st b hb => by rw [List.mem_singleton] at hb; subst hb; exact ⟨_, st⟩
  item := fun A E s H i x Q hh low wrH W hx st hQ => by
    have hi : i < n := by
      have := (List.getElem?_eq_some_iff.mp hx).1
      simpa using this
    refine wpAny_pyNext_range_item st (by omega) fun h' hit' hs => hQ _ h' _ (Nat.le_succ _) ?_ ?_ fun b o hb e => hs.extBut b o (fun q => hb (by simp [q])) e
    · simp [hi] at hx
      rw [← hx, Int.mul_one]
      exact .int _ _
    · have e1 : a + ((i + 1 : Nat) : Int) * 1 = a + (i : Int) * 1 + 1 := by push_cast; omega
      have e2 : (n : Int) - ((i + 1 : Nat) : Int) = (n : Int) - (i : Int) - 1 := by push_cast; omega
      rw [e1, e2]; exact hit'
  go := fun A E s i v Q mid hQ => wpAny_pure (hQ s.heap mid fun _ _ _ e => e)
  done := fun A E s Q hh W st hQ => wpAny_pyNext_range_end hh st (by simp) fun h' he => hQ h' s.toks (Nat.le_refl _) fun b o hb e => he b o (fun q => hb (by simp [q])) e
  self := fun A E s i Q st hQ => wpAny_pyIter_rangeiter st hQ

noncomputable def signs (x : Str) : List V := x.cps.toList.map fun c => V.str ⟨#[c]⟩
theorem Src.str {w : World} {y : Str} {p : Pos} {I : Addr} {x : Str} {t : Tok} {W0 : Addr → Obj → Prop} :
    Src w (.Name y p) I [I] W0 (signs x) (fun i h => h.IsStrIter I (strIterType x) x t i) (fun i v h => h.IsStrIter I (strIterType x) x t (i + 1)) where
  nd := List.nodup_cons.mpr ⟨(fun h => by cases h), List.nodup_nil⟩
  frame := fun i h h' st k => let ⟨o, ho, r⟩ := st; ⟨o, k I (.head _) o ho, r⟩
  alive := fun i h ⟨o, ho, _⟩ b hb => by rw [List.mem_singleton] at hb; subst hb; exact ⟨o, ho⟩
  aliveM := fun i v h ⟨o, ho, _⟩ b hb => by rw [List.mem_singleton] at hb; subst hb; exact ⟨o, ho⟩
  item := fun A E s H i v Q hh low wrH W hx st hQ => by
    unfold signs at hx
    rw [List.getElem?_map] at hx
    obtain ⟨c, hc, rfl⟩ := Option.map_eq_some_iff.mp hx
    have hc' : x.cps[i]? = some c := by simpa using hc
    cases ha : x.cps.all (· < 128)
    · have e : strIterType x = "str_iterator" := by unfold strIterType; rw [ha]; rfl
      rw [e] at st hQ
      exact wpAny_pyNext_wide_item st hc' fun h' hit' hs => hQ _ h' _ (Nat.le_succ _) (.str _ _) hit' fun b o hb e => hs.extBut b o (fun q => hb (by simp [q])) e
    · have e : strIterType x = "str_ascii_iterator" := by unfold strIterType; rw [ha]; rfl
      rw [e] at st hQ
      exact wpAny_pyNext_ascii_item st hc' fun h' hit' hs => hQ _ h' _ (Nat.le_succ _) (.str _ _) hit' fun b o hb e => hs.extBut b o (fun q => hb (by simp [q])) e
  go := fun A E s i v Q mid hQ => wpAny_pure (hQ s.heap mid fun _ _ _ e => e)
  done := fun A E s Q hh W st hQ => by
    have hn : x.cps[(signs x).length]? = none := by unfold signs; simp
    cases ha : x.cps.all (· < 128)
    · have e : strIterType x = "str_iterator" := by unfold strIterType; rw [ha]; rfl
      rw [e] at st
      exact wpAny_pyNext_wide_end hh st hn fun h' he => hQ h' s.toks (Nat.le_refl _) fun b o hb e => he b o (fun q => hb (by simp [q])) e
    · have e : strIterType x = "str_ascii_iterator" := by unfold strIterType; rw [ha]; rfl
      rw [e] at st
      exact wpAny_pyNext_ascii_end hh st hn fun h' he => hQ h' s.toks (Nat.le_refl _) fun b o hb e => he b o (fun q => hb (by simp [q])) e
  self := fun A E s i Q st hQ => by
    cases ha : x.cps.all (· < 128)
    · have e : strIterType x = "str_iterator" := by unfold strIterType; rw [ha]; rfl
      rw [e] at st; exact wpAny_pyIter_striter_wide st hQ
    · have e : strIterType x = "str_ascii_iterator" := by unfold strIterType; rw [ha]; rfl
      rw [e] at st; exact wpAny_pyIter_striter_ascii st hQ

noncomputable def numbered (xs : List V) : List V := xs.zipIdx.map fun p => .tup [.int p.2, p.1]
theorem Src.enum {w : World} {es : List Expr} {k : Nat} {p : Pos} {e it l : Addr} (hei : e ≠ it) {xs : List V} {vs : List Value} {n : Nat} {W0 : Addr → Obj → Prop} (hl : W0 l { cls := .type "list", data := .seq vs.toArray n }) (hv : VRs W0 xs vs) :
    Src w (.Tuple es k p) e [e, it] W0 (numbered xs) (fun i h => (∃ old, IsEnum h e it i old) ∧ h.IsListIter it l i) (fun i v h => (∃ x T, v = .ref T ∧ IsEnumOut h e it ((i : Int) + 1) x T) ∧ h.IsListIter it l (i + 1)) where
  nd := List.nodup_cons.mpr ⟨(fun h => hei (List.mem_singleton.mp h)), List.nodup_cons.mpr ⟨(fun h => by cases h), List.nodup_nil⟩⟩
  frame := fun i h h' ⟨⟨old, he⟩, hit⟩ k => ⟨⟨old, k e (.head _) _ he⟩, hit.at fun o x => k it (.tail _ (.head _)) o x⟩
  alive := fun i h ⟨⟨old, he⟩, hit⟩ b hb => by
    obtain ⟨o, ho, _⟩ := hit
    rcases List.mem_cons.mp hb with rfl | hb
    · exact ⟨_, he⟩
    · rw [List.mem_singleton] at hb; subst hb; exact ⟨o, ho⟩
  aliveM := fun i v h ⟨⟨x, T, _, he⟩, hit⟩ b hb => by
    obtain ⟨o, ho, _⟩ := hit
    rcases List.mem_cons.mp hb with rfl | hb
    · exact ⟨_, he⟩
    · rw [List.mem_singleton] at hb; subst hb; exact ⟨o, ho⟩
  item := fun A E s H i x Q hh low wrH W hx st hQ => by
    obtain ⟨⟨old, he⟩, hit⟩ := st
    unfold numbered at hx
    rw [List.getElem?_map, List.getElem?_zipIdx] at hx
    obtain ⟨q, hq, rfl⟩ := Option.map_eq_some_iff.mp hx
    obtain ⟨y, hy, rfl⟩ := Option.map_eq_some_iff.mp hq
    obtain ⟨v, hv1, hv2⟩ := hv.get hy
    have hL : s.heap.IsList l vs.toArray := ⟨_, (W _ _ hl).1, rfl, n, rfl⟩
    refine wpAny_pyNext_enum_item he hit hL (x := v) (by simpa using hv1) hei fun h' ho hit' hT hsz hk => ?_
    have up : ∀ b o, W0 b o → Has H h' b o := fun b o y => ⟨hk b o (fun q => (W _ _ y).2 (wrH b (by simp [q]))) (fun q => (W _ _ y).2 (wrH b (by simp [q]))) (W _ _ y).1, (W _ _ y).2⟩
    refine hQ _ h' _ (Nat.le_succ _) (.tup (n := _) (vs := [.int i s.toks, v]) ⟨hT, fun q => ?_⟩ (.cons (by simpa using VR.int _ _) (.cons (hv2.mono up) .nil))) ⟨⟨_, _, rfl, ho⟩, hit'⟩ fun b o hb x => hk b o (fun e' => hb (by simp [e'])) (fun e' => hb (by simp [e'])) x
    obtain ⟨o, ho⟩ := low _ q
    rw [none_size] at ho; cases ho
  go := fun A E s i v Q mid hQ => by
    obtain ⟨⟨x, T, rfl, ho⟩, hit⟩ := mid
    refine wpAny_letOwnedTupleGo_enum ho fun h' he' hs' => hQ h' ⟨⟨x, by simpa using he'⟩, hit.at fun o y => (hs'.2 it hei.symm).trans y⟩ fun b o hb y => ?_
    exact (hs'.2 b fun e' => hb (by simp [e'])).trans y
  done := fun A E s Q hh W st hQ => by
    obtain ⟨⟨old, he⟩, hit⟩ := st
    have hlen : (numbered xs).length = vs.length := by unfold numbered; rw [hv.length]; simp
    rw [hlen] at he hit
    exact wpAny_pyNext_enum_end hh he hit ⟨_, W _ _ hl, rfl, n, rfl⟩ (by simp) fun h' hx => hQ h' s.toks (Nat.le_refl _) fun b o hb y => hx b o (fun e' => hb (by simp [e'])) y
  self := fun A E s i Q st hQ => by
    obtain ⟨⟨old, he⟩, _⟩ := st
    exact wpAny_pyIter_enum he hQ

section
variable {C : Cx} {σ : Sg}
theorem Kp.hasPush {H : Addr → Prop} {s : Shared} {o : Obj} {I : Addr} (hI : I = s.heap.objs.size) {tk : Nat} : ∀ b ob, Has H s.heap b ob → Has (fun b => H b ∨ b ∈ [I]) (s.heap.push o) b ob := fun b ob x => ⟨Heap.get?_push_of_some o x.1, fun q => by
  rcases q with q | q
  · exact x.2 q
  · rw [List.mem_singleton, hI] at q
    have := Heap.lt_size x.1
    rw [q] at this; exact Nat.lt_irrefl _ this⟩

theorem EI.list {tg e xs} (ht : Simple tg) (h : EV C σ e (.list xs)) : EI C σ tg e xs := fun F A E s ok S Q hQ => h F A E s ok S _ fun v s₁ k r => by
  cases r with
  | list hl hv =>
    rename_i ax n vs
    have hL : s₁.heap.IsList ax vs.toArray := ⟨_, hl.1, rfl, n, rfl⟩
    refine wpAny_pyIter_list hL (hQ _ [s₁.heap.objs.size] _ _ _ (k.trans (Kp.push _)) (fun b hb => ?_) (Src.list ht (Kp.hasPush (tk := 0) rfl _ _ hl) (hv.mono (Kp.hasPush (tk := 0) rfl))) ⟨_, Heap.get?_push_size _ rfl, rfl, rfl⟩)
    rw [List.mem_singleton] at hb; subst hb; exact k.fresh (none_size _)

theorem EI.str {x p e y} (h : EV C σ e (.str y)) : EI C σ (.Name x p) e (signs y) := fun F A E s ok S Q hQ => h F A E s ok S _ fun v s₁ k r => by
  cases r
  refine wpAny_pyIter_strU (hQ _ [s₁.heap.objs.size] _ _ _ (k.trans (Kp.push _)) (fun b hb => ?_) Src.str ⟨_, Heap.get?_push_size _ rfl, rfl, rfl⟩)
  rw [List.mem_singleton] at hb; subst hb; exact k.fresh (none_size _)

noncomputable def upTo (a : Int) (n : Nat) : List V := (List.range n).map fun i : Nat => V.int (a + (i : Int))
theorem EI.range {x p e a b} (h : EV C σ e (.rng a b)) (ha : -(2 ^ 62) ≤ a) (ha' : a < 2 ^ 62) (hb : -(2 ^ 62) ≤ b) (hb' : b < 2 ^ 62) : EI C σ (.Name x p) e (upTo a (b - a).toNat) := fun F A E s ok S Q hQ => h F A E s ok S _ fun v s₁ k r => by
  cases r with
  | rng hr =>
    refine wpAny_pyIter_range hr.1 (small_one ha ha' hb hb') (hQ _ [s₁.heap.objs.size] _ _ _ (k.trans (Kp.push _)) (fun b hb => ?_) Src.range ?_)
    · rw [List.mem_singleton] at hb; subst hb; exact k.fresh (none_size _)
    · have e : Builtin.Range.rangeSize a b 1 = (((b - a).toNat : Nat) : Int) - ((0 : Nat) : Int) := by
        rw [rangeSize_one]; split <;> omega
      have e2 : a = a + ((0 : Nat) : Int) * 1 := by simp
      show IsRangeIter _ _ _ _ _
      unfold IsRangeIter
      rw [← e, ← e2]
      exact Heap.get?_push_size _ rfl

theorem o_range1 {w : World} {lo d : Nat} {a : Int} : OPQ w lo (fun vs => call (.type "range") vs) [.int a] (.rng 0 a) d := fun A E s H vs ok T tk low hv Q hQ => by
  cases hv with
  | cons h1 h2 =>
    cases h1; cases h2
    refine call_range_1 (hQ _ _ (Kp.pushk _ (by omega)) (.rng ⟨Heap.get?_push_size _ rfl, fun q => ?_⟩))
    obtain ⟨o, ho⟩ := low _ q
    rw [none_size] at ho; cases ho
theorem o_range2 {w : World} {lo d : Nat} {a b : Int} : OPQ w lo (fun vs => call (.type "range") vs) [.int a, .int b] (.rng a b) d := fun A E s H vs ok T tk low hv Q hQ => by
  cases hv with
  | cons h1 h2 =>
    cases h1
    cases h2 with
    | cons h1 h2 =>
      cases h1; cases h2
      refine call_range_2 (hQ _ _ (Kp.pushk _ (by omega)) (.rng ⟨Heap.get?_push_size _ rfl, fun q => ?_⟩))
      obtain ⟨o, ho⟩ := low _ q
      rw [none_size] at ho; cases ho

theorem EI.enum {es k p x px e pos xs} (hf : EV C σ (.Name x px) (.val (.type "enumerate"))) (h : EV C σ e (.list xs)) (he : starEach [e] C.env = [(false, eval e C.env)]) : EI C σ (.Tuple es k p) (.Call (.Name x px) [e] [] pos) (numbered xs) := fun F A E s ok S Q hQ => by
  refine Call_ (hf F A E s ok S _ fun f' s₁ k₁ r₁ => ?_) rfl
  cases r₁
  refine PyProof.Rows.callWith_type1 (args_cons (h F A E s₁ ok (S.keeps k₁) _ fun v s₂ k₂ r₂ => args_nil ?_) he) he rfl
  cases r₂ with
  | list hl hv =>
    rename_i l n vs
    have hL : s₂.heap.IsList l vs.toArray := ⟨_, hl.1, rfl, n, rfl⟩
    refine call_enumerate_list hL fun h' hE hI hsz hk => wpAny_pyIter_enum hE ?_
    have kk : Kp s { s₂ with heap := h' } := (k₁.trans k₂).trans ⟨⟨h', s₂.toks, rfl⟩, hk, Nat.le_refl _⟩
    have none1 : s₂.heap.get? (s₂.heap.objs.size + 1) = none := by
      cases q : s₂.heap.get? (s₂.heap.objs.size + 1) with
      | none => rfl
      | some o => exact absurd (Heap.lt_size q) (Nat.not_lt.mpr (Nat.le_succ _))
    have up : ∀ b o, Has (Hd C σ F) s₂.heap b o → Has (fun b => Hd C σ F b ∨ b ∈ [s₂.heap.objs.size + 1, s₂.heap.objs.size]) h' b o := fun b o x => ⟨hk _ _ x.1, fun q => by
      rcases q with q | q
      · exact x.2 q
      · have := Heap.lt_size x.1
        rcases List.mem_cons.mp q with q | q
        · rw [q] at this; exact absurd this (Nat.not_lt.mpr (Nat.le_succ _))
        · rw [List.mem_singleton] at q; rw [q] at this; exact Nat.lt_irrefl _ this⟩
    refine hQ _ [s₂.heap.objs.size + 1, s₂.heap.objs.size] _ _ _ kk (fun b hb => ?_) (Src.enum (Nat.succ_ne_self _) (up _ _ hl) (hv.mono up)) ⟨⟨_, hE⟩, hI⟩
    rcases List.mem_cons.mp hb with rfl | hb
    · exact (k₁.trans k₂).fresh none1
    · rw [List.mem_singleton] at hb; subst hb; exact (k₁.trans k₂).fresh (none_size _)
end
end Mine

namespace Mine
open PySem PySem.Spec PySem.Calls PyProof.Rows PySem.W

/-- a new list -/
noncomputable def EN (C : Cx) (σ : Sg) (e : Expr) (ys : List V) : Prop :=
  ∀ (F : List (Addr × Obj)) (A : Around) (E : Value → Shared → Prop) (s : Shared), AOk A C.d → Vw C σ F s → ∀ Q : Value → Shared → Prop,
    (∀ a s' vs, Kp s s' → s.heap.get? a = none → s'.heap.PlainList a (List.toArray vs) → VRs (Has (fun b => Hd C σ F b ∨ b = a) s'.heap) ys vs → Q (.ref a) s') → wpAny (model PR C.w) A (eval e C.env) Q E s
theorem EV.new {C : Cx} {σ : Sg} {e ys} (h : EN C σ e ys) : EV C σ e (.list ys) := fun F A E s ok S Q hQ => h F A E s ok S Q fun a s' vs k hn ⟨n, ho⟩ hv => hQ _ _ k (.list ⟨ho, fun q => by
  obtain ⟨o, ho⟩ := S.low a q
  rw [hn] at ho; cases ho⟩ (hv.mono fun b o x => ⟨x.1, fun q => x.2 (.inl q)⟩))

theorem mkFrame {Cc : Cx} {s s₄ : Shared} {cl0 : List (Str × Addr × Option V)} {D : Addr} {R : List (Addr × Obj)} (top : TopF Cc.w s.heap) (tk : 430 ≤ Cc.lo ∧ Cc.lo ≤ s.toks) (k : Kp s s₄) (fn : Cc.env.scope.kind = .function) (glob : Cc.env.globals = mainGlobals) (blt : Cc.env.builtins = builtinsNs)
    (new : ∀ a, a ∈ Cc.env.locals :: own ⟨[], cl0, [(D, [])], []⟩ R → s.heap.get? a = none) (nd : (Cc.env.locals :: own ⟨[], cl0, [(D, [])], []⟩ R).Nodup) (out : ∀ a, Cc.H a → ∃ o, s.heap.get? a = some o) (ns : ∃ m, s₄.heap.Ns Cc.env.locals m)
    (hcl : ∀ x c v, (x, c, v) ∈ cl0 → v = none ∧ Cc.env.cells.lookup x = some c ∧ ∃ u, s₄.heap.IsCell c u) (hD : s₄.heap.PlainList D #[]) (raws : ∀ p ∈ R, s₄.heap.get? p.1 = some p.2)
    (frs : ∀ x v, Cc.fr.lookup x = some v → ∃ c v', Cc.env.cells.lookup x = some c ∧ s.heap.IsCell c (some v') ∧ VR (Has Cc.H s.heap) v v') : Fw Cc s ⟨[], cl0, [(D, [])], []⟩ R s₄ := by
  refine ⟨⟨top.keeps k.ext, ⟨tk.1, Nat.le_trans tk.2 k.tk⟩, fn, glob, blt, ?_, fun x c v hx => ?_, fun p hp => ?_, (fun p hp => by cases hp), raws, fun a ha => ?_, nd, apartOf out new, freeOf frs k.ext new⟩, k.same, k.ext, top, new, nd, out, fun x c v hm => (hcl x c v hm).2, k.tk, frs⟩
  · obtain ⟨m, hn⟩ := ns; exact ⟨m, hn, fun _ _ e => by cases e⟩
  · have := (hcl x c _ (lookup_mem hx)).1; cases this
  · rw [List.mem_singleton] at hp; subst hp; exact ⟨[], hD, .nil⟩
  · rcases ha with ha | ha | ha
    · obtain ⟨o, ho⟩ := out a ha; exact ⟨o, k.ext _ _ ho⟩
    · obtain ⟨m, o, _, _, ho, _⟩ := ns; exact ⟨o, ha ▸ ho⟩
    · rcases List.mem_append.mp ha with ha | ha
      · rcases List.mem_append.mp ha with ha | ha
        · rcases List.mem_append.mp ha with ha | ha
          · obtain ⟨⟨x, c, v⟩, hp, rfl⟩ := List.mem_map.mp ha
            obtain ⟨_, _, u, o, ho, _⟩ := hcl x c v hp
            exact ⟨o, ho⟩
          · obtain ⟨n, ho⟩ := hD
            rw [List.map_cons, List.map_nil, List.mem_singleton] at ha
            exact ⟨_, by rw [ha]; exact ho⟩
        · cases ha
      · obtain ⟨p, hp, rfl⟩ := List.mem_map.mp ha; exact ⟨_, raws p hp⟩

theorem rawKeep {St : Nat → Heap → Prop} {i : Nat} {wr : List Addr} {R F : List (Addr × Obj)} (fr : ∀ i h h', St i h → (∀ b ∈ wr, ∀ o, h.get? b = some o → h'.get? b = some o) → St i h') (eR : R.map (·.1) = wr) {h h' : Heap} (h1 : ∀ p ∈ R ++ F, h.get? p.1 = some p.2) (h2 : ∀ p ∈ R ++ F, h'.get? p.1 = some p.2) (st : St i h) : St i h' := by
  refine fr _ _ _ st fun b hb o e => ?_
  obtain ⟨p, hp, q⟩ := List.mem_map.mp (eR ▸ hb)
  have e1 := h1 p (List.mem_append_left _ hp)
  have e2 := h2 p (List.mem_append_left _ hp)
  rw [q] at e1 e2
  have : (some p.2 : Option Obj) = some o := e1.symm.trans e
  rw [← this]; exact e2

section
variable {Cc : Cx} {s : Shared}
theorem comp_loop {elt tg iter : Expr} {scope : Scope} {pos : Pos} {I D : Addr} {wr : List Addr} {W0 : Addr → Obj → Prop} {xs ys : List V} {St : Nat → Heap → Prop} {Mid : Nat → Value → Heap → Prop} {A : Around} {RR : Result → Shared → Prop} {cl0 : List (Str × Addr × Option V)} {R : List (Addr × Obj)} {s₄ : Shared}
    (ok : AOk A Cc.d) (src : Src Cc.w tg I wr W0 xs St Mid) (S4 : Fw Cc s ⟨[], cl0, [(D, [])], []⟩ R s₄) (eR : R.map (·.1) = wr) (st0 : St 0 s₄.heap) (W4 : ∀ b o, W0 b o → Has (Hd Cc ⟨[], cl0, [(D, [])], []⟩ R) s₄.heap b o)
    (hlen : ys.length = xs.length) (hsz : xs.length ≤ sizeLine)
    (turn : ∀ (i : Nat) (x y : V), xs[i]? = some x → ys[i]? = some y → ∀ O, ∃ σ₁, TG Cc s ⟨[], cl0, O, []⟩ tg x σ₁ ∧ σ₁.O = O ∧ σ₁.D = [] ∧ ClSub cl0 σ₁.cl ∧ EV Cc σ₁ elt y)
    (fin : ∀ s₅ vs, Kp s s₅ → (∃ m, s₅.heap.Ns Cc.env.locals m) → s₅.heap.PlainList D (List.toArray vs) → VRs (Has (fun b => Cc.H b ∨ b = Cc.env.locals ∨ b = D) s₅.heap) ys vs → RR (.ok .next) s₅) :
    codeAny (model PR Cc.w) A (.compLoop (.ListComp elt [⟨tg, iter, [], 0⟩] scope pos) 0 (.ref I) (.ref D) Cc.env) RR s₄ := by
  have wrH : ∀ (σ' : Sg) (R' : List (Addr × Obj)), R'.map (·.1) = wr → ∀ b ∈ wr, Hd Cc σ' R' b := fun σ' R' e b hb => .inr (.inr (by rw [own_base, e]; exact List.mem_append_right _ hb))
  refine codeAny_loop rfl (fun n s₂ => ∃ i R', n = xs.length + 1 - i ∧ i ≤ xs.length ∧ R'.map (·.1) = wr ∧ Fw Cc s ⟨[], cl0, [(D, ys.take i)], []⟩ R' s₂ ∧ St i s₂.heap ∧ (∀ b o, W0 b o → Has (Hd Cc ⟨[], cl0, [(D, ys.take i)], []⟩ R') s₂.heap b o)) (fun n s₂ h => ?_) (xs.length + 1) ⟨0, R, rfl, Nat.zero_le _, eR, by simpa using S4, st0, by simpa using W4⟩
  obtain ⟨i, R', rfl, hi', eR', S2, st, W2⟩ := h
  show wpAny _ A ((compTurn (.ListComp elt [⟨tg, iter, [], 0⟩] scope pos) 0 (.ref I) (.ref D) Cc.env).onRaise (fun x => do noteFrame x Cc.env; theTreesLotGoes x)) _ _ s₂
  refine wpAny_noted ?_
  rw [compTurn_list1]
  refine wpAny_bind (wpAny_standAt (wpAny_bind ?_))
  by_cases hlt : i < xs.length
  · have hy : i < ys.length := by omega
    obtain ⟨σ₁, tgt, hO, hDn, hcs, ev⟩ := turn i xs[i] ys[i] (by simp [hlt]) (by simp [hy]) [(D, ys.take i)]
    refine src.item A _ s₂ (Hd Cc ⟨[], cl0, [(D, ys.take i)], []⟩ R') i xs[i] _ ok.hh S2.vw.low (wrH _ _ eR') W2 (by simp [hlt]) st fun v h₃ tk₃ htk r mid keep => ?_
    have S2' : Fw Cc s ⟨[], cl0, [(D, ys.take i)], []⟩ (R' ++ []) s₂ := by rw [List.append_nil]; exact S2
    obtain ⟨R₃, eR₃, S3, l3⟩ := S2'.move (h' := h₃) htk (by rw [eR']; exact keep) (by rw [eR']; exact src.aliveM _ _ _ mid)
    refine wpAny_bind (src.go A _ _ i v _ mid fun h₄ st4 keep4 => ?_)
    have eR3' : R₃.map (·.1) = wr := eR₃.trans eR'
    obtain ⟨R₄, eR₄, S4, l4⟩ := S3.move (h' := h₄) (Nat.le_refl _) (by rw [eR3']; exact keep4) (by rw [eR3']; exact src.alive _ _ st4)
    have eR4' : R₄.map (·.1) = wr := eR₄.trans eR3'
    have r4 : VR (Has (Hd Cc ⟨[], cl0, [(D, ys.take i)], []⟩ (R₄ ++ [])) h₄) xs[i] v := by
      rw [hd_move (eR₄.trans eR₃), List.append_nil]
      exact r.mono fun b o x => ⟨keep4 b o (fun q => x.2 (wrH _ _ eR' b q)) x.1, x.2⟩
    refine wpAny_bind (tgt (R₄ ++ []) A _ _ v ok S4 r4 _ fun s₅ S5 l5 => ?_)
    have st5 := rawKeep src.frame eR4' S4.vw.raws S5.vw.raws st4
    refine wpAny_bind (wpAny_bind (ev (R₄ ++ []) A _ s₅ ok S5.vw _ fun y s₆ k₆ r₆ => wpAny_bind ?_))
    have S6 := S5.keeps k₆
    have hO0 : σ₁.O[0]? = some (D, ys.take i) := by rw [hO]; rfl
    obtain ⟨vs, hl, hv⟩ := S6.vw.lists (D, ys.take i) (by rw [hO]; exact .head _)
    have hvl := hv.length
    refine wpAny_list_append_plain (hsz := by rw [List.size_toArray, hvl, List.length_take]; omega) hl fun h₇ hl₇ hs₇ => wpAny_pure (wpAny_pure ⟨rfl, ?_⟩)
    have mono7 := hidMono (C := Cc) (σ := σ₁) (F := R₄ ++ []) (a := D) (.inr (.inr (mem_O (p := (D, ys.take i)) (by rw [hO]; exact .head _)))) hs₇
    have S7 : Fw Cc s { σ₁ with O := σ₁.O.set 0 (D, ys.take i ++ [ys[i]]) } (R₄ ++ []) { s₆ with heap := h₇, toks := s₆.toks } :=
      S6.setO hO0 hs₇ (Nat.le_refl _) (vs := vs ++ [y]) (by simpa using hl₇) ((hv.mono mono7).append (.cons (r₆.mono mono7) .nil))
    have htake : ys.take i ++ [ys[i]] = ys.take (i + 1) := by rw [List.take_succ]; simp [hy]
    have sb : Sub ⟨[], cl0, [(D, ys.take (i + 1))], []⟩ { σ₁ with O := σ₁.O.set 0 (D, ys.take i ++ [ys[i]]) } := ⟨fun e => (nomatch e), hcs, by rw [hO, htake]; rfl, hDn.symm⟩
    have S8 := S7.sub sb
    rw [List.append_nil] at S8
    refine ⟨xs.length + 1 - (i + 1), by omega, i + 1, R₄, rfl, hlt, eR4', S8, ?_, fun b o x => ?_⟩
    · exact rawKeep (F := []) src.frame eR4' S5.vw.raws (by rw [List.append_nil]; exact S8.vw.raws) st5
    · have x2 := W2 b o x
      rw [← List.append_nil R'] at x2
      have x6 := k₆.le _ _ _ (l5 _ _ (l4 _ _ (l3 _ _ x2)))
      have x7 := mono7 _ _ x6
      have e1 : Hd Cc ⟨[], cl0, [(D, ys.take (i + 1))], []⟩ R₄ = Hd Cc σ₁ (R₄ ++ []) := by
        have := sb.hd (C := Cc) (F := R₄ ++ [])
        rw [List.append_nil] at this ⊢
        rw [this]
        funext b; unfold Hd; rw [set_O_own hO0]
      rw [e1]; exact x7
  · have hlen' : i = xs.length := by omega
    subst hlen'
    refine src.done A _ s₂ _ ok.hh (fun b o x => (W2 b o x).1) st fun h₃ tk₃ htk keep => wpAny_pure ?_
    have S2' : Fw Cc s ⟨[], cl0, [(D, ys.take xs.length)], []⟩ (R' ++ []) s₂ := by rw [List.append_nil]; exact S2
    obtain ⟨S3, l3⟩ := S2'.leave (h' := h₃) htk (by rw [eR']; exact keep)
    obtain ⟨vs, hl, hv⟩ := S3.vw.lists (D, ys.take xs.length) (.head _)
    obtain ⟨m, hn, _⟩ := S3.vw.ns
    refine fin _ vs ⟨S3.same, S3.ext, S3.tk0⟩ ⟨m, hn⟩ hl ?_
    have : ys.take xs.length = ys := by rw [← hlen]; exact List.take_length
    rw [this] at hv
    exact hv.mono fun b o x => ⟨x.1, fun q => x.2 (by
      rcases q with q | q | q
      · exact .inl q
      · exact .inr (.inl q)
      · subst q; exact .inr (.inr (mem_O (p := (b, ys)) (.head _))))⟩
end

theorem newEnvC {M : Model} {A : Around} {E : Value → Shared → Prop} {s : Shared} {scope : Scope} {globals : Addr} {cl : List (Str × Addr)} {qual : Str} {env : Env} {Q : Env → Shared → Prop}
    (hQ : Q (newEnv scope s.heap.objs.size globals (cellsFrom (s.heap.objs.size + 1) scope.names cl) qual none .none (some env) builtinsNs) { s with heap := pushCells (s.heap.push { cls := .type "dict", data := .dict #[] }) scope.names }) :
    wpAny M A (newFunctionEnv scope globals cl [] qual none .none (some env)) Q E s := by
  simp only [newFunctionEnv, Option.isSome_some, if_true]
  refine wpAny_bind (wpAny_alloc ?_)
  refine wpAny_bind (wpAny_layCells _ (fun name kind cells => by cases hkc : kind == NameKind.cell <;> simp [hkc]) _ _ _ _ ?_)
  rw [show ({ s with heap := s.heap.push { cls := .type "dict", data := .dict #[] } } : Shared).heap.objs.size = s.heap.objs.size + 1 from Heap.size_push ..]
  exact wpAny_bind (wpAny_pure (wpAny_pure hQ))

/-- the cells that a comprehension lays for its own names: none, or one -/
noncomputable def ownCells (scope : Scope) (L : Addr) : List (Str × Addr × Option V) := (scope.names.filter fun x => x.2 == .cell).map fun x => (x.1, L + 1, none)
noncomputable abbrev compC (C : Cx) (scope : Scope) (cl : List (Str × Addr)) (L : Addr) (H : Addr → Prop) (fr : List (Str × V)) : Cx := ⟨C.w, compEnvC scope (cellsFrom (L + 1) scope.names cl) L C.env, H, C.d, C.lo, fr⟩

section
variable {C : Cx} {σ : Sg}

theorem comp_all {elt tg iter : Expr} {scope : Scope} {pos cpos : Pos} {xs ys : List V} {cl : List (Str × Addr)} {fr : List (Str × V)} {use : Option (Value → Sem Unit)}
    (hi : EI C σ tg iter xs) (hlen : ys.length = xs.length) (hsz : xs.length ≤ sizeLine) (hclos : closureFor scope C.env = pure cl) (hkind : scope.kind = .function) (hnames : (scope.names.all fun x => x.2 != .local || scope.names.lookup x.1 == some .local) = true)
    (hcn : (scope.names.filter fun x => x.2 == .cell).length ≤ 1) (hcc : scope.names.all (fun x => x.2 != .cell) = true ∨ cl = [] ∧ fr = [])
    (hfr : ∀ x v, fr.lookup x = some v → ∃ c, cl.lookup x = some c ∧ (σ.cl.lookup x = some (c, some v) ∨ (C.fr.lookup x = some v ∧ C.env.cells.lookup x = some c)))
    (hs : ∀ x, foldedSetIterable iter C.env x = pure x)
    (turn : ∀ (H : Addr → Prop) (L : Addr) (s : Shared) (i : Nat) (x y : V), xs[i]? = some x → ys[i]? = some y → ∀ O, ∃ σ₁, TG (compC C scope cl L H fr) s ⟨[], ownCells scope L, O, []⟩ tg x σ₁ ∧ σ₁.O = O ∧ σ₁.D = [] ∧ ClSub (ownCells scope L) σ₁.cl ∧ EV (compC C scope cl L H fr) σ₁ elt y)
    {F : List (Addr × Obj)} {A : Around} {E : Value → Shared → Prop} {s : Shared} (ok : AOk A C.d) (S : Vw C σ F s) {Q : Value → Shared → Prop}
    (fin : ∀ D L s₅ vs, Kp s s₅ → s.heap.get? D = none → s.heap.get? L = none → D ≠ L → (∃ m, s₅.heap.Ns L m) → s₅.heap.PlainList D (List.toArray vs) → VRs (Has (fun b => Hd C σ F b ∨ b = L ∨ b = D) s₅.heap) ys vs → compPost (model PR C.w) A E use Q (.ref D) L (.ok .next) s₅) :
    wpAny (model PR C.w) A (comprehension (.ListComp elt [⟨tg, iter, [], 0⟩] scope pos) scope C.env cpos (newList []) false (eval iter C.env) use) Q E s := by
  refine wpAny_comprehension_free (use := use) rfl hs hclos hkind (fun x hx hl => ?_) (hi F A E s ok S _ fun I wr St Mid s₂ k fresh src st0 => ?_)
  · have := List.all_eq_true.mp hnames x hx
    rw [hl] at this
    simpa using this
  refine wpAny_newObj_type (newEnvC ?_)
  dsimp only
  generalize hH2 : s₂.heap.push { cls := .type "list", dict := none, data := .seq ([] : List Value).toArray } = H2
  generalize hH3 : H2.push { cls := .type "dict", data := .dict #[] } = H3
  have z2 : H2.objs.size = s₂.heap.objs.size + 1 := by rw [← hH2, Heap.size_push]
  have z3 : H3.objs.size = s₂.heap.objs.size + 2 := by rw [← hH3, Heap.size_push, z2]
  have e3 : ∀ b o, s₂.heap.get? b = some o → H3.get? b = some o := fun b o e => hH3 ▸ Heap.get?_push_of_some _ (hH2 ▸ Heap.get?_push_of_some _ e)
  have eD : H3.get? s₂.heap.objs.size = some { cls := .type "list", dict := none, data := .seq ([] : List Value).toArray } := hH3 ▸ Heap.get?_push_of_some _ (hH2 ▸ Heap.get?_push_size _ rfl)
  have eL : H3.Ns H2.objs.size fun _ => none := hH3 ▸ Heap.Ns.new _ _
  have k4 : Kp s { s₂ with heap := pushCells H3 scope.names } := k.trans ⟨⟨_, s₂.toks, rfl⟩, fun b o e => pushCells_keeps _ _ _ _ (e3 _ _ e), Nat.le_refl _⟩
  have above : ∀ a, s₂.heap.objs.size ≤ a → s.heap.get? a = none := fun a ha => k.fresh (by
    cases q : s₂.heap.get? a with
    | none => rfl
    | some o => exact absurd (Heap.lt_size q) (Nat.not_lt.mpr ha))
  have fD := above _ (Nat.le_refl _)
  have fL : s.heap.get? H2.objs.size = none := above _ (by rw [z2]; exact Nat.le_succ _)
  have hDL : s₂.heap.objs.size ≠ H2.objs.size := by rw [z2]; exact (Nat.succ_ne_self _).symm
  obtain ⟨R, eR, hR⟩ := rawsOf (src.alive 0 _ st0)
  have ltR : ∀ p ∈ R, p.1 < s₂.heap.objs.size := fun p hp => Heap.lt_size (hR p hp)
  have noc : scope.names.all (fun x => x.2 != .cell) = true → ∀ (n : Nat) (h : Heap) (cl : List (Str × Addr)), cellsFrom n scope.names cl = cl ∧ pushCells h scope.names = h := by
    generalize scope.names = l
    intro hl n h cl
    induction l generalizing n h cl with
    | nil => exact ⟨rfl, rfl⟩
    | cons a l ih =>
      obtain ⟨x, kd⟩ := a
      simp only [List.all_cons, Bool.and_eq_true] at hl
      have hk : (kd == NameKind.cell) = false := by simpa using hl.1
      unfold cellsFrom pushCells
      rw [hk]
      exact ih hl.2 n h cl
  have onec : ∀ (l : List (Str × NameKind)) (n : Nat) (h : Heap), (l.filter fun x => x.2 == .cell).length ≤ 1 → ∀ x c v, (x, c, v) ∈ (l.filter fun x => x.2 == .cell).map (fun x => (x.1, n, (none : Option V))) → n = h.objs.size → v = none ∧ (cellsFrom n l []).lookup x = some c ∧ ∃ u, (pushCells h l).IsCell c u := by
    intro l
    induction l with
    | nil => intro n h _ x c v hm; cases hm
    | cons a l ih =>
      obtain ⟨y, kd⟩ := a
      intro n h hl x c v hm hn
      unfold cellsFrom pushCells
      cases hk : kd == NameKind.cell with
      | false =>
        simp only [List.filter_cons, hk, Bool.false_eq_true, if_false] at hl hm ⊢
        exact ih n h hl x c v hm hn
      | true =>
        simp only [List.filter_cons, hk, if_true, List.length_cons] at hl hm ⊢
        have h0 : (l.filter fun x => x.2 == .cell) = [] := List.eq_nil_of_length_eq_zero (by omega)
        rw [h0] at hm
        simp only [List.map_cons, List.map_nil, List.mem_singleton, Prod.mk.injEq] at hm
        obtain ⟨rfl, rfl, rfl⟩ := hm
        have hno : ∀ (n : Nat) (h : Heap) (cl : List (Str × Addr)), cellsFrom n l cl = cl ∧ pushCells h l = h := by
          clear ih hl
          induction l with
          | nil => intro n h cl; exact ⟨rfl, rfl⟩
          | cons b l ih2 =>
            obtain ⟨z, kd2⟩ := b
            intro n h cl
            rw [List.filter_cons] at h0
            cases hk2 : kd2 == NameKind.cell with
            | true => rw [hk2] at h0; simp at h0
            | false =>
              rw [hk2] at h0
              unfold cellsFrom pushCells
              rw [hk2]
              exact ih2 (by simpa using h0) n h cl
        rw [(hno _ h _).1, (hno (c + 1) _ []).2]
        exact ⟨rfl, by simp, none, _, by rw [hn]; exact Heap.get?_push_size _ rfl, rfl⟩
  have S4 : Fw (compC C scope cl H2.objs.size (Hd C σ F) fr) s ⟨[], ownCells scope H2.objs.size, [(s₂.heap.objs.size, [])], []⟩ R { s₂ with heap := pushCells H3 scope.names } := by
    have hz : H2.objs.size + 1 = H3.objs.size := by rw [z2, z3]
    have ocs : ∀ a, a ∈ (ownCells scope H2.objs.size).map (·.2.1) → a = H3.objs.size := fun a ha => by
      unfold ownCells at ha
      rw [List.map_map] at ha
      obtain ⟨p, hp, rfl⟩ := List.mem_map.mp ha
      exact hz
    have hown : ∀ a, a ∈ own ⟨[], ownCells scope H2.objs.size, [(s₂.heap.objs.size, [])], []⟩ R → a = H3.objs.size ∨ a = s₂.heap.objs.size ∨ a ∈ R.map (·.1) := fun a ha => by
      rcases List.mem_append.mp ha with ha | ha
      · rcases List.mem_append.mp ha with ha | ha
        · rcases List.mem_append.mp ha with ha | ha
          · exact .inl (ocs a ha)
          · exact .inr (.inl (by simpa using ha))
        · cases ha
      · exact .inr (.inr ha)
    refine mkFrame S.top S.tk k4 ?_ S.glob S.blt (fun a ha => ?_) ?_ (fun a ha => S.low a ha) ⟨_, eL.keeps fun b o e => pushCells_keeps _ _ _ _ e⟩ (fun x c v hm => ?_) ⟨_, pushCells_keeps _ _ _ _ eD⟩ (fun p hp => pushCells_keeps _ _ _ _ (e3 _ _ (hR p hp))) (fun x v hx => ?_)
    · exact hkind
    · rcases List.mem_cons.mp ha with rfl | ha
      · exact fL
      · rcases hown a ha with rfl | rfl | ha
        · exact above _ (by rw [z3]; exact Nat.le_add_right _ _)
        · exact fD
        · exact fresh a (eR ▸ ha)
    · have ndoc : ((ownCells scope H2.objs.size).map (·.2.1)).Nodup := by
        have hl : ((ownCells scope H2.objs.size).map (·.2.1)).length ≤ 1 := by unfold ownCells; simpa using hcn
        generalize (ownCells scope H2.objs.size).map (·.2.1) = l at hl
        match l, hl with
        | [], _ => exact List.nodup_nil
        | [a], _ => exact List.nodup_cons.mpr ⟨(fun h => by cases h), List.nodup_nil⟩
        | _ :: _ :: _, hl => simp at hl
      refine List.nodup_cons.mpr ⟨fun ha => ?_, ?_⟩
      · have ha' : H2.objs.size ∈ own ⟨[], ownCells scope H2.objs.size, [(s₂.heap.objs.size, [])], []⟩ R := ha
        rcases hown _ ha' with e | e | e
        · rw [z2, z3] at e; exact absurd e (by simp)
        · exact hDL e.symm
        · obtain ⟨p, hp, q⟩ := List.mem_map.mp e
          have := ltR p hp
          rw [q, z2] at this; exact absurd this (Nat.not_lt.mpr (Nat.le_succ _))
      · unfold own
        simp only [List.map_cons, List.map_nil, List.flatMap_nil, List.append_nil]
        refine List.nodup_append.mpr ⟨List.nodup_append.mpr ⟨ndoc, List.nodup_cons.mpr ⟨(fun h => by cases h), List.nodup_nil⟩, fun a ha b hb e => ?_⟩, by rw [eR]; exact src.nd, fun a ha b hb e => ?_⟩
        · have h1 := ocs a ha
          rw [List.mem_singleton] at hb
          rw [e, hb, z3] at h1
          exact absurd h1 (by simp)
        · obtain ⟨p, hp, q⟩ := List.mem_map.mp hb
          have lt := ltR p hp
          rw [q, ← e] at lt
          rcases List.mem_append.mp ha with ha | ha
          · have h1 := ocs a ha
            rw [h1, z3] at lt; exact absurd lt (Nat.not_lt.mpr (Nat.le_add_right _ _))
          · rw [List.mem_singleton] at ha
            rw [ha] at lt; exact Nat.lt_irrefl _ lt
    · rcases hcc with h0 | ⟨h0, _⟩
      · have : ownCells scope H2.objs.size = [] := by
          unfold ownCells
          rw [List.map_eq_nil_iff, List.filter_eq_nil_iff]
          intro y hy
          have := List.all_eq_true.mp h0 y hy
          simpa using this
        rw [this] at hm; cases hm
      · subst h0
        have := onec scope.names (H2.objs.size + 1) H3 hcn x c v hm hz
        exact this
    · rcases hcc with h0 | ⟨_, h0⟩
      · obtain ⟨c, hc, h1⟩ := hfr x v hx
        have hc' : (compC C scope cl H2.objs.size (Hd C σ F) fr).env.cells.lookup x = some c := by
          show (cellsFrom _ scope.names cl).lookup x = some c
          rw [(noc h0 _ H3 cl).1]; exact hc
        rcases h1 with h1 | ⟨h1, h2⟩
        · obtain ⟨_, v', hv, r⟩ := S.cells x c v h1
          exact ⟨c, v', hc', hv, r⟩
        · obtain ⟨c2, v', h3, hv, r⟩ := S.free x v h1
          have hcc2 : c2 = c := by rw [h2] at h3; cases h3; rfl
          subst hcc2
          exact ⟨c2, v', hc', hv, r⟩
      · subst h0; cases hx
  have key : codeAny (model PR C.w) A (.compLoop (.ListComp elt [⟨tg, iter, [], 0⟩] scope pos) 0 (.ref I) (.ref s₂.heap.objs.size) (compEnvC scope (cellsFrom (H2.objs.size + 1) scope.names cl) H2.objs.size C.env))
      (compPost (model PR C.w) A E use Q (.ref s₂.heap.objs.size) H2.objs.size) { s₂ with heap := pushCells H3 scope.names } := by
    refine comp_loop (Cc := compC C scope cl H2.objs.size (Hd C σ F) fr) (cl0 := ownCells scope H2.objs.size) (s := s) ok src S4 eR ?_ (fun b o x => ?_) hlen hsz (turn _ _ _) fun s₅ vs k5 hn hl hv => ?_
    · exact src.frame _ _ _ st0 fun b _ o e => pushCells_keeps _ _ _ _ (e3 _ _ e)
    · refine ⟨pushCells_keeps _ _ _ _ (e3 _ _ x.1), fun q => ?_⟩
      have lt := Heap.lt_size x.1
      rcases q with q | q | q
      · exact x.2 (.inl q)
      · have q' : b = H2.objs.size := q
        rw [q', z2] at lt; exact absurd lt (Nat.not_lt.mpr (Nat.le_succ _))
      · rcases List.mem_append.mp q with q | q
        · rcases List.mem_append.mp q with q | q
          · rcases List.mem_append.mp q with q | q
            · unfold ownCells at q
              rw [List.map_map] at q
              obtain ⟨p, hp, rfl⟩ := List.mem_map.mp q
              have lt' : H2.objs.size + 1 < s₂.heap.objs.size := lt
              rw [z2] at lt'; omega
            · have q' : b = s₂.heap.objs.size := by simpa using q
              rw [q'] at lt; exact Nat.lt_irrefl _ lt
          · cases q
        · exact x.2 (.inr (eR ▸ q))
    · exact fin _ _ s₅ vs k5 fD fL hDL hn hl hv
  exact codeAny_compStart_list key (src.self A _ _ 0 _ (src.frame _ _ _ st0 fun b _ o e => pushCells_keeps _ _ _ _ (e3 _ _ e)) key)
end
end Mine

namespace Mine
open PySem PySem.Spec PySem.Calls PyProof.Rows PySem.W

section
variable {C : Cx} {s₀ : Shared} {σ : Sg} {F : List (Addr × Obj)} {s : Shared}

/-- the side conditions of a comprehension, all by reduction -/
structure CompOk (C : Cx) (σ : Sg) (scope : Scope) (cl : List (Str × Addr)) (fr : List (Str × V)) (iter : Expr) : Prop where
  clos : closureFor scope C.env = pure cl
  kind : scope.kind = .function
  names : (scope.names.all fun x => x.2 != .local || scope.names.lookup x.1 == some .local) = true
  cn : (scope.names.filter fun x => x.2 == .cell).length ≤ 1
  cc : scope.names.all (fun x => x.2 != .cell) = true ∨ cl = [] ∧ fr = []
  fr : ∀ x v, fr.lookup x = some v → ∃ c, cl.lookup x = some c ∧ (σ.cl.lookup x = some (c, some v) ∨ (C.fr.lookup x = some v ∧ C.env.cells.lookup x = some c))
  hs : ∀ x, foldedSetIterable iter C.env x = pure x

noncomputable def TurnC (C : Cx) (scope : Scope) (cl : List (Str × Addr)) (fr : List (Str × V)) (tg elt : Expr) (xs ys : List V) : Prop :=
  ∀ (H : Addr → Prop) (L : Addr) (s : Shared) (i : Nat) (x y : V), xs[i]? = some x → ys[i]? = some y → ∀ O, ∃ σ₁, TG (compC C scope cl L H fr) s ⟨[], ownCells scope L, O, []⟩ tg x σ₁ ∧ σ₁.O = O ∧ σ₁.D = [] ∧ ClSub (ownCells scope L) σ₁.cl ∧ EV (compC C scope cl L H fr) σ₁ elt y

theorem EN.comp {elt tg iter : Expr} {scope : Scope} {pos : Pos} {xs ys : List V} {cl : List (Str × Addr)} {fr : List (Str × V)} (hi : EI C σ tg iter xs) (hlen : ys.length = xs.length) (hsz : xs.length ≤ sizeLine) (ck : CompOk C σ scope cl fr iter)
    (turn : TurnC C scope cl fr tg elt xs ys) : EN C σ (.ListComp elt [⟨tg, iter, [], 0⟩] scope pos) ys := fun F A E s ok S Q hQ => by
  rw [eval_ListComp]
  refine comp_all (use := none) hi hlen hsz ck.clos ck.kind ck.names ck.cn ck.cc ck.fr ck.hs turn ok S fun D L s₅ vs k hD hL hDL hn hl hv => ?_
  obtain ⟨m, hn⟩ := hn
  refine ⟨m, hn, fun h' hs => hQ D _ vs ⟨?_, fun b o e => hs.extBut b o (fun q => by rw [← q, e] at hL; cases hL) (k.ext _ _ e), k.tk⟩ hD (hl.at fun o e => hs.extBut _ _ hDL e) (hv.mono fun b o x => ⟨hs.extBut b o (fun q => x.2 (.inr (.inl q))) x.1, fun q => x.2 (by
    rcases q with q | q
    · exact .inl q
    · exact .inr (.inr q))⟩)⟩
  obtain ⟨h, t, rfl⟩ := k.same
  exact ⟨h', t, rfl⟩

theorem ES.assignComp {y : Str} {py spos : Pos} {elt tg iter : Expr} {scope : Scope} {pos : Pos} {xs ys : List V} {cl : List (Str × Addr)} {fr : List (Str × V)} {Ψ} (hi : EI C σ tg iter xs) (hlen : ys.length = xs.length) (hsz : xs.length ≤ sizeLine) (ck : CompOk C σ scope cl fr iter)
    (turn : TurnC C scope cl fr tg elt xs ys) (hy : C.env.kindOf y = some .local) (hsw : swapsWith (.ListComp elt [⟨tg, iter, [], 0⟩] scope pos) (some (.Name y py)) spos.line C.env = pure true)
    (hΨ : Ψ .next { σ with ρ := put y (.list ys) σ.ρ }) : ES C s₀ σ (.Assign [.Name y py] (.ListComp elt [⟨tg, iter, [], 0⟩] scope pos) spos) Ψ := fun F A s ok S Q hQ => by
  rw [exec_Assign_Name_used _ _ _ _ hsw]
  refine wpAny_bind (wpAny_standAt (wpAny_bind ?_))
  show wpAny _ A (do let _ ← comprehension (.ListComp elt [⟨tg, iter, [], 0⟩] scope pos) scope C.env _ (newList []) false (eval iter C.env) (some (PySem.assign (.Name y py) C.env))) _ _ s
  refine wpAny_bind (wpAny_mono (comp_all (use := some (PySem.assign (.Name y py) C.env)) (Q := fun _ s' => Q .next s') hi hlen hsz ck.clos ck.kind ck.names ck.cn ck.cc ck.fr ck.hs turn ok S.vw fun D L s₅ vs k hD hL hDL hn hl hv => ?_) (fun _ s' hq => wpAny_pure (wpAny_pure hq)) fun _ _ e => e)
  obtain ⟨m, hn⟩ := hn
  obtain ⟨R, eR, S5, l5⟩ := S.iter k (wr := [L]) (List.nodup_cons.mpr ⟨(fun h => by cases h), List.nodup_nil⟩) (fun b hb => by rw [List.mem_singleton] at hb; exact hb ▸ hL) (fun b hb => by
    rw [List.mem_singleton] at hb
    obtain ⟨o, _, _, ho, _⟩ := hn
    exact ⟨o, hb ▸ ho⟩)
  have up : ∀ b o, Has (fun b => Hd C σ F b ∨ b = L) s₅.heap b o → Has (Hd C σ (R ++ F)) s₅.heap b o := fun b o x => ⟨x.1, fun q => x.2 (by
    rcases q with q | q | q
    · exact .inl (.inl q)
    · exact .inl (.inr (.inl q))
    · rw [own_base, List.map_append, eR] at q
      rcases List.mem_append.mp q with q | q
      · exact .inl (.inr (.inr (by rw [own_base]; exact List.mem_append_left _ q)))
      · rcases List.mem_append.mp q with q | q
        · rw [List.mem_singleton] at q; exact .inr q
        · exact .inl (.inr (.inr (by rw [own_base]; exact List.mem_append_right _ q))))⟩
  have r : VR (Has (Hd C σ (R ++ F)) s₅.heap) (.list ys) (.ref D) := by
    obtain ⟨n, ho⟩ := hl
    refine .list (up _ _ ⟨ho, fun q => ?_⟩) (hv.mono fun b o x => up b o ⟨x.1, fun q => x.2 (by
      rcases q with q | q
      · exact .inl q
      · exact .inr (.inl q))⟩)
    rcases q with q | q
    · obtain ⟨o, ho⟩ := S.vw.low D q
      rw [hD] at ho; cases ho
    · exact hDL q
  show wpAny _ A (PySem.assign (.Name y py) C.env (.ref D)) _ _ s₅
  refine wpAny_assign_Name (S5.store hy r fun s₆ S6 l6 => ?_)
  have rawL : ∀ o, s₅.heap.get? L = some o → s₆.heap.get? L = some o := fun o e => by
    obtain ⟨p, hp, q⟩ := List.mem_map.mp (show L ∈ R.map (·.1) by rw [eR]; exact .head _)
    have e1 := S5.vw.raws p (List.mem_append_left _ hp)
    have e2 := S6.vw.raws p (List.mem_append_left _ hp)
    rw [q] at e1 e2
    have : (some p.2 : Option Obj) = some o := e1.symm.trans e
    rw [← this]; exact e2
  refine ⟨m, hn.at' rawL, fun h' hs => ?_⟩
  obtain ⟨S7, l7⟩ := S6.leave (h' := h') (tk := s₆.toks) (Nat.le_refl _) (fun b o hb e => hs.extBut b o (fun q => hb (by rw [eR, q]; exact .head _)) e)
  exact hQ .next _ _ _ S7 ((l5.trans l6).trans l7) trivial hΨ

-- targets
noncomputable def TGs (C : Cx) (s₀ : Shared) : Sg → List Expr → List V → Sg → Prop
  | σ, [], [], σ₁ => σ₁ = σ
  | σ, e :: es, x :: xs, σ₁ => ∃ σ', TG C s₀ σ e x σ' ∧ TGs C s₀ σ' es xs σ₁
  | _, _, _, _ => False
theorem TGs.run {A : Around} {E : Value → Shared → Prop} (ok : AOk A C.d) : ∀ {es : List Expr} {xs : List V} {σ σ₁ : Sg} {vs : List Value} {s : Shared} {Q : Unit → Shared → Prop}, TGs C s₀ σ es xs σ₁ → Fw C s₀ σ F s → VRs (Has (Hd C σ F) s.heap) xs vs →
    (∀ s', Fw C s₀ σ₁ F s' → Le (Hd C σ F) (Hd C σ₁ F) s s' → Q () s') → wpAny (model PR C.w) A (assignInOrder (es.map fun e => assign e C.env) vs) Q E s
  | [], [], σ, σ₁, vs, s, Q, h, S, r, hQ => by
    cases r; subst h; exact wpAny_pure (hQ _ S (Le.refl _ _))
  | e :: es, x :: xs, σ, σ₁, vs, s, Q, ⟨σ', h1, h2⟩, S, r, hQ => by
    cases r with
    | cons r1 r2 =>
      show wpAny _ A (holding _ (assign e C.env _) >>= fun _ => assignInOrder _ _) _ _ s
      exact wpAny_bind (wpAny_holding (h1 F A E s _ ok S r1 _ fun s' S' l => TGs.run ok h2 S' (r2.mono l) fun s'' S'' l' => hQ _ S'' (l.trans l')))
  | [], _ :: _, _, _, _, _, _, h, _, _, _ => h.elim
  | _ :: _, [], _, _, _, _, _, h, _, _, _ => h.elim
theorem TGs.length : ∀ {es : List Expr} {xs : List V} {σ σ₁ : Sg}, TGs C s₀ σ es xs σ₁ → es.length = xs.length
  | [], [], _, _, _ => rfl
  | _ :: _, _ :: _, _, _, ⟨_, _, h⟩ => by simp [TGs.length h]
  | [], _ :: _, _, _, h => h.elim
  | _ :: _, [], _, _, h => h.elim

theorem TG.tup {es : List Expr} {k : Nat} {p : Pos} {xs : List V} {σ₁ : Sg} (h : TGs C s₀ σ es xs σ₁) (he : assignEach es C.env = es.map fun e => (false, assign e C.env)) : TG C s₀ σ (.Tuple es k p) (.tup xs) σ₁ := fun F A E s v ok S r Q hQ => by
  cases r with
  | tup ht hv =>
    rename_i t n vs
    have hlen : (assignEach es C.env).length = vs.toArray.size := by rw [he, List.length_map, h.length, List.size_toArray, hv.length]
    refine wpAny_assign_Tuple ok.hh (items := vs.toArray) ⟨_, ht.1, rfl, n, rfl⟩ hlen (by rw [he, List.findIdx?_eq_none_iff]; intro x hx; obtain ⟨e, _, rfl⟩ := List.mem_map.mp hx; rfl) fun h' ext => ?_
    have k : Kp s { s with heap := h' } := ⟨⟨h', s.toks, rfl⟩, fun b o e => ext b o (Nat.ne_of_lt (Heap.lt_size e)) e, Nat.le_refl _⟩
    rw [he, List.map_map]
    exact TGs.run ok h (S.keeps k) (hv.keeps k) fun s' S' l => hQ s' S' ((k.le _).trans l)

theorem ES.assignT {es k tp value pos v σ₁ Ψ} (h : EV C σ value v) (ht : TG C s₀ σ (.Tuple es k tp) v σ₁) (hs : swapsWithSole [.Tuple es k tp] value pos.line C.env = pure false) (hw : swappedStores [.Tuple es k tp] value C.env = pure none) (hΨ : Ψ .next σ₁) : ES C s₀ σ (.Assign [.Tuple es k tp] value pos) Ψ := fun F A s ok S Q hQ =>
  Assign_Tuple (h F A _ s ok S.vw _ fun v' s' k r => ht F A _ s' v' ok (S.keeps k) r _ fun s'' S'' l => hQ .next _ _ _ S'' ((k.le _).trans l) trivial hΨ) hs hw

theorem unpack_tup {A : Around} {E : Value → Shared → Prop} {w : World} {t : Addr} {vs : List Value} {n : Nat} {Q : List Value → Shared → Prop} {k : Nat} (hk : k = vs.length) (hh : A.handled = none) (ht : s.heap.get? t = some { cls := .type "tuple", data := .seq vs.toArray n }) (hQ : ∀ s', Kp s s' → Q vs s') :
    wpAny (model PR w) A (unpackItems (.ref t) k none) Q E s := by
  have h2 := wpAny_unpackItems_tuple (prog := PR) (w := w) (A := A) (E := E) (Q := Q) (items := vs.toArray) hh ⟨_, ht, rfl, n, rfl⟩ fun h' ext => by
    simpa using hQ { s with heap := h' } ⟨⟨h', s.toks, rfl⟩, fun b o e => ext b o (Nat.ne_of_lt (Heap.lt_size e)) e, Nat.le_refl _⟩
  rw [List.size_toArray, ← hk] at h2
  exact h2

/-- `x, y = (a, b)` of a display: the stores go backwards -/
theorem ES.swap2 {x y : Str} {p1 p2 : Pos} {k tp value pos a b Ψ} (h : EV C σ value (.tup [a, b])) (hx : C.env.kindOf x = some .local) (hy : C.env.kindOf y = some .local) (hs : swapsWithSole [.Tuple [.Name x p1, .Name y p2] k tp] value pos.line C.env = pure false)
    (hw : swappedStores [.Tuple [.Name x p1, .Name y p2] k tp] value C.env = pure (some [x, y])) (hΨ : Ψ .next { σ with ρ := put x a (put y b σ.ρ) }) : ES C s₀ σ (.Assign [.Tuple [.Name x p1, .Name y p2] k tp] value pos) Ψ := fun F A s ok S Q hQ => by
  refine Assign_Tuple_swapped (h F A _ s ok S.vw _ fun v' s' k r => ?_) hs hw
  cases r with
  | tup ht hv =>
    cases hv with
    | cons h1 h2 =>
      cases h2 with
      | cons h2 h3 =>
        cases h3
        refine unpack_tup rfl ok.hh ht.1 fun s₂ k₂ => ?_
        have S2 := (S.keeps k).keeps k₂
        show wpAny _ A (holding _ (bindName C.env y _) >>= fun _ => holding _ (bindName C.env x _) >>= fun _ => pure ()) _ _ s₂
        refine wpAny_bind (wpAny_holding (wpAny_bindName (S2.store hy (h2.keeps k₂) fun s₃ S3 l3 => wpAny_bind (wpAny_holding (wpAny_bindName (S3.store hx ((h1.keeps k₂).mono l3) fun s₄ S4 l4 => wpAny_pure ?_))))))
        exact hQ .next _ _ _ S4 ((((k.le _).trans (k₂.le _)).trans l3).trans l4) trivial hΨ

theorem ES.assign3 {x y z : Str} {p1 p2 p3 : Pos} {value pos v Ψ} (h : EV C σ value v) (hx : C.env.kindOf x = some .local) (hy : C.env.kindOf y = some .local) (hz : C.env.kindOf z = some .local) (hw : swappedStores [.Name x p1, .Name y p2, .Name z p3] value C.env = pure none)
    (hΨ : Ψ .next { σ with ρ := put z v (put y v (put x v σ.ρ)) }) : ES C s₀ σ (.Assign [.Name x p1, .Name y p2, .Name z p3] value pos) Ψ := fun F A s ok S Q hQ =>
  wpAny_Assign_three (h F A _ s ok S.vw _ fun v' s' k r => wpAny_assign_Name ((S.keeps k).store hx r fun s₂ S2 l2 => wpAny_assign_Name (S2.store hy (r.mono l2) fun s₃ S3 l3 => wpAny_assign_Name (S3.store hz ((r.mono l2).mono l3) fun s₄ S4 l4 =>
    hQ .next _ _ _ S4 ((((k.le _).trans l2).trans l3).trans l4) trivial hΨ)))) rfl hw

theorem ES.aug {x : Str} {p : Pos} {op value pos a b v Ψ} (hx : C.env.kindOf x = some .local) (ha : σ.ρ.lookup x = some a) (h : EV C σ value b) (o : OP2 C.w C.d (inplaceOp op) a b v) (hΨ : Ψ .next { σ with ρ := put x v σ.ρ }) : ES C s₀ σ (.AugAssign (.Name x p) op value pos) Ψ := fun F A s ok S Q hQ => by
  obtain ⟨m, hn, hm⟩ := S.vw.ns
  obtain ⟨a', e, ra⟩ := hm x a ha
  refine wpAny_AugAssign_Name (wpAny_loadName_local S.vw.fn hx hn e (h F A _ s ok S.vw _ fun v' s' k r => o A _ s' (Hd C σ F) _ _ ok (S.keeps k).vw.top (S.keeps k).vw.toks (S.keeps k).vw.low (ra.keeps k) r _ fun u s'' k' r' =>
    ((S.keeps k).keeps k').store hx r' fun s₃ S3 l3 => hQ .next _ _ _ S3 (((k.le _).trans (k'.le _)).trans l3) trivial hΨ))

-- own lists
theorem Fw.addO (S : Fw C s₀ σ F s) {s' : Shared} (k : Kp s s') {a : Addr} (hn : s.heap.get? a = none) {vs : List Value} {xs : List V} (hl : s'.heap.PlainList a vs.toArray) (hv : VRs (Has (fun b => Hd C σ F b ∨ b = a) s'.heap) xs vs) :
    Fw C s₀ { σ with O := (a, xs) :: σ.O } F s' ∧ Le (Hd C σ F) (Hd C { σ with O := (a, xs) :: σ.O } F) s s' := by
  have S' := S.keeps k
  have mem : ∀ b, b ∈ own { σ with O := (a, xs) :: σ.O } F ↔ b = a ∨ b ∈ own σ F := fun b => by
    unfold own
    simp only [List.mem_append, List.map_cons, List.mem_cons]
    constructor
    · rintro (((h | h | h) | h) | h)
      · exact .inr (.inl (.inl (.inl h)))
      · exact .inl h
      · exact .inr (.inl (.inl (.inr h)))
      · exact .inr (.inl (.inr h))
      · exact .inr (.inr h)
    · rintro (h | ((h | h) | h) | h)
      · exact .inl (.inl (.inr (.inl h)))
      · exact .inl (.inl (.inl h))
      · exact .inl (.inl (.inr (.inr h)))
      · exact .inl (.inr h)
      · exact .inr h
  have hdm : ∀ b, Hd C { σ with O := (a, xs) :: σ.O } F b → b = a ∨ Hd C σ F b := fun b q => by
    rcases q with q | q | q
    · exact .inr (.inl q)
    · exact .inr (.inr (.inl q))
    · rcases (mem b).mp q with q | q
      · exact .inl q
      · exact .inr (.inr (.inr q))
  have low := S.vw.low
  have ha : ∀ b, Hd C σ F b → b ≠ a := fun b q e => by
    obtain ⟨o, ho⟩ := low b q
    rw [e, hn] at ho; cases ho
  have up : ∀ b o, Has (fun b => Hd C σ F b ∨ b = a) s'.heap b o → Has (Hd C { σ with O := (a, xs) :: σ.O } F) s'.heap b o := fun b o x => ⟨x.1, fun q => by
    rcases hdm b q with q | q
    · exact x.2 (.inr q)
    · exact x.2 (.inl q)⟩
  have upS : Le (Hd C σ F) (Hd C { σ with O := (a, xs) :: σ.O } F) s s' := fun b o x => ⟨k.ext _ _ x.1, fun q => by
    rcases hdm b q with q | q
    · have := x.1; rw [q, hn] at this; cases this
    · exact x.2 q⟩
  have new' : ∀ b, b ∈ C.env.locals :: own { σ with O := (a, xs) :: σ.O } F → s₀.heap.get? b = none := fun b hb => by
    rcases List.mem_cons.mp hb with h | h
    · exact S.new b (h ▸ .head _)
    · rcases (mem b).mp h with h | h
      · cases q : s₀.heap.get? b with
        | none => rfl
        | some o => have := S.ext _ _ q; rw [h, hn] at this; cases this
      · exact S.new b (.tail _ h)
  have nd' : (C.env.locals :: own { σ with O := (a, xs) :: σ.O } F).Nodup := by
    have : (C.env.locals :: own { σ with O := (a, xs) :: σ.O } F).Perm (a :: C.env.locals :: own σ F) := by
      refine (List.Perm.cons _ ?_).trans (List.Perm.swap _ _ _)
      unfold own
      simp only [List.map_cons, List.append_assoc]
      exact List.perm_middle
    refine this.nodup_iff.mpr (List.nodup_cons.mpr ⟨fun h => ?_, S.nd⟩)
    exact ha a (S.hid h) rfl
  refine ⟨⟨⟨S'.vw.top, S'.vw.tk, S'.vw.fn, S'.vw.glob, S'.vw.blt, ?_, fun y d w hy => ?_, fun p hp => ?_, fun p hp => ?_, S'.vw.raws, fun b hb => ?_, nd', apartOf S.out new', freeOf S.frs S'.ext new'⟩, S'.same, S'.ext, S.top0, new', nd', S.out, S'.cls, S'.tk0, S.frs⟩, upS⟩
  · obtain ⟨m, hn, hv⟩ := S.vw.ns
    exact ⟨m, hn.keeps k.ext, fun y w hy => let ⟨w', p, b⟩ := hv y w hy; ⟨w', p, b.mono upS⟩⟩
  · obtain ⟨p, w', q, b⟩ := S.vw.cells y d w hy
    exact ⟨p, w', q.keeps k.ext, b.mono upS⟩
  · rcases List.mem_cons.mp hp with rfl | hp
    · exact ⟨vs, hl, hv.mono up⟩
    · obtain ⟨us, q, b⟩ := S.vw.lists p hp
      exact ⟨us, q.at fun o e => k.ext _ _ e, b.mono upS⟩
  · obtain ⟨p, es, n, q, b⟩ := S.vw.objs p hp
    exact ⟨k.ext _ _ p, es, n, k.ext _ _ q, b.mono upS⟩
  · rcases hdm b hb with h | h
    · obtain ⟨n, ho⟩ := hl; exact ⟨_, h ▸ ho⟩
    · exact S'.vw.low b h

end
end Mine

namespace Mine
open PySem PySem.Spec PySem.Calls PyProof.Rows PySem.W

noncomputable def Flat : V → Prop
  | .none | .bool _ | .int _ | .str _ | .strT _ _ _ | .val _ | .mr _ => True
  | _ => False
theorem VR.flat {W W' : Addr → Obj → Prop} {x : V} {v : Value} (hf : Flat x) (r : VR W x v) : VR W' x v := by
  cases r <;> first | exact hf.elim | (constructor <;> assumption) | constructor
noncomputable def Flats : List V → Prop
  | [] => True
  | x :: xs => Flat x ∧ Flats xs
theorem VRs.flat {W W' : Addr → Obj → Prop} : ∀ {xs : List V} {vs : List Value}, Flats xs → VRs W xs vs → VRs W' xs vs
  | [], [], _, .nil => .nil
  | _ :: _, _ :: _, h, .cons r t => .cons (r.flat h.1) (VRs.flat h.2 t)
theorem Flats.of : ∀ {xs : List V}, (∀ x ∈ xs, Flat x) → Flats xs
  | [], _ => trivial
  | x :: xs, h => (⟨h x (.head _), Flats.of fun y hy => h y (.tail _ hy)⟩ : Flat x ∧ Flats xs)
theorem perm_erase {α : Type} : ∀ {l : List α} {i : Nat} {x : α}, l[i]? = some x → l.Perm (x :: l.eraseIdx i)
  | [], _, _, h => by simp at h
  | y :: l, 0, x, h => by simp at h; subst h; exact List.Perm.refl _
  | y :: l, i + 1, x, h => by
    rw [List.eraseIdx_cons_succ]
    exact ((perm_erase (l := l) (i := i) (by simpa using h)).cons y).trans (List.Perm.swap _ _ _)

section
variable {C : Cx} {s₀ : Shared} {σ : Sg} {F : List (Addr × Obj)} {s : Shared}

noncomputable def frozen (σ : Sg) (i : Nat) (x : Str) (xs : List V) : Sg := { σ with O := σ.O.eraseIdx i, ρ := put x (.list xs) σ.ρ }
theorem own_frozen {i : Nat} {x : Str} {a : Addr} {xs : List V} (hi : σ.O[i]? = some (a, xs)) : (own σ F).Perm (a :: own (frozen σ i x xs) F) := by
  have h1 : σ.O.Perm ((a, xs) :: σ.O.eraseIdx i) := perm_erase hi
  have h2 : (σ.O.map (·.1)).Perm (a :: (σ.O.eraseIdx i).map (·.1)) := by simpa using h1.map (·.1)
  show (σ.cl.map (·.2.1) ++ σ.O.map (·.1) ++ σ.D.flatMap (fun p => [p.1, p.2.1]) ++ F.map (·.1)).Perm (a :: (σ.cl.map (·.2.1) ++ (σ.O.eraseIdx i).map (·.1) ++ σ.D.flatMap (fun p => [p.1, p.2.1]) ++ F.map (·.1)))
  have h3 := (h2.append_left (σ.cl.map (·.2.1))).trans List.perm_middle
  exact ((h3.append_right (σ.D.flatMap fun p => [p.1, p.2.1])).append_right (F.map (·.1)))
theorem hd_frozen {i : Nat} {x : Str} {a : Addr} {xs : List V} (hi : σ.O[i]? = some (a, xs)) {b : Addr} (h : Hd C (frozen σ i x xs) F b) : Hd C σ F b := by
  rcases h with h | h | h
  · exact .inl h
  · exact .inr (.inl h)
  · exact .inr (.inr ((own_frozen hi).mem_iff.mpr (.tail _ h)))
theorem le_frozen {i : Nat} {x : Str} {a : Addr} {xs : List V} (hi : σ.O[i]? = some (a, xs)) : Le (Hd C σ F) (Hd C (frozen σ i x xs) F) s s := fun b o q => ⟨q.1, fun z => q.2 (hd_frozen hi z)⟩
theorem Vw.freeze (S : Vw C σ F s) {i : Nat} {x : Str} {a : Addr} {xs : List V} (hi : σ.O[i]? = some (a, xs)) (hx : σ.ρ.lookup x = some (.mr a)) : Vw C (frozen σ i x xs) F s := by
  have pm := own_frozen (F := F) (x := x) hi
  have nd : (C.env.locals :: a :: own (frozen σ i x xs) F).Nodup := ((pm.cons _).nodup_iff).mp S.nd
  have nd1 := List.nodup_cons.mp nd
  have nd2 := List.nodup_cons.mp nd1.2
  have le : Le (Hd C σ F) (Hd C (frozen σ i x xs) F) s s := le_frozen hi
  have hm := List.mem_of_getElem? hi
  have inA : a ∈ own σ F := mem_O (p := (a, xs)) hm
  have na : ¬ Hd C (frozen σ i x xs) F a := fun q => by
    rcases q with q | q | q
    · exact S.apart a (.tail _ inA) q
    · exact nd1.1 (q ▸ .head _)
    · exact nd2.1 q
  have sub : ∀ b, b ∈ C.env.locals :: own (frozen σ i x xs) F → b ∈ C.env.locals :: own σ F := fun b hb => by
    rcases List.mem_cons.mp hb with h | h
    · exact h ▸ .head _
    · exact .tail _ (pm.mem_iff.mpr (.tail _ h))
  refine ⟨S.top, S.tk, S.fn, S.glob, S.blt, ?_, fun y d w hy => ?_, fun p hp => ?_, fun p hp => ?_, S.raws, fun b hb => S.low b (hd_frozen hi hb), ?_, fun b hb => S.apart b (sub b hb), fun y w hy => ?_⟩
  · obtain ⟨m, hn, hv⟩ := S.ns
    refine ⟨m, hn, fun y w hy => ?_⟩
    have hy' : (put x (.list xs) σ.ρ).lookup y = some w := hy
    rw [put_lookup] at hy'
    by_cases e : (y == x) = true
    · rw [if_pos e] at hy'
      cases hy'
      obtain ⟨v', h1, h2⟩ := hv x _ hx
      cases h2
      rw [eq_of_beq e]
      obtain ⟨vs, ⟨n, ho⟩, r⟩ := S.lists (a, xs) hm
      exact ⟨_, h1, .list ⟨ho, na⟩ (r.mono le)⟩
    · rw [if_neg e] at hy'
      obtain ⟨v', h1, h2⟩ := hv y w hy'
      exact ⟨v', h1, h2.mono le⟩
  · obtain ⟨p, w', q, b⟩ := S.cells y d w hy; exact ⟨p, w', q, b.mono le⟩
  · obtain ⟨vs, q, b⟩ := S.lists p (List.mem_of_mem_eraseIdx hp); exact ⟨vs, q, b.mono le⟩
  · obtain ⟨p, es, n, q, b⟩ := S.objs p hp; exact ⟨p, es, n, q, b.mono le⟩
  · exact List.nodup_cons.mpr ⟨fun h => nd1.1 (.tail _ h), nd2.2⟩
  · obtain ⟨c, v', p, q, b⟩ := S.free y w hy; exact ⟨c, v', p, q, b.mono le⟩
theorem Fw.freeze (S : Fw C s₀ σ F s) {i : Nat} {x : Str} {a : Addr} {xs : List V} (hi : σ.O[i]? = some (a, xs)) (hx : σ.ρ.lookup x = some (.mr a)) : Fw C s₀ (frozen σ i x xs) F s := by
  have V := S.vw.freeze hi hx
  refine ⟨V, S.same, S.ext, S.top0, fun b hb => ?_, V.nd, S.out, S.cls, S.tk0, S.frs⟩
  rcases List.mem_cons.mp hb with h | h
  · exact S.new b (h ▸ .head _)
  · exact S.new b (.tail _ ((own_frozen hi).mem_iff.mpr (.tail _ h)))
theorem EX.freeze {ss Ψ} (i : Nat) (x : Str) {a : Addr} {xs : List V} (hi : σ.O[i]? = some (a, xs)) (hx : σ.ρ.lookup x = some (.mr a)) (h : EX C s₀ (frozen σ i x xs) ss Ψ) : EX C s₀ σ ss Ψ := fun F A s ok S Q hQ =>
  h F A s ok (S.freeze hi hx) Q fun fl σ' f s' S' l R p => hQ fl σ' f s' S' ((le_frozen hi).trans l) R p
theorem EV.seen {e v} (i : Nat) (x : Str) {a : Addr} {xs : List V} (hi : σ.O[i]? = some (a, xs)) (hx : σ.ρ.lookup x = some (.mr a)) (hf : Flat v) (h : EV C (frozen σ i x xs) e v) : EV C σ e v := fun F A E s ok S Q hQ =>
  h F A E s ok (S.freeze hi hx) Q fun v' s' k r => hQ v' s' k (r.flat hf)
theorem EB.seen {e b} (i : Nat) (x : Str) {a : Addr} {xs : List V} (hi : σ.O[i]? = some (a, xs)) (hx : σ.ρ.lookup x = some (.mr a)) (h : EB C (frozen σ i x xs) e b) : EB C σ e b := fun F A E s ok S Q hQ =>
  h F A E s ok (S.freeze hi hx) Q hQ
theorem EN.seen {e ys} (i : Nat) (x : Str) {a : Addr} {xs : List V} (hi : σ.O[i]? = some (a, xs)) (hx : σ.ρ.lookup x = some (.mr a)) (hf : Flats ys) (h : EN C (frozen σ i x xs) e ys) : EN C σ e ys := fun F A E s ok S Q hQ =>
  h F A E s ok (S.freeze hi hx) Q fun a s' vs k hn hl r => hQ a s' vs k hn hl (r.flat hf)

theorem ES.assignNew {x p e pos xs Ψ} (h : EN C σ e xs) (hx : C.env.kindOf x = some .local) (hs : swapsWith e (some (.Name x p)) pos.line C.env = pure false) (hΨ : ∀ a, Ψ .next { σ with ρ := put x (.mr a) σ.ρ, O := (a, xs) :: σ.O }) : ES C s₀ σ (.Assign [.Name x p] e pos) Ψ := fun F A s ok S Q hQ =>
  wpAny_Assign_Name (h F A _ s ok S.vw _ fun a s' vs k hn hl hv => by
    obtain ⟨S', l'⟩ := S.addO k hn hl hv
    exact S'.store hx (.mr a) fun s'' S'' l => hQ .next _ _ _ S'' (l'.trans l) trivial (hΨ a)) hs

/-- a new list of one's own in the place of an own list -/
theorem Sub.dropO {i : Nat} : ∀ {x : V}, True := trivial

theorem pushUp {H : Addr → Prop} {o : Obj} : ∀ b ob, Has H s.heap b ob → Has (fun b => H b ∨ b = s.heap.objs.size) (s.heap.push o) b ob := fun b ob x => ⟨Heap.get?_push_of_some o x.1, fun q => by
  rcases q with q | q
  · exact x.2 q
  · have := Heap.lt_size x.1
    rw [q] at this; exact Nat.lt_irrefl _ this⟩
theorem pushUp' {H : Addr → Prop} {o : Obj} : ∀ b ob, Has H s.heap b ob → Has H (s.heap.push o) b ob := fun b ob x => ⟨Heap.get?_push_of_some o x.1, x.2⟩
theorem freshOut {H : Addr → Prop} (low : ∀ a, H a → ∃ o, s.heap.get? a = some o) : ¬ H s.heap.objs.size := fun q => by
  obtain ⟨o, ho⟩ := low _ q
  rw [none_size] at ho; cases ho

theorem EN.list {es pos vs} (h : EVs C σ es vs) (hsz : vs.length ≤ sizeLine) : EN C σ (.List es pos) vs := fun F A E s ok S Q hQ =>
  wpAny_List_spliced (h F A E s pos ok S _ fun v' s' k r => ⟨by rw [r.length]; exact hsz, hQ _ _ v' (k.trans (Kp.push _)) (k.fresh (none_size _)) ⟨0, Heap.get?_push_size _ rfl⟩ (r.mono pushUp)⟩)
theorem EV.tuple {es x1 pos vs} (h : EVs C σ es vs) (hsz : vs.length ≤ sizeLine) : EV C σ (.Tuple es x1 pos) (.tup vs) := fun F A E s ok S Q hQ =>
  wpAny_Tuple_spliced (h F A E s pos ok S _ fun v' s' k r => ⟨by rw [r.length]; exact hsz, hQ _ _ (k.trans (Kp.push _)) (.tup (n := 0) ⟨Heap.get?_push_size _ rfl, freshOut (S.keeps k).low⟩ (r.mono pushUp'))⟩)

theorem EN.addL {l r pos xs ys} (hl : EV C σ l (.list xs)) (hr : EV C σ r (.list ys)) (hsz : xs.length + ys.length ≤ sizeLine) : EN C σ (.BinOp l .Add r pos) (xs ++ ys) := fun F A E s ok S Q hQ =>
  wpAny_BinOp (hl F A E s ok S _ fun x s₁ k₁ h₁ => hr F A E s₁ ok (S.keeps k₁) _ fun y s₂ k₂ h₂ => by
    replace h₁ := h₁.keeps k₂
    cases h₁ with
    | list a1 b1 =>
      cases h₂ with
      | list a2 b2 =>
        rename_i v1 _ _ v2
        refine P.add_list a1.1 a2.1 (hQ _ _ (v1 ++ v2) ((k₁.trans k₂).trans (Kp.push _)) ((k₁.trans k₂).fresh (none_size _)) ⟨0, ?_⟩ ((b1.append b2).mono pushUp)) (by simp only [List.size_toArray, b1.length, b2.length]; exact hsz)
        rw [List.append_toArray]
        exact Heap.get?_push_size _ rfl)

theorem EN.mulL {l r pos} {x : V} {n : Int} (hl : EV C σ l (.list [x])) (hr : EV C σ r (.int n)) (hn : n < 2 ^ 20) (hn0 : 0 ≤ n) : EN C σ (.BinOp l .Mult r pos) (List.replicate n.toNat x) := fun F A E s ok S Q hQ =>
  wpAny_BinOp (hl F A E s ok S _ fun v s₁ k₁ h₁ => hr F A E s₁ ok (S.keeps k₁) _ fun y s₂ k₂ h₂ => by
    replace h₁ := h₁.keeps k₂
    cases h₁ with
    | list a1 b1 =>
      cases b1 with
      | cons b1 b0 =>
        cases b0
        rename_i v1
        cases h₂
        rename_i t
        refine wpAny_binaryOp_repeat_ref (T := "list") (U := "int") (by decide) ⟨_, a1.1, rfl⟩ (fun s' => typeIs_int s' _ _) noFill_list_mul PySem.F.fills_int_mul PySem.F.slot_int_rmul repeat_list PySem.F.slot_int_index.lookup
          (call_meets PySem.F.slot_int_rmul (typeIs_int s₂ _ _) PySem.F.entry_int_rmul (PySem.F.args_int_rmul_2 _ _) (int___rmul___int_list _ _ _ _ _)
            ⟨a1.1, rfl, ⟨_, a1.1, rfl⟩, call_meets PySem.F.slot_list_mul ⟨_, a1.1, rfl⟩ PySem.F.entry_list_mul (PySem.F.args_list_mul_2 _ _)
              (AutoListH.list___mul___list_int_3 _ [v1].toArray _ n t (by simp [Builtin.List.listFitsIndex]; omega) (by simp; omega) (by simp [Builtin.List.listTooLong, sizeLine]; omega))
              ⟨a1.1, hQ _ _ (List.replicate n.toNat v1) ((k₁.trans k₂).trans (Kp.push _)) ((k₁.trans k₂).fresh (none_size _)) ⟨0, ?_⟩ ?_⟩⟩)
        · have e : List.foldl (fun x1 x2 => x1 ++ x2) #[] (List.replicate (if [v1].toArray.isEmpty = true then 0 else n.toNat) [v1].toArray) = (List.replicate n.toNat v1).toArray := by
            have key : ∀ (k : Nat) (acc : Array Value), List.foldl (fun x1 x2 => x1 ++ x2) acc (List.replicate k [v1].toArray) = acc ++ (List.replicate k v1).toArray := by
              intro k
              induction k with
              | zero => intro acc; simp
              | succ k ih => intro acc; rw [List.replicate_succ, List.foldl_cons, ih, List.replicate_succ]; apply Array.ext'; simp
            rw [if_neg (by simp), key]; simp
          rw [← e]
          exact Heap.get?_push_size _ rfl
        · have : ∀ k : Nat, VRs (Has (Hd C σ F) s₂.heap) (List.replicate k x) (List.replicate k v1) := by
            intro k
            induction k with
            | zero => exact .nil
            | succ k ih => exact .cons b1 ih
          exact (this _).mono pushUp)

theorem ES.append {x p ap cp pos e} {a : Addr} {i : Nat} {xs : List V} {v : V} {Ψ} (hx : C.env.kindOf x = some .local) (hd : (x == ("__debug__" : Str)) = false) (hv : σ.ρ.lookup x = some (.mr a)) (hi : σ.O[i]? = some (a, xs)) (hsz : xs.length ≤ sizeLine) (h : EV C σ e v)
    (hline : (ap.endLine == cp.line) = true) (he : starEach [e] C.env = [(false, eval e C.env)]) (hbase : attributeBase (.Name x p) "append" C.env (eval (.Name x p) C.env) = eval (.Name x p) C.env) (hin : interactive C.env = false)
    (hsw : swapsWith (.Call (.Attribute (.Name x p) "append" ap) [e] [] cp) none pos.line C.env = pure false)
    (hΨ : Ψ .next { σ with O := σ.O.set i (a, xs ++ [v]) }) : ES C s₀ σ (.Expr (.Call (.Attribute (.Name x p) "append" ap) [e] [] cp) pos) Ψ := fun F A s ok S Q hQ => by
  have hm := List.mem_of_getElem? hi
  refine wpAny_Expr (wpAny_Call_method (T := "list") (id := "list.append") hbase (by rw [he]; rfl) hline PySem.F.plainAttrs_list PySem.F.slot_list_append PySem.F.type_list_append ?_) hin hsw
  refine EV.name (C := C) (σ := σ) (pos := p) hv hx hd F A _ s ok S.vw _ fun v' s' k r => ?_
  cases r
  have S' := S.keeps k
  obtain ⟨vs, ⟨n, ho⟩, rv⟩ := S'.vw.lists (a, xs) hm
  refine ⟨⟨_, ho, rfl⟩, fun b hb => by cases hb; exact ⟨_, ho, rfl⟩, PyProof.Rows.callWith_method1 (args_cons (h F A _ s' ok S'.vw _ fun v₂ s₂ k₂ r₂ => args_nil ?_) he) he rfl⟩
  have S2 := S'.keeps k₂
  have ho2 := k₂.ext _ _ ho
  refine wpAny_list_append_plain (hsz := by rw [List.size_toArray, rv.length]; exact hsz) ⟨n, ho2⟩ fun h₃ hl₃ hs₃ => ?_
  have mono := hidMono (C := C) (σ := σ) (F := F) (a := a) (.inr (.inr (mem_O (p := (a, xs)) hm))) hs₃
  have S3 := S2.setO (xs' := xs ++ [v]) hi hs₃ (Nat.le_refl _) (vs := vs ++ [v₂]) (by simpa using hl₃) (((rv.keeps k₂).mono mono).append (.cons (r₂.mono mono) .nil))
  refine hQ .next _ _ _ S3 ?_ trivial hΨ
  refine (((k.le _).trans (k₂.le _)).trans fun b o x => ?_)
  have z := mono b o x
  have e1 : Hd C { σ with O := σ.O.set i (a, xs ++ [v]) } F = Hd C σ F := by funext b; unfold Hd; rw [set_O_own hi]
  rw [e1]; exact z

theorem ES.setItem {x p ix sp pos e} {a : Addr} {i : Nat} {xs : List V} {k : Int} {v : V} {Ψ} (hx : C.env.kindOf x = some .local) (hd : (x == ("__debug__" : Str)) = false) (hv : σ.ρ.lookup x = some (.mr a)) (hi : σ.O[i]? = some (a, xs)) (h : EV C σ e v) (hk : EV C σ ix (.int k)) (h0 : 0 ≤ k) (hlt : k < xs.length) (hfit : k < 2 ^ 63)
    (hsw : swapsWith e (some (.Subscript (.Name x p) ix sp)) pos.line C.env = pure false)
    (hΨ : Ψ .next { σ with O := σ.O.set i (a, xs.set k.toNat v) }) : ES C s₀ σ (.Assign [.Subscript (.Name x p) ix sp] e pos) Ψ := fun F A s ok S Q hQ => by
  have hm := List.mem_of_getElem? hi
  refine wpAny_Assign_Subscript (h F A _ s ok S.vw _ fun v₁ s₁ k₁ r₁ => EV.name (C := C) (σ := σ) (pos := p) hv hx hd F A _ s₁ ok (S.keeps k₁).vw _ fun v₂ s₂ k₂ r₂ => hk F A _ s₂ ok ((S.keeps k₁).keeps k₂).vw _ fun v₃ s₃ k₃ r₃ => ?_) hsw
  cases r₂; cases r₃
  have S3 := ((S.keeps k₁).keeps k₂).keeps k₃
  obtain ⟨vs, hl, rv⟩ := S3.vw.lists (a, xs) hm
  refine setItem_plain hl h0 hfit (by rw [List.size_toArray, rv.length]; exact hlt) fun h' hl' hs' => ?_
  have mono := hidMono (C := C) (σ := σ) (F := F) (a := a) (.inr (.inr (mem_O (p := (a, xs)) hm))) hs'
  have S4 := S3.setO (xs' := xs.set k.toNat v) hi hs' (Nat.le_refl _) (vs := vs.set k.toNat v₁) (by simpa using hl') (VRs.set _ (rv.mono mono) (((r₁.keeps k₂).keeps k₃).mono mono))
  refine hQ .next _ _ _ S4 ?_ trivial hΨ
  refine ((((k₁.le _).trans (k₂.le _)).trans (k₃.le _)).trans fun b o x => ?_)
  have z := mono b o x
  have e1 : Hd C { σ with O := σ.O.set i (a, xs.set k.toNat v) } F = Hd C σ F := by funext b; unfold Hd; rw [set_O_own hi]
  rw [e1]; exact z

-- subscripts
theorem eval_item {A : Around} {E : Value → Shared → Prop} {w : World} {env : Env} {value slice : Expr} {pos : Pos} {Q : Value → Shared → Prop} (hsl : ∀ o i, ∃ ops, subscripted slice false o i = operate ops (getItem o i))
    (h : wpAny (model PR w) A (eval value env) (fun o s₁ => wpAny (model PR w) A (eval slice env) (fun i s₂ => SubscriptOn (model PR w) A o i Q E s₂) E s₁) E s) : wpAny (model PR w) A (eval (.Subscript value slice pos) env) Q E s := by
  rw [eval_Subscript]
  refine wpAny_bind (wpAny_mono h (fun o s₁ h₁ => wpAny_bind (wpAny_holding (wpAny_mono h₁ (fun i s₂ h₂ => wpAny_bind (wpAny_standAt ?_)) fun _ _ x => x))) fun _ _ x => x)
  obtain ⟨T, id, hl, hT, hg⟩ := h₂
  refine wpAny_bind ?_
  rw [getitemInPython_of_ne hT.not_modules]
  refine wpAny_bind (wpAny_specialOf hT hl ?_)
  refine wpAny_pure (wpAny_bind ?_)
  obtain ⟨ops, e⟩ := hsl o i
  rw [e]
  exact wpAny_operating (wpAny_mono hg (fun r s₃ h₃ => wpAny_bind (wpAny_letTemporaryGo (wpAny_pure h₃))) fun _ _ x => x)
theorem EV.item {value slice pos xs} {k : Int} {v : V} (hsl : ∀ o i, ∃ ops, subscripted slice false o i = operate ops (getItem o i)) (hv : EV C σ value (.list xs)) (hk : EV C σ slice (.int k)) (h0 : 0 ≤ k) (hfit : k < 2 ^ 63) (hx : xs[k.toNat]? = some v) : EV C σ (.Subscript value slice pos) v := fun F A E s ok S Q hQ =>
  eval_item hsl (hv F A E s ok S _ fun v₁ s₁ k₁ r₁ => hk F A E s₁ ok (S.keeps k₁) _ fun v₂ s₂ k₂ r₂ => by
    replace r₁ := r₁.keeps k₂
    cases r₁ with
    | list a1 b1 =>
      rename_i vs
      cases r₂
      obtain ⟨u, hu, ru⟩ := b1.get hx
      have hL : s₂.heap.IsList _ vs.toArray := ⟨_, a1.1, rfl, _, rfl⟩
      exact ⟨"list", _, list_getitem_lookup, hL.typeIs, wpAny_getItem_list hL h0 hfit (by simpa using hu) (hQ _ _ (k₁.trans k₂) ru)⟩)
theorem EV.itemT {value slice pos xs} {k : Int} {v : V} (hsl : ∀ o i, ∃ ops, subscripted slice false o i = operate ops (getItem o i)) (hv : EV C σ value (.tup xs)) (hk : EV C σ slice (.int k)) (h0 : 0 ≤ k) (hfit : k < 2 ^ 63) (hx : xs[k.toNat]? = some v) : EV C σ (.Subscript value slice pos) v := fun F A E s ok S Q hQ =>
  eval_item hsl (hv F A E s ok S _ fun v₁ s₁ k₁ r₁ => hk F A E s₁ ok (S.keeps k₁) _ fun v₂ s₂ k₂ r₂ => by
    replace r₁ := r₁.keeps k₂
    cases r₁ with
    | tup a1 b1 =>
      rename_i vs
      cases r₂
      obtain ⟨u, hu, ru⟩ := b1.get hx
      have hT : IsTup s₂.heap _ vs.toArray := ⟨_, a1.1, rfl, _, rfl⟩
      have hlt : k.toNat < vs.length := (List.getElem?_eq_some_iff.mp hu).1
      refine ⟨"tuple", _, PyProof.Rows.slot_tuple_getitem.lookup, hT.typeIs, getItem_tuple hT (by omega) hfit (j := k.toNat) ?_ (by simpa using hu) (hQ _ _ (k₁.trans k₂) ru)⟩
      unfold seqIndex?
      have e : (if k < 0 then k + ((vs.toArray.size : Nat) : Int) else k) = k := if_neg (by omega)
      simp only [e]
      rw [if_pos (by simp only [List.size_toArray, Bool.and_eq_true, decide_eq_true_eq]; omega)])
end
end Mine

namespace Mine
open PySem PySem.Spec PySem.Calls PyProof.Rows PySem.W

theorem EV.cast {C : Cx} {σ : Sg} {e v v'} (h : EV C σ e v) (q : v = v') : EV C σ e v' := q ▸ h
theorem upTo_get {a : Int} {n i : Nat} {x : V} (h : (upTo a n)[i]? = some x) : i < n ∧ x = .int (a + i) := by
  unfold upTo at h
  rw [List.getElem?_map] at h
  obtain ⟨j, hj, rfl⟩ := Option.map_eq_some_iff.mp h
  obtain ⟨h1, h2⟩ := List.getElem?_eq_some_iff.mp hj
  simp at h1 h2
  exact ⟨h1, by rw [h2]⟩
theorem upTo_len (a : Int) (n : Nat) : (upTo a n).length = n := by unfold upTo; simp
theorem signs_get {x : Str} {i : Nat} {v : V} (h : (signs x)[i]? = some v) : ∃ c, x.cps.toList[i]? = some c ∧ v = .str ⟨#[c]⟩ := by
  unfold signs at h
  rw [List.getElem?_map] at h
  obtain ⟨c, hc, rfl⟩ := Option.map_eq_some_iff.mp h
  exact ⟨c, hc, rfl⟩
theorem signs_len (x : Str) : (signs x).length = x.cps.toList.length := by unfold signs; simp
theorem one_beq (c d : Nat) : ((⟨#[c]⟩ : Str) == (⟨#[d]⟩ : Str)) = (c == d) := by
  by_cases h : c = d
  · subst h; simp
  · have h1 : (c == d) = false := by simpa using h
    rw [h1]
    cases q : ((⟨#[c]⟩ : Str) == (⟨#[d]⟩ : Str)) with
    | false => rfl
    | true =>
      exfalso; apply h
      have := eq_of_beq q
      simpa using this
theorem foldl_take {α β : Type} (f : β → α → β) (b : β) (l : List α) {i : Nat} {x : α} (h : l[i]? = some x) : (l.take (i + 1)).foldl f b = f ((l.take i).foldl f b) x := by
  rw [List.take_add_one, h, List.foldl_append]; rfl
theorem map_take {α β : Type} (f : α → β) (l : List α) {i : Nat} {x : α} (h : l[i]? = some x) : (l.take (i + 1)).map f = (l.take i).map f ++ [f x] := by
  rw [List.take_add_one, h, List.map_append]; rfl
theorem Turn.to {Inv : Nat → Sg → Prop} {i : Nat} {Ψ : Fl → Sg → Prop} {σ σ₁ : Sg} (h : Inv i σ₁) (hρ : RhoSub σ₁.ρ σ.ρ) (hcl : ClSub σ₁.cl σ.cl) (hO : σ₁.O = σ.O) (hD : σ₁.D = σ.D) : Turn Inv i Ψ .next σ := ⟨σ₁, ⟨RhoSub.look hρ, hcl, hO, hD⟩, h⟩
theorem Sub.to {σ₁ σ : Sg} (hρ : RhoSub σ₁.ρ σ.ρ) (hcl : ClSub σ₁.cl σ.cl) (hO : σ₁.O = σ.O) (hD : σ₁.D = σ.D) : Sub σ₁ σ := ⟨RhoSub.look hρ, hcl, hO, hD⟩
theorem EV.seenI {C : Cx} {σ : Sg} {e} {n : Int} (i : Nat) (x : Str) {a : Addr} {xs : List V} (hi : σ.O[i]? = some (a, xs)) (hx : σ.ρ.lookup x = some (.mr a)) (h : EV C (frozen σ i x xs) e (.int n)) : EV C σ e (.int n) := EV.seen i x hi hx trivial h
theorem ES.then {C : Cx} {s₀ : Shared} {σ : Sg} {st rest Ψ} (Ψ' : Fl → Sg → Prop) (h : ES C s₀ σ st Ψ') (h1 : ∀ fl σ', Ψ' fl σ' → Then C s₀ rest Ψ fl σ') : EX C s₀ σ (st :: rest) Ψ := EX.of (ES.mono h h1)
theorem drop_at {α : Type} {l : List α} {i : Nat} {x : α} (h : l[i]? = some x) : l.drop i = x :: l.drop (i + 1) := by
  obtain ⟨h1, rfl⟩ := List.getElem?_eq_some_iff.mp h
  exact List.drop_eq_getElem_cons h1
theorem small {n : Nat} (h : n ≤ 1000000) : n ≤ sizeLine := Nat.le_trans h (by decide)

noncomputable def intsV (ns : List Int) : List V := ns.map .int
noncomputable def toV (bs : List Bool) : List V := bs.map .bool
theorem intsV_len (ns : List Int) : (intsV ns).length = ns.length := by unfold intsV; simp
theorem flats_ints (ns : List Int) : Flats (intsV ns) := Flats.of fun x hx => by
  unfold intsV at hx
  obtain ⟨n, _, rfl⟩ := List.mem_map.mp hx
  trivial
theorem ints_of {W : Addr → Obj → Prop} : ∀ {ns : List Int} {vs : List Value}, VRs W (intsV ns) vs → ∃ ps : List (Int × Tok), vs = ps.map (fun p => Value.int p.1 p.2) ∧ ps.map (·.1) = ns
  | [], _, .nil => ⟨[], rfl, rfl⟩
  | n :: ns, _, .cons h t => by
    cases h
    rename_i tk
    obtain ⟨ps, e1, e2⟩ := ints_of t
    exact ⟨(n, tk) :: ps, by rw [e1]; rfl, by simp [e2]⟩
theorem bools_of {W : Addr → Obj → Prop} : ∀ {bs : List Bool} {vs : List Value}, VRs W (toV bs) vs → vs = bs.map Value.bool
  | [], _, .nil => rfl
  | _ :: _, _, .cons h t => by cases h; rw [bools_of t]; rfl

section
variable {w : World} {lo d : Nat}
theorem OPQ.one {t : Value → Sem Value} {tv : List Value → Sem Value} {a r : V} (e : ∀ x, tv [x] = t x) (h : ∀ (A : Around) (E : Value → Shared → Prop) (s : Shared) (H : Addr → Prop) (x : Value), AOk A d → TopF w s.heap → 430 ≤ lo ∧ lo ≤ s.toks → (∀ a, H a → ∃ o, s.heap.get? a = some o) → VR (Has H s.heap) a x →
    ∀ Q : Value → Shared → Prop, (∀ v' s', Kp s s' → VR (Has H s'.heap) r v' → Q v' s') → wpAny (model PR w) A (t x) Q E s) : OPQ w lo tv [a] r d := fun A E s H vs ok T tk low hv Q hQ => by
  cases hv with
  | cons h1 h2 => cases h2; rw [e]; exact h A E s H _ ok T tk low h1 Q hQ

theorem o_len {xs : List V} (hn : xs.length < 1000000) : OPQ w lo (fun vs => call (.builtin "len") vs) [.list xs] (.int xs.length) d := OPQ.one (fun _ => rfl) fun A E s H x ok T tk low hx Q hQ => by
  cases hx with
  | list a b =>
    rename_i vs
    have e : vs.toArray.size = xs.length := by rw [List.size_toArray, b.length]
    have hL : s.heap.IsList _ vs.toArray := ⟨_, a.1, rfl, _, rfl⟩
    refine call_len_list hL (by rw [e]; omega) (hQ _ _ (Kp.tokk (by omega)) ?_)
    rw [e]; exact .int _ _
theorem o_lenT {xs : List V} (hn : xs.length < 1000000) : OPQ w lo (fun vs => call (.builtin "len") vs) [.tup xs] (.int xs.length) d := OPQ.one (fun _ => rfl) fun A E s H x ok T tk low hx Q hQ => by
  cases hx with
  | tup a b =>
    rename_i vs
    have e : vs.toArray.size = xs.length := by rw [List.size_toArray, b.length]
    refine P.len_tuple a.1 (by rw [e]; omega) (hQ _ _ (Kp.tokk (by omega)) ?_)
    rw [e]; exact .int _ _
theorem o_lenS {y : Str} (hn : y.length < 1000000) : OPQ w lo (fun vs => call (.builtin "len") vs) [.str y] (.int y.length) d := OPQ.one (fun _ => rfl) fun A E s H x ok T tk low hx Q hQ => by
  cases hx
  exact P.len_str (by omega) (hQ _ _ (Kp.tokk (by omega)) (.int _ _))

theorem o_max2 {a b : Int} : OPQ w lo (fun vs => call (.builtin "max") vs) [.int a, .int b] (.int (max a b)) d := fun A E s H vs ok T tk low hv Q hQ => by
  cases hv with
  | cons h1 h2 =>
    cases h1
    cases h2 with
    | cons h1 h2 =>
      cases h1; cases h2
      refine withToks (max_two_ints ok.hh fun h' tk' hk htk => ?_)
      have e : max a b = if b > a then b else a := by rw [Int.max_def]; split <;> split <;> omega
      rw [e] at hQ
      by_cases hc : b > a
      · rw [if_pos hc] at hQ ⊢; exact hQ _ _ ⟨⟨h', tk', rfl⟩, hk, htk⟩ (.int _ _)
      · rw [if_neg hc] at hQ ⊢; exact hQ _ _ ⟨⟨h', tk', rfl⟩, hk, htk⟩ (.int _ _)

noncomputable def maxL : List Int → Int
  | [] => 0
  | x :: xs => xs.foldl max x
theorem foldl_max : ∀ (xs : List Int) (x : Int), (x ≤ xs.foldl max x ∧ ∀ y ∈ xs, y ≤ xs.foldl max x) ∧ (xs.foldl max x = x ∨ xs.foldl max x ∈ xs)
  | [], x => ⟨⟨Int.le_refl _, fun _ h => nomatch h⟩, .inl rfl⟩
  | z :: xs, x => by
    obtain ⟨⟨h1, h2⟩, h3⟩ := foldl_max xs (max x z)
    simp only [List.foldl_cons]
    refine ⟨⟨by omega, fun y hy => ?_⟩, ?_⟩
    · rcases List.mem_cons.mp hy with rfl | hy
      · omega
      · exact h2 y hy
    · rcases h3 with h3 | h3
      · rw [h3, Int.max_def]; split
        · exact .inr (.head _)
        · exact .inl rfl
      · exact .inr (.tail _ h3)
theorem maxL_eq {ns : List Int} {m : Int} (hm : m ∈ ns) (h : ∀ x ∈ ns, x ≤ m) : maxL ns = m := by
  cases ns with
  | nil => cases hm
  | cons x xs =>
    obtain ⟨⟨h1, h2⟩, h3⟩ := foldl_max xs x
    show xs.foldl max x = m
    have a : m ≤ xs.foldl max x := by
      rcases List.mem_cons.mp hm with rfl | hm
      · exact h1
      · exact h2 m hm
    have b : xs.foldl max x ≤ m := by
      rcases h3 with h3 | h3
      · rw [h3]; exact h x (.head _)
      · exact h _ (.tail _ h3)
    omega
theorem o_max {ns : List Int} (hne : ns ≠ []) : OPQ w lo (fun vs => call (.builtin "max") vs) [.list (intsV ns)] (.int (maxL ns)) d := OPQ.one (fun _ => rfl) fun A E s H x ok T tk low hx Q hQ => by
  cases hx with
  | list a b =>
    rename_i l n vs
    obtain ⟨ps, rfl, e⟩ := ints_of b
    have hL : s.heap.IsList l (intItems ps.toArray) := ⟨_, a.1, rfl, n, by simp [intItems]⟩
    have hlen : 0 < ps.toArray.size := by
      cases ps with
      | nil => exact absurd e.symm hne
      | cons _ _ => simp
    refine withToks (max_intList ok.hh hL hlen fun v h' tk' hv hk htk => ?_)
    obtain ⟨u, rfl⟩ := intItems_at hv
    obtain ⟨b1, b2⟩ := argBest_gt (numAt ps.toArray) (ps.toArray.size - 1)
    have key : numAt ps.toArray (argBest (fun i j => decide (numAt ps.toArray i > numAt ps.toArray j)) (ps.toArray.size - 1)) = maxL ns := by
      have hps : 0 < ps.length := by simpa using hlen
      refine (maxL_eq ?_ fun x hx => ?_).symm
      · rw [numAt_eq, ← e]
        exact PySem.getD_mem (by simp at b1 ⊢; omega)
      · rw [← e] at hx
        obtain ⟨j, hj, rfl⟩ := List.mem_iff_getElem.mp hx
        have := b2 j (by simp at hj ⊢; omega)
        rw [numAt_eq, PySem.getD_at (by simpa using hj)] at this
        exact this
    rw [key]
    exact hQ _ _ ⟨⟨h', tk', rfl⟩, hk, htk⟩ (.int _ _)
theorem o_sum {ns : List Int} : OPQ w lo (fun vs => call (.builtin "sum") vs) [.list (intsV ns)] (.int ns.sum) d := OPQ.one (fun _ => rfl) fun A E s H x ok T tk low hx Q hQ => by
  cases hx with
  | list a b =>
    rename_i l n vs
    obtain ⟨ps, rfl, e⟩ := ints_of b
    have hL : s.heap.IsList l (intItems ps.toArray) := ⟨_, a.1, rfl, n, by simp [intItems]⟩
    refine withToks (sum_intListG ok.hh hL fun h' tk' t' hk htk => ?_)
    have key : preSum (numAt ps.toArray) ps.toArray.size = ns.sum := by
      rw [preSum_eq, ← e, List.take_of_length_le (by simp)]
    rw [key]
    exact hQ _ _ ⟨⟨h', tk', rfl⟩, hk, htk⟩ (.int _ _)
theorem o_all {bs : List Bool} : OPQ w lo (fun vs => call (.builtin "all") vs) [.list (toV bs)] (.bool (bs.all id)) d := OPQ.one (fun _ => rfl) fun A E s H x ok T tk low hx Q hQ => by
  cases hx with
  | list a b =>
    rename_i l n vs
    have hvs := bools_of b
    have hL : s.heap.IsList l vs.toArray := ⟨_, a.1, rfl, n, rfl⟩
    refine withToks (call_all_walk (wpAny_pyIter_list hL ?_))
    have hne : l ≠ s.heap.objs.size := Nat.ne_of_lt (Heap.lt_size a.1)
    refine ⟨_, _, _, _, _, _, fun i => bs.getD i true, rfl, Walks.list (A := A.in1) ok.hh _ l hne vs.toArray, ⟨⟨_, Heap.get?_push_size _ rfl, rfl, rfl⟩, hL.push _⟩, fun i v s Q E hP hQ => ?_, fun h' tk' hk htk => ?_⟩
    · have hP' : vs[i]? = some v := by simpa using hP
      rw [hvs, List.getElem?_map] at hP'
      obtain ⟨b, hb, rfl⟩ := Option.map_eq_some_iff.mp hP'
      have e : bs.getD i true = b := by rw [List.getD_eq_getElem?_getD, hb]; rfl
      exact wpAny_truthy_bool (e ▸ hQ)
    · have e : (List.range vs.toArray.size).all (fun i => bs.getD i true) = bs.all id := by
        have hl : vs.toArray.size = bs.length := by rw [hvs]; simp
        rw [hl]
        clear hQ hvs hL hk htk a b hl
        have : (List.range bs.length).map (fun i => bs.getD i true) = bs := by
          apply List.ext_getElem
          · simp
          · intro i h1 h2; simp at h1 ⊢; simp [h1]
        conv => rhs; rw [← this]
        rw [List.all_map]; rfl
      rw [e]
      exact hQ _ _ ⟨⟨h', tk', rfl⟩, fun b o e => hk b o (fun q => by rw [List.mem_singleton] at q; have := Heap.lt_size e; rw [q] at this; exact Nat.lt_irrefl _ this) (Heap.get?_push_of_some _ e), htk⟩ (.bool _)
theorem o_tuple {xs : List V} (hsz : xs.length ≤ sizeLine) : OPQ w lo (fun vs => call (.type "tuple") vs) [.list xs] (.tup xs) d := OPQ.one (fun _ => rfl) fun A E s H x ok T tk low hx Q hQ => by
  cases hx with
  | list a b =>
    rename_i l n vs
    have hL : s.heap.IsList l vs.toArray := ⟨_, a.1, rfl, n, rfl⟩
    refine call_tuple_list (hsz := by rw [List.size_toArray, b.length]; exact hsz) hL fun h' hk => ?_
    have k : Kp s { s with heap := h'.push { cls := .type "tuple", data := .seq vs.toArray } } := ⟨⟨_, s.toks, rfl⟩, fun b o e => Heap.get?_push_of_some _ (hk b o e), Nat.le_refl _⟩
    refine hQ _ _ k (.tup (n := 0) ⟨Heap.get?_push_size _ rfl, fun q => ?_⟩ (b.keeps k))
    obtain ⟨o, ho⟩ := low _ q
    have := hk _ _ ho
    rw [none_size] at this; cases this
theorem o_hex {i : Int} (hsz : (baseText "0x" 16 i).length ≤ sizeLine) : OPQ w lo (fun vs => call (.builtin "hex") vs) [.int i] (.strT (baseText "0x" 16 i) lo Option.none) d := OPQ.one (fun _ => rfl) fun A E s H x ok T tk low hx Q hQ => by
  cases hx
  exact PySem.P.hex_of_int (hQ _ _ Kp.tok (.strT _ _ _ _ tk.2 fun _ e => nomatch e)) hsz
end
end Mine

namespace Mine
open PySem PySem.W in
theorem fill13 : (hd.heap_39 = hd.heap_39) ∧ (PySem.Challenge.rw_wj0033_01 = PySem.Challenge.rw_wj0033_01) := by k_fill; exact ⟨rfl, rfl⟩
open PySem PySem.Spec PySem.Calls PyProof.Rows PySem.W

section
variable {w : World}
theorem c_dict : hasDictIn (hd.heap_39 w.params) 83 = true := by k_is
theorem c_get {name : Str} : plainGet (hd.heap_39 w.params) 83 name = true := by
  show plainGet (hd.heap_39 w.params) 83 "less" = true
  k_is
theorem c_raw : findIn (hd.heap_39 w.params) (.ref 83) "raw" = some none := by k_is
theorem c_n : findIn (hd.heap_39 w.params) (.ref 83) "n" = some none := by k_is
theorem c_nt : findIn (hd.heap_39 w.params) (.ref 83) "nt" = some none := by k_is
theorem c_norm : findIn (hd.heap_39 w.params) (.ref 83) "norm" = some none := by k_is
theorem c_simple : findIn (hd.heap_39 w.params) (.ref 83) "is_simple" = some none := by k_is
theorem c_less : findIn (hd.heap_39 w.params) (.ref 83) "less" = some (some (.ref 73)) := by k_is
theorem c_longest : findIn (hd.heap_39 w.params) (.ref 83) "longest_run_of_spaces" = some (some (.ref 45)) := by k_is
theorem c_indent : findIn (hd.heap_39 w.params) (.ref 83) "indent_level" = some (some (.ref 52)) := by k_is
theorem c_init : findIn (hd.heap_39 w.params) (.ref 83) "__init__" = some (some (.ref 38)) := by k_is
theorem c_seta : findIn (hd.heap_39 w.params) (.ref 83) "__setattr__" = some (some (.builtin "object.__setattr__")) := by k_is
theorem c_over : plainOver (hd.heap_39 w.params) 83 = true := by k_is
theorem c_makes : makesIn (hd.heap_39 w.params) 83 = true := by k_is
theorem c_f38 : typeIn (hd.heap_39 w.params) (.ref 38) = some (.type "function") := by k_is
theorem c_f45 : typeIn (hd.heap_39 w.params) (.ref 45) = some (.type "function") := by k_is
theorem c_f52 : typeIn (hd.heap_39 w.params) (.ref 52) = some (.type "function") := by k_is
theorem c_f73 : typeIn (hd.heap_39 w.params) (.ref 73) = some (.type "function") := by k_is
theorem k_45 : keepIn (hd.heap_39 w.params) (.ref 45) = true := by k_is
theorem k_52 : keepIn (hd.heap_39 w.params) (.ref 52) = true := by k_is
theorem k_73 : keepIn (hd.heap_39 w.params) (.ref 73) = true := by k_is
theorem k_83 : keepIn (hd.heap_39 w.params) (.ref 83) = true := by k_is
theorem t_raw : takerIn (hd.heap_39 w.params) 83 "raw" = some none := by k_is
theorem t_n : takerIn (hd.heap_39 w.params) 83 "n" = some none := by k_is
theorem t_nt : takerIn (hd.heap_39 w.params) 83 "nt" = some none := by k_is
theorem t_norm : takerIn (hd.heap_39 w.params) 83 "norm" = some none := by k_is
theorem t_simple : takerIn (hd.heap_39 w.params) 83 "is_simple" = some none := by k_is
theorem c_reads : readsIn (hd.heap_39 w.params) 83 (.type "type") = true := by k_is
theorem c_S : ∃ t, findCls (hd.heap_39 w.params) (.ref 83) (.type "type") "S" = some (.val (.str " " t)) := ⟨_, by k_is⟩
theorem c_T : ∃ t, findCls (hd.heap_39 w.params) (.ref 83) (.type "type") "T" = some (.val (.str "\t" t)) := ⟨_, by k_is⟩
end
end Mine

namespace Mine
open PySem PySem.Spec PySem.Calls PyProof.Rows PySem.W

theorem isStr_ne {x y : Str} {t : Tok} (h : x ≠ y) : (Value.str x t).isStr y = false := by
  cases q : (Value.str x t).isStr y with
  | false => rfl
  | true => exact absurd (eq_of_beq (by simpa [Value.isStr] using q)) h
theorem isStr_self {x : Str} {t : Tok} : (Value.str x t).isStr x = true := by simp [Value.isStr]

theorem keysAre.ind {P : List Str → List DictEntry → Prop} (h0 : P [] []) (h1 : ∀ x ns e es t, e.key = .str x t → keysAre ns es → P ns es → P (x :: ns) (e :: es)) : ∀ (ns : List Str) (es : List DictEntry), keysAre ns es → P ns es := by
  intro ns
  induction ns with
  | nil => intro es h; cases es with
    | nil => exact h0
    | cons e es => exact h.elim
  | cons x ns ih => intro es h; cases es with
    | nil => exact h.elim
    | cons e es => obtain ⟨⟨t, k⟩, ks⟩ := h; exact h1 x ns e es t k ks (ih es ks)
theorem FieldsR.ind {W : Addr → Obj → Prop} {P : List (Str × V) → List DictEntry → Prop} (h0 : P [] []) (h1 : ∀ x v fs e es t, e.key = .str x t → VR W v e.val → FieldsR W fs es → P fs es → P ((x, v) :: fs) (e :: es)) : ∀ (fs : List (Str × V)) (es : List DictEntry), FieldsR W fs es → P fs es := by
  intro fs
  induction fs with
  | nil => intro es h; cases es with
    | nil => exact h0
    | cons e es => exact h.elim
  | cons p fs ih => intro es h; cases es with
    | nil => cases p; exact h.elim
    | cons e es => obtain ⟨x, v⟩ := p; obtain ⟨⟨t, k⟩, r, ks⟩ := h; exact h1 x v fs e es t k r ks (ih es ks)
theorem getL_at {ns : List Str} {es : List DictEntry} (h : keysAre ns es) : ns.Nodup → ∀ {i : Nat} {name : Str} {e : DictEntry}, ns[i]? = some name → es[i]? = some e → getL name es = some (some e.val) := by
  refine keysAre.ind (P := fun ns es => ns.Nodup → ∀ {i : Nat} {name : Str} {e : DictEntry}, ns[i]? = some name → es[i]? = some e → getL name es = some (some e.val)) ?_ ?_ ns es h
  · intro _ i name e h1; simp at h1
  · intro x ns e0 es t k ks ih nd i name e h1 h2
    have nd' := List.nodup_cons.mp nd
    cases i with
    | zero =>
      simp only [List.getElem?_cons_zero, Option.some.injEq] at h1 h2
      subst h1 h2
      unfold getL
      rw [List.find?_cons, k, isStr_self]
    | succ i =>
      simp only [List.getElem?_cons_succ] at h1 h2
      have ne : x ≠ name := fun q => nd'.1 (q ▸ List.mem_of_getElem? h1)
      have ih := ih nd'.2 h1 h2
      unfold getL at ih ⊢
      rw [List.find?_cons, k, isStr_ne ne]
      simp only [List.any_cons, DictEntry.refKey, k] at ih ⊢
      exact ih
theorem getL_none {ns : List Str} {es : List DictEntry} (hk : keysAre ns es) : ∀ {name : Str}, name ∉ ns → getL name es = some none ∧ (∀ h k v, putL name h k v es = es ++ [⟨h, k, v⟩]) := by
  refine keysAre.ind (P := fun ns es => ∀ {name : Str}, name ∉ ns → getL name es = some none ∧ (∀ h k v, putL name h k v es = es ++ [⟨h, k, v⟩])) ?_ ?_ ns es hk
  · intro _ _; exact ⟨rfl, fun _ _ _ => rfl⟩
  · intro x ns e0 es t k ks ih name h
    have ne : x ≠ name := fun q => h (q ▸ .head _)
    obtain ⟨a, b⟩ := ih (name := name) fun q => h (.tail _ q)
    refine ⟨?_, fun hh kk v => ?_⟩
    · unfold getL at a ⊢
      rw [List.find?_cons, k, isStr_ne ne]
      simp only [List.any_cons, DictEntry.refKey, k] at a ⊢
      exact a
    · show (if e0.key.isStr name then _ else e0 :: putL name hh kk v es) = _
      rw [k, isStr_ne ne, b]; rfl
theorem keysAre.snoc {ns : List Str} {es : List DictEntry} (hk : keysAre ns es) {x : Str} {h : Int} {t : Tok} {v : Value} : keysAre (ns ++ [x]) (es ++ [⟨h, .str x t, v⟩]) := by
  refine keysAre.ind (P := fun (ns : List Str) (es : List DictEntry) => keysAre (ns ++ [x]) (es ++ [(⟨h, .str x t, v⟩ : DictEntry)])) ?_ ?_ ns es hk
  · exact ⟨⟨t, rfl⟩, trivial⟩
  · intro _ _ _ _ t' k _ ih; exact ⟨⟨t', k⟩, ih⟩
theorem FieldsR.keys {W : Addr → Obj → Prop} {fs : List (Str × V)} {es : List DictEntry} (h : FieldsR W fs es) : keysAre (fs.map (·.1)) es := by
  refine FieldsR.ind (P := fun (fs : List (Str × V)) (es : List DictEntry) => keysAre (fs.map (·.1)) es) ?_ ?_ fs es h
  · exact trivial
  · intro _ _ _ _ _ t k _ _ ih; exact ⟨⟨t, k⟩, ih⟩
theorem FieldsR.vals {W : Addr → Obj → Prop} {fs : List (Str × V)} {es : List DictEntry} (h : FieldsR W fs es) : VRs W (fs.map (·.2)) (es.map (·.val)) := by
  refine FieldsR.ind (P := fun (fs : List (Str × V)) (es : List DictEntry) => VRs W (fs.map (·.2)) (es.map (·.val))) ?_ ?_ fs es h
  · exact .nil
  · intro _ _ _ _ _ _ _ r _ ih; exact .cons r ih
theorem FieldsR.snoc {W : Addr → Obj → Prop} {fs : List (Str × V)} {es : List DictEntry} (hf : FieldsR W fs es) {x : Str} {h : Int} {t : Tok} {v : V} {v' : Value} (r : VR W v v') : FieldsR W (fs ++ [(x, v)]) (es ++ [⟨h, .str x t, v'⟩]) := by
  refine FieldsR.ind (P := fun (fs : List (Str × V)) (es : List DictEntry) => FieldsR W (fs ++ [(x, v)]) (es ++ [(⟨h, .str x t, v'⟩ : DictEntry)])) ?_ ?_ fs es hf
  · exact ⟨⟨t, rfl⟩, r, trivial⟩
  · intro _ _ _ _ _ t' k r' _ ih; exact ⟨⟨t', k⟩, r', ih⟩
theorem FieldsR.length {W : Addr → Obj → Prop} {fs : List (Str × V)} {es : List DictEntry} (h : FieldsR W fs es) : es.length = fs.length := by
  refine FieldsR.ind (W := W) (P := fun (fs : List (Str × V)) (es : List DictEntry) => es.length = fs.length) ?_ ?_ fs es h
  · exact rfl
  · intro _ _ _ _ _ _ _ _ _ ih; exact congrArg (· + 1) ih

noncomputable def notVal : V → Prop | .val _ => False | _ => True
theorem VR.handed {W : Addr → Obj → Prop} {x : V} {v : Value} (h : notVal x) (r : VR W x v) : handedIn v = true := by
  cases r <;> first | exact h.elim | rfl

section
variable {C : Cx} {s₀ : Shared} {σ : Sg} {F : List (Addr × Obj)} {s : Shared}
theorem EV.attr {x₀ : Str} {p₀ : Pos} {name : Str} {pos : Pos} (i : Nat) {v : V} {xs : List V} (h : EV C σ (.Name x₀ p₀) (.obj xs)) (hn : wsNames[i]? = some name) (hx : xs[i]? = some v) (ha : findIn (hd.heap_39 C.w.params) (.ref 83) name = some none) (hv : notVal v) : EV C σ (.Attribute (.Name x₀ p₀) name pos) v := fun F A E s ok S Q hQ =>
  Attribute_any_ (h F A E s ok S _ fun o' s₁ k r => by
    cases r with
    | obj h1 h2 hk hvs =>
      obtain ⟨u, hu, ru⟩ := hvs.get hx
      rw [List.getElem?_map] at hu
      obtain ⟨e, he, rfl⟩ := Option.map_eq_some_iff.mp hu
      have I : InstAt s₁.heap _ ⟨.ref 83, some _, .plain, #[]⟩ 83 (some (dictOf _ _)) := ⟨h1.1, rfl, rfl, h2.1⟩
      exact get_value ((S.keeps k).top.X) I (plainGet_of (name := name) c_get).1 (findObj_own c_dict ha rfl (getL_at hk (by decide) hn he)) (ru.handed hv) (hQ _ _ (k.trans Kp.tok) (ru.keeps Kp.tok)))

/-- an attribute of an object that is being made -/
theorem EV.attrD {x : Str} {p : Pos} {name : Str} {pos : Pos} (i j : Nat) {v : V} {a dx : Addr} {fs : List (Str × V)} (hv : σ.ρ.lookup x = some (.mr a)) (hx : C.env.kindOf x = some .local) (hdb : (x == ("__debug__" : Str)) = false) (hj : σ.D[j]? = some (a, dx, fs)) (hi : fs[i]? = some (name, v)) (nd : (fs.map (·.1)).Nodup)
    (ha : findIn (hd.heap_39 C.w.params) (.ref 83) name = some none) (hnv : notVal v) : EV C σ (.Attribute (.Name x p) name pos) v := fun F A E s ok S Q hQ =>
  Attribute_any_ (EV.name (C := C) (σ := σ) hv hx hdb F A E s ok S _ fun o' s₁ k r => by
    cases r
    obtain ⟨h1, es, n, h2, hf⟩ := (S.keeps k).objs _ (List.mem_of_getElem? hj)
    have hm : (fs.map (·.1))[i]? = some name := by rw [List.getElem?_map, hi]; rfl
    obtain ⟨u, hu, ru⟩ := hf.vals.get (i := i) (x := v) (by rw [List.getElem?_map, hi]; rfl)
    rw [List.getElem?_map] at hu
    obtain ⟨e, he, rfl⟩ := Option.map_eq_some_iff.mp hu
    have I : InstAt s₁.heap a (instObj 83 dx) 83 (some (dictOf es n)) := ⟨h1, rfl, rfl, h2⟩
    exact get_value ((S.keeps k).top.X) I (plainGet_of (name := name) c_get).1 (findObj_own c_dict ha rfl (getL_at hf.keys nd hm he)) (ru.handed hnv) (hQ _ _ (k.trans Kp.tok) (ru.keeps Kp.tok)))

/-- a str of the class's own -/
theorem EV.clsStr {x : Str} {p : Pos} {name : Str} {pos : Pos} {y : Str} (h : EV C σ (.Name x p) (.val (.ref 83))) (hc : ∃ t, findCls (hd.heap_39 C.w.params) (.ref 83) (.type "type") name = some (.val (.str y t))) : EV C σ (.Attribute (.Name x p) name pos) (.str y) := fun F A E s ok S Q hQ =>
  Attribute_any_ (h F A E s ok S _ fun o' s₁ k r => by
    cases r
    obtain ⟨t, ht⟩ := hc
    exact cls_value ((S.keeps k).top.X) c_reads ht rfl (hQ _ _ (k.trans Kp.tok) (.str _ _)))

theorem osa_own {w : World} {A : Around} {R : Result → Shared → Prop} {x dx : Addr} {ox : Obj} {name : Str} {tk : Tok} {v : Value} {es es' : List DictEntry} {n n' : Nat} (X : (hd.heap_39 w.params).In s.heap) (I : InstAt s.heap x ox 83 (some (dictOf es n))) (hdx : ox.dict = some dx) (D : s.heap.get? dx = some (dictOf es n))
    (ht : takerIn (hd.heap_39 w.params) 83 name = some none) (hl : getL name es = some none) (e : (putL name (PyData.keyHash w.params name) (.str name s.toks) v es, putN name es n) = (es', n')) (hz : es'.length ≤ 1000)
    (h : ∀ h', Heap.SameBut dx s.heap h' → h'.get? dx = some (dictOf es' n') → R (.ok (.ret .none)) { s with heap := h', toks := s.toks + 1 }) :
    codeAny (model PR w) A (.call (.builtin "object.__setattr__") ⟨[.ref x, .str name tk, v], []⟩) R s := by
  refine osa_open X I c_over ht fun b => ?_
  obtain ⟨cd, hc, hd'⟩ := any_some (c_dict (w := w))
  obtain ⟨e1, e2⟩ := Prod.mk.inj e
  have hput : Obj.putName name (PyData.keyHash w.params name) (.str name s.toks) v (dictOf es n) = dictOf es' n' := by rw [putName_dict, e1, e2]
  have D' : (s.heap.update dx (Obj.putName name (PyData.keyHash w.params name) (.str name s.toks) v)).get? dx = some (dictOf es' n') := by
    rw [Heap.get?_update_self _ D (by rw [hput]; rfl), hput]
  have hs := Heap.SameBut.update s.heap dx (Obj.putName name (PyData.keyHash w.params name) (.str name s.toks) v)
  obtain ⟨hx, hcl, hn, -⟩ := I
  obtain ⟨oc, odi, oda, osl⟩ := ox
  dsimp only at hcl hdx
  subst hcl hdx
  refine wpAny_bind (wpAny_pure (wpAny_bind (wpAny_bind (wpAny_loadPart hx (wpAny_bind ((looks_clsIn X hc).here ?_))))))
  rw [hd']
  refine wpAny_pure (a := some dx) (wpAny_bind (wpAny_pure (wpAny_bind ?_)))
  unfold nsSet
  refine wpAny_bind (wpAny_bind (wpAny_askSetting (wpAny_pure (wpAny_bind (wpAny_mkText (wpAny_bind (wpAny_loadPart D ?_)))))))
  have c : (!es.toArray.any (·.key.isStr name) && es.toArray.any (·.refKey)) = false := by
    rw [← Array.any_toList, ← Array.any_toList]
    unfold getL at hl
    split at hl
    · cases hl
    · split at hl
      · cases hl
      · rename_i z; rw [Bool.not_eq_true] at z; rw [z, Bool.and_false]
  dsimp only
  rw [aRefKeyMayBeTheName_at, c]
  refine wpAny_updatePart D ?_
  refine wpAny_bind (wpAny_lookBehind D' (by exact pastItsLine_dict (by rw [List.size_toArray, sizeLine_eq]; omega)) ?_)
  exact wpAny_pure (h _ hs D')

theorem set_D_own {j : Nat} {a dx : Addr} {fs fs' : List (Str × V)} (hj : σ.D[j]? = some (a, dx, fs)) : own { σ with D := σ.D.set j (a, dx, fs') } F = own σ F := by
  unfold own
  have : (σ.D.set j (a, dx, fs')).flatMap (fun p => [p.1, p.2.1]) = σ.D.flatMap (fun p => [p.1, p.2.1]) := by
    have e : ∀ l : List (Addr × Addr × List (Str × V)), l.flatMap (fun p => [p.1, p.2.1]) = (l.map fun p => (p.1, p.2.1)).flatMap (fun q => [q.1, q.2]) := fun l => by rw [List.flatMap_map]
    rw [e, e, List.map_set]
    congr 1
    exact X.set_same (by rw [List.getElem?_map, hj]; rfl)
  show _ ++ (σ.D.set j (a, dx, fs')).flatMap (fun p => [p.1, p.2.1]) ++ _ = _
  rw [this]

/-- `self.f = e` on the one object that is being made -/
theorem ES.setAttr {x : Str} {p : Pos} {name : Str} {ap : Pos} {e : Expr} {pos : Pos} {a dx : Addr} {fs : List (Str × V)} {v : V} {Ψ} (hv : σ.ρ.lookup x = some (.mr a)) (hx : C.env.kindOf x = some .local) (hdb : (x == ("__debug__" : Str)) = false) (hD : σ.D = [(a, dx, fs)]) (hcl : σ.cl = []) (h : EV C σ e v)
    (ht : takerIn (hd.heap_39 C.w.params) 83 name = some none) (hnew : name ∉ fs.map (·.1)) (hz : fs.length ≤ 900) (hsw : swapsWith e (some (.Attribute (.Name x p) name ap)) pos.line C.env = pure false)
    (hΨ : Ψ .next { σ with D := [(a, dx, fs ++ [(name, v)])] }) : ES C s₀ σ (.Assign [.Attribute (.Name x p) name ap] e pos) Ψ := fun F A s ok S Q hQ => by
  refine plainObj_wpAny_Assign_Attribute (h F A _ s ok S.vw _ fun v₁ s₁ k₁ r₁ => EV.name (C := C) (σ := σ) (pos := p) hv hx hdb F A _ s₁ ok (S.keeps k₁).vw _ fun v₂ s₂ k₂ r₂ => ?_) hsw
  cases r₂
  have S2 := (S.keeps k₁).keeps k₂
  have hm : (a, dx, fs) ∈ σ.D := by rw [hD]; exact .head _
  obtain ⟨h1, es, n, h2, hf⟩ := S2.vw.objs _ hm
  have I : InstAt s₂.heap a (instObj 83 dx) 83 (some (dictOf es n)) := ⟨h1, rfl, rfl, h2⟩
  obtain ⟨g1, g2⟩ := getL_none hf.keys hnew
  refine set_plain (S2.vw.top.X) I c_seta ?_
  refine osa_own (s := { s₂ with toks := s₂.toks + 1 }) (S2.vw.top.X) I rfl h2 ht g1 (es' := es ++ [⟨PyData.keyHash C.w.params name, .str name (s₂.toks + 1), v₁⟩]) (n' := putN name es n) (by rw [g2]) (by rw [List.length_append, hf.length]; simp; omega) fun h' hs hd' => ?_
  have inDx : dx ∈ own σ F := mem_D2 hm
  have mono := hidMono (C := C) (σ := σ) (F := F) (a := dx) (.inr (.inr inDx)) hs
  have nd := S2.nd
  have ndo := (List.nodup_cons.mp nd).2
  have hown : own { σ with D := [(a, dx, fs ++ [(name, v)])] } F = own σ F := by unfold own; rw [hD]; rfl
  have e0 : own σ F = σ.O.map (·.1) ++ ([a, dx] ++ F.map (·.1)) := by unfold own; rw [hD, hcl]; simp
  rw [e0] at ndo
  have ndo1 := List.nodup_append.mp ndo
  have ndo2 := List.nodup_append.mp ndo1.2.1
  have nax : a ≠ dx := fun q => by
    have := (List.nodup_cons.mp ndo2.1).1
    exact this (by rw [q]; exact .head _)
  have hdv : ∃ o, h'.get? dx = some o := ⟨_, hd'⟩
  have S3 : Fw C s₀ { σ with D := [(a, dx, fs ++ [(name, v)])] } F { s₂ with heap := h', toks := s₂.toks + 2 } := by
    refine S2.upd inDx hs hdv (by omega) hown rfl rfl (fun q hq => .inl ⟨hq, fun e => ?_⟩) (fun q hq => .inr ?_) (fun y c u hc => by rw [hcl] at hc; cases hc) (fun q hq e => ?_)
    · exact ndo1.2.2 q.1 (List.mem_map_of_mem hq) dx (List.mem_append_left _ (.tail _ (.head _))) e
    · rw [List.mem_singleton] at hq; subst hq
      exact ⟨(hs.2 a nax).trans h1, _, _, hd', FieldsR.snoc (hf.mono mono) ((r₁.keeps k₂).mono mono)⟩
    · exact ndo2.2.2 dx (.tail _ (.head _)) q.1 (List.mem_map_of_mem hq) e.symm
  refine hQ .next _ _ _ S3 ?_ trivial hΨ
  refine (((k₁.le _).trans (k₂.le _)).trans fun b o q => ?_)
  have e1 : Hd C { σ with D := [(a, dx, fs ++ [(name, v)])] } F = Hd C σ F := by funext b; unfold Hd; rw [hown]
  rw [e1]; exact mono b o q

-- methods
theorem getMeth {w : World} {A : Around} {E : Value → Shared → Prop} {W : Addr → Prop} {f : Addr} {name : Str} {pl : Sem Bool} {v : Value} {xs : List V} {Q : Value × List Value → Shared → Prop} (X : (hd.heap_39 w.params).In s.heap) (r : VR (Has W s.heap) (.obj xs) v) (hf : findIn (hd.heap_39 w.params) (.ref 83) name = some (some (.ref f)))
    (ht : typeIn (hd.heap_39 w.params) (.ref f) = some (.type "function")) (hn : name ∉ wsNames) (h : Q (.ref f, [v]) s) : wpAny (model PR w) A (getMethod v name pl) Q E s := by
  cases r with
  | obj h1 h2 hk hvs =>
    have I : InstAt s.heap _ ⟨.ref 83, some _, .plain, #[]⟩ 83 (some (dictOf _ _)) := ⟨h1.1, rfl, rfl, h2.1⟩
    exact method_fn X I (plainGet_of (name := name) c_get).1 (plainGet_of (name := name) c_get).2 hf ht (by
      show Option.map _ (getL name _) = _
      rw [(getL_none hk hn).1]; rfl) h
theorem EV.meth0 {o : Expr} {name : Str} {ap pos : Pos} {pl : Sem Bool} {f : Addr} {xs : List V} {v : V} (h : EV C σ o (.obj xs)) (hf : findIn (hd.heap_39 C.w.params) (.ref 83) name = some (some (.ref f))) (ht : typeIn (hd.heap_39 C.w.params) (.ref f) = some (.type "function")) (hk : keepIn (hd.heap_39 C.w.params) (.ref f) = true) (hn : name ∉ wsNames)
    (op : OPQ C.w C.lo (fun vs => call (.ref f) vs) [.obj xs] v C.d)
    (he : eval (.Call (.Attribute o name ap) [] [] pos) C.env = (do
      let ov ← eval o C.env
      standAt ap.atName
      let (f, first) ← holding [ov] (getMethod ov name pl)
      callWith pos f first (backTo pos (starEach [] C.env)) [])) : EV C σ (.Call (.Attribute o name ap) [] [] pos) v := fun F A E s ok S Q hQ => by
  refine MethodCall_ (pl := pl) (h F A E s ok S _ fun o' s₁ k r => getMeth ((S.keeps k).top.X) r hf ht hn ?_) he
  have S1 := S.keeps k
  refine callWith_K0 (S1.top.X) hk ?_
  exact op A E s₁ (Hd C σ F) [o'] ok S1.top S1.tk S1.low (.cons r .nil) _ fun v' s' k' r' => hQ _ _ (k.trans k') r'
theorem EV.meth1 {o e : Expr} {name : Str} {ap pos : Pos} {pl : Sem Bool} {f : Addr} {xs : List V} {a v : V} (h : EV C σ o (.obj xs)) (ha : EV C σ e a) (hf : findIn (hd.heap_39 C.w.params) (.ref 83) name = some (some (.ref f))) (ht : typeIn (hd.heap_39 C.w.params) (.ref f) = some (.type "function")) (hk : keepIn (hd.heap_39 C.w.params) (.ref f) = true) (hn : name ∉ wsNames)
    (op : OPQ C.w C.lo (fun vs => call (.ref f) vs) [.obj xs, a] v C.d) (hst : starEach [e] C.env = [(false, eval e C.env)])
    (he : eval (.Call (.Attribute o name ap) [e] [] pos) C.env = (do
      let ov ← eval o C.env
      standAt ap.atName
      let (f, first) ← holding [ov] (getMethod ov name pl)
      callWith pos f first (backTo pos (starEach [e] C.env)) [])) : EV C σ (.Call (.Attribute o name ap) [e] [] pos) v := fun F A E s ok S Q hQ => by
  refine MethodCall_ (pl := pl) (h F A E s ok S _ fun o' s₁ k r => getMeth ((S.keeps k).top.X) r hf ht hn ?_) he
  have S1 := S.keeps k
  refine callWith_K (h₀ := s₁.heap) (S1.top.X) hk (args_cons (ha F A E s₁ ok S1 _ fun v₂ s₂ k₂ r₂ => args_nil ⟨(S1.keeps k₂).top.X, ?_⟩) hst) hst rfl
  exact op A E s₂ (Hd C σ F) [o', v₂] ok (S1.keeps k₂).top (S1.keeps k₂).tk (S1.keeps k₂).low (.cons (r.keeps k₂) (.cons r₂ .nil)) _ fun v' s' k' r' => hQ _ _ ((k.trans k₂).trans k') r'
end

section
variable {w : World} {oc pm cdv ct doc : Value} {od an : Option Addr} {osl : Array (Option Value)} {name qual : Str} {params : Arguments} {body : List Stmt} {scope : Scope} {d lo : Nat}
/-- an object of the class's, made by its `__init__` -/
theorem OPQ.make {a : V} {fs : List (Str × V)} (hfs : fs.map (·.1) = wsNames) (ho : (hd.heap_39 w.params).lookup 38 = some ⟨oc, od, .func (fdOf name qual params body scope doc pm an cdv ct), osl⟩) (hcd : codeIn (hd.heap_39 w.params) cdv qual = true)
    (hb : ∀ vs : List Value, vs.length = 2 → bindArgs (fdOf name qual params body scope doc pm an cdv ct) ⟨vs, []⟩ = pure ((["self", "ws"] : List Str).zip vs))
    (hloc : ((["self", "ws"] : List Str).all fun n => scope.names.lookup n == some .local) = true) (hcell : (scope.names.all fun x => x.2 != .cell) = true)
    (hco : scope.isCoroutine = false) (hgen : scope.isGenerator = false) (hk : scope.kind = .function)
    (h : ∀ (H : Addr → Prop) (s₀ : Shared) (L x dx : Addr), EX ⟨w, envX qual scope L 38 cdv [], H, d, lo, []⟩ s₀ ⟨[("self", .mr x), ("ws", a)], [], [], [(x, dx, [])]⟩ body (fun fl σ' => fl = .next ∧ σ'.D = [(x, dx, fs)])) :
    OPQ w lo (fun vs => call (.ref 83) vs) [a] (.obj (fs.map (·.2))) (d + 2) := by
  intro A E s H vs ok T tk low hvs Q hQ
  cases hvs with
  | cons h1 h2 =>
    cases h2
    rename_i va
    refine wpAny_call ?_
    obtain ⟨hp, g, dr, t, os⟩ := s
    have T' := T
    refine make_core (makes_of (T.X) c_makes) (looks_findIn (T.X) c_init) (fun self => bind_fn (T.X) self c_f38) (.inl rfl) ?_
    have k0 : Kp ⟨hp, g, dr, t, os⟩ ⟨(hp.push emptyDict).push (instObj 83 hp.objs.size), g, dr, t, os⟩ := ⟨⟨_, t, rfl⟩, fun b o e => Heap.get?_push_of_some _ (Heap.get?_push_of_some _ e), Nat.le_refl _⟩
    have hw : (Code.builtin "type.__call__" ⟨[.ref 83, va], []⟩).weight ≤ 1 := by first | exact Nat.le_of_ble_eq_true rfl | (unfold Code.weight; decide +kernel)
    have hu : (Code.builtin "type.__call__" ⟨[.ref 83, va], []⟩).cUnits ≤ 8 := by first | exact Nat.le_of_ble_eq_true rfl | (unfold Code.cUnits; decide +kernel)
    have okA : AOk (A.under (.builtin "type.__call__" ⟨[.ref 83, va], []⟩)) (d + 1) := ⟨ok.hh, by have := ok.dp; show A.depth + _ + (d + 1) < 900; omega, by have := ok.un; show A.units + _ + 8 * (d + 1) < 9000; omega⟩
    have T1 := T.keeps k0.ext
    refine codeAny_call_def (fd := fdOf name qual params body scope doc pm an cdv ct) (body := body) (binds := (["self", "ws"] : List Str).zip [.ref (hp.objs.size + 1), va]) okA.room (T1.X _ _ ho) rfl T1.nolimit (codeRec_of (T1.X) hcd) rfl (BindsTo.of_eq (hb _ rfl))
      (fun x hx => by have := List.all_eq_true.mp hcell x hx; simpa using this) (fun x hx => by have := List.all_eq_true.mp hloc x.1 (List.of_mem_zip hx).1; simpa using this) (fun h₀ hns hk₀ => ?_) hco hgen hk
    have sz : ((hp.push emptyDict).push (instObj 83 hp.objs.size)).objs.size = hp.objs.size + 2 := by rw [Heap.size_push, Heap.size_push]
    have above : ∀ b, hp.objs.size ≤ b → hp.get? b = none := fun b hb => by
      cases q : hp.get? b with
      | none => rfl
      | some o => exact absurd (Heap.lt_size q) (Nat.not_lt.mpr hb)
    have gx : ((hp.push emptyDict).push (instObj 83 hp.objs.size)).get? (hp.objs.size + 1) = some (instObj 83 hp.objs.size) := by
      have := Heap.get?_push_size (hp.push emptyDict) (o := instObj 83 hp.objs.size) rfl
      rw [Heap.size_push] at this; exact this
    have gd : ((hp.push emptyDict).push (instObj 83 hp.objs.size)).get? hp.objs.size = some emptyDict := Heap.get?_push_of_some _ (Heap.get?_push_size _ rfl)
    have k1 : Kp ⟨hp, g, dr, t, os⟩ ⟨h₀, g, dr, t + 2, os⟩ := ⟨⟨_, t + 2, rfl⟩, fun b o e => hk₀ _ _ (k0.ext _ _ e), Nat.le_add_right _ _⟩
    have hown : own ⟨[("self", .mr (hp.objs.size + 1)), ("ws", a)], [], [], [(hp.objs.size + 1, hp.objs.size, [])]⟩ [] = [hp.objs.size + 1, hp.objs.size] := rfl
    have S : Fw ⟨w, envX qual scope ((hp.push emptyDict).push (instObj 83 hp.objs.size)).objs.size 38 cdv [], H, d, lo, []⟩ ⟨hp, g, dr, t, os⟩ ⟨[("self", .mr (hp.objs.size + 1)), ("ws", a)], [], [], [(hp.objs.size + 1, hp.objs.size, [])]⟩ [] ⟨h₀, g, dr, t + 2, os⟩ := by
      have new : ∀ b, b ∈ ((hp.push emptyDict).push (instObj 83 hp.objs.size)).objs.size :: own ⟨[("self", .mr (hp.objs.size + 1)), ("ws", a)], [], [], [(hp.objs.size + 1, hp.objs.size, [])]⟩ [] → hp.get? b = none := fun b hb => by
        rw [hown, sz] at hb
        refine above b ?_
        rcases List.mem_cons.mp hb with rfl | hb
        · exact Nat.le_add_right _ _
        · rcases List.mem_cons.mp hb with rfl | hb
          · exact Nat.le_succ _
          · rw [List.mem_singleton] at hb; exact Nat.le_of_eq hb.symm
      have nd : (((hp.push emptyDict).push (instObj 83 hp.objs.size)).objs.size :: own ⟨[("self", .mr (hp.objs.size + 1)), ("ws", a)], [], [], [(hp.objs.size + 1, hp.objs.size, [])]⟩ []).Nodup := by
        rw [hown, sz]
        simp
      have up : ∀ b o, Has H hp b o → Has (Hd ⟨w, envX qual scope ((hp.push emptyDict).push (instObj 83 hp.objs.size)).objs.size 38 cdv [], H, d, lo, []⟩ ⟨[("self", .mr (hp.objs.size + 1)), ("ws", a)], [], [], [(hp.objs.size + 1, hp.objs.size, [])]⟩ []) h₀ b o := oldHas (C := ⟨w, envX qual scope ((hp.push emptyDict).push (instObj 83 hp.objs.size)).objs.size 38 cdv [], H, d, lo, []⟩) k1.ext new
      refine ⟨⟨T.keeps k1.ext, ⟨tk.1, Nat.le_trans tk.2 (Nat.le_add_right _ _)⟩, hk, rfl, rfl, ⟨_, hns, fun y u e => ?_⟩, (fun _ _ _ e => by cases e), (fun _ hp => by cases hp), (fun p hp => ?_), (fun _ hp => by cases hp), fun b hb => ?_, nd, apartOf (C := ⟨w, envX qual scope ((hp.push emptyDict).push (instObj 83 hp.objs.size)).objs.size 38 cdv [], H, d, lo, []⟩) low new, (fun _ _ e => by cases e)⟩, ⟨_, _, rfl⟩, k1.ext, T, new, nd, low, (fun _ _ _ e => by cases e), Nat.le_add_right _ _, (fun _ _ e => by cases e)⟩
      · have e' : (([("self", V.mr (hp.objs.size + 1)), ("ws", a)] : List (Str × V)).lookup y) = some u := e
        rw [List.lookup_cons] at e'
        cases q : y == ("self" : Str) with
        | true =>
          rw [q] at e'
          cases e'
          refine ⟨.ref (hp.objs.size + 1), ?_, .mr _⟩
          rw [eq_of_beq q]; rfl
        | false =>
          rw [q, List.lookup_cons] at e'
          cases q2 : y == ("ws" : Str) with
          | true =>
            rw [q2] at e'
            cases e'
            refine ⟨va, ?_, h1.mono up⟩
            rw [eq_of_beq q2]; rfl
          | false => rw [q2] at e'; cases e'
      · rw [List.mem_singleton] at hp; subst hp
        exact ⟨hk₀ _ _ gx, [], 0, hk₀ _ _ gd, trivial⟩
      · rcases hb with hb | hb | hb
        · obtain ⟨o, ho⟩ := low b hb; exact ⟨o, k1.ext _ _ ho⟩
        · obtain ⟨o, _, _, ho, _⟩ := hns; exact ⟨o, by rw [hb]; exact ho⟩
        · rw [hown] at hb
          rcases List.mem_cons.mp hb with rfl | hb
          · exact ⟨_, hk₀ _ _ gx⟩
          · rw [List.mem_singleton] at hb; exact ⟨_, by rw [hb]; exact hk₀ _ _ gd⟩
    refine wpAny_mono (h H ⟨hp, g, dr, t, os⟩ ((hp.push emptyDict).push (instObj 83 hp.objs.size)).objs.size (hp.objs.size + 1) hp.objs.size [] _ _ (okA.deeper _) S
      (fun fl s' => InitBack (hp.objs.size + 1) (fun r s' => match r with | .ok (.ret v) => Q v s' | .ok _ => False | .error e => E e s') (.ok (.ret (match fl with | .ret v => v | _ => .none))) s') fun fl σ' f' s' S' l R b => ?_) (fun _ _ x => x) (fun _ _ x => x.elim)
    obtain ⟨rfl, hD⟩ := b
    cases f' <;> first | exact R.elim | skip
    refine ⟨rfl, ?_⟩
    obtain ⟨o1, es, n, o2, hf⟩ := S'.vw.objs (hp.objs.size + 1, hp.objs.size, fs) (by rw [hD]; exact .head _)
    have hkp : Kp ⟨hp, g, dr, t, os⟩ s' := ⟨S'.same, S'.ext, S'.tk0⟩
    have fx : ∀ b, hp.objs.size ≤ b → ¬ H b := fun b hb q => by
      obtain ⟨o, ho⟩ := low b q
      have ho' : hp.get? b = some o := ho
      rw [above b hb] at ho'; cases ho'
    refine hQ _ _ hkp (.obj ⟨o1, fx _ (Nat.le_succ _)⟩ ⟨o2, fx _ (Nat.le_refl _)⟩ (hfs ▸ hf.keys) (hf.vals.mono fun b o x => ⟨x.1, fun q => x.2 (.inl q)⟩))
end
end Mine

namespace Mine
open PySem PySem.Spec PySem.Calls PyProof.Rows PySem.W

noncomputable def isTxt : V → Str → Prop
  | .str x, y => x = y
  | .strT x _ _, y => x = y
  | _, _ => False
noncomputable def areTxt : List V → List Str → Prop
  | [], [] => True
  | x :: xs, y :: ys => isTxt x y ∧ areTxt xs ys
  | _, _ => False
theorem VR.txt {W : Addr → Obj → Prop} {x : V} {y : Str} {v : Value} (h : isTxt x y) (r : VR W x v) : ∃ t, v = .str y t := by
  cases r <;> first | exact h.elim | (cases h; exact ⟨_, rfl⟩)
theorem strs_of {W : Addr → Obj → Prop} : ∀ {xs : List V} {ts : List Str} {vs : List Value}, VRs W xs vs → areTxt xs ts → ∃ l : List (Str × Tok), vs = strValues l ∧ l.map (·.1) = ts
  | [], [], _, .nil, _ => ⟨[], rfl, rfl⟩
  | x :: xs, y :: ys, _, .cons r rs, ⟨a, b⟩ => by
    obtain ⟨t, rfl⟩ := r.txt a
    obtain ⟨l, e1, e2⟩ := strs_of rs b
    exact ⟨(y, t) :: l, by rw [e1]; rfl, by simp [e2]⟩
  | _ :: _, [], _, _, h => h.elim
  | [], _ :: _, _, _, h => h.elim
noncomputable def news (lo : Nat) (ts : List Str) : List V := ts.map fun x => .strT x lo Option.none
noncomputable def newsTo (lo hi : Nat) (ts : List Str) : List V := ts.map fun x => .strT x lo (some hi)
theorem areTxt.ofMap (f : Str → V) (h : ∀ x, isTxt (f x) x) : ∀ ts : List Str, areTxt (ts.map f) ts
  | [] => trivial
  | x :: r => ⟨h x, areTxt.ofMap f h r⟩
theorem VRs.numbered {W : Addr → Obj → Prop} {lo : Nat} : ∀ {ts : List Str} {n : Nat}, lo ≤ n → VRs W (news lo ts) (strValues (PySem.numbered n ts))
  | [], _, _ => .nil
  | x :: r, n, h => .cons (.strT _ _ _ _ h fun _ e => nomatch e) (VRs.numbered (ts := r) (n := n + 1) (Nat.le_succ_of_le h))
theorem VRs.numberedTo {W : Addr → Obj → Prop} {lo hi : Nat} : ∀ {ts : List Str} {n : Nat}, lo ≤ n → n + ts.length ≤ hi → VRs W (newsTo lo hi ts) (strValues (PySem.numbered n ts))
  | [], _, _, _ => .nil
  | x :: r, n, h, h2 => by
    simp only [List.length_cons] at h2
    exact .cons (.strT _ _ _ _ h fun _ e => by cases e; omega) (VRs.numberedTo (ts := r) (n := n + 1) (Nat.le_succ_of_le h) (by omega))

section
variable {w : World} {lo d : Nat}
theorem fits_join {sep : Str} {ts : List Str} (h : JoinOk sep ts = true) : Builtin.Str.tooLong (ts.toArray.foldl (· + ·.length + sep.length) 0) = false := by
  unfold JoinOk at h; rw [Bool.not_eq_true'] at h; exact h
theorem o_join1 {sep x : Str} {X : V} (hX : isTxt X x) (hok : JoinOk sep [x] = true) : OPQ w lo (fun vs => call (.builtin "str.join") vs) [.str sep, .list [X]] X d := fun A E s H vs ok T tk low hv Q hQ => by
  cases hv with
  | cons h1 h2 =>
    cases h1
    cases h2 with
    | cons h2 h3 =>
      cases h3
      cases h2 with
      | list a b =>
        cases b with
        | cons b b0 =>
          cases b0
          rename_i t l n v
          obtain ⟨u, rfl⟩ := b.txt hX
          have hL : s.heap.IsList l (strValues [(x, u)]).toArray := ⟨_, a.1, rfl, n, rfl⟩
          exact call_meets PySem.F.slot_str_join (typeIs_str _ _ _) PySem.F.entry_str_join (PySem.F.args_str_join_2 _ _) (meets_str_join_list sep t l [(x, u)] (fits_join hok)) ⟨hL, hQ _ _ (Kp.refl _) b⟩
theorem o_joinN {sep : Str} {xs : List V} {ts : List Str} (hX : areTxt xs ts) (hn : xs.length ≠ 1) (hok : JoinOk sep ts = true) : OPQ w lo (fun vs => call (.builtin "str.join") vs) [.str sep, .list xs] (.strT (Txt.join sep ts) lo Option.none) d := fun A E s H vs ok T tk low hv Q hQ => by
  cases hv with
  | cons h1 h2 =>
    cases h1
    cases h2 with
    | cons h2 h3 =>
      cases h3
      cases h2 with
      | list a b =>
        rename_i t l n vs
        obtain ⟨p, rfl, e⟩ := strs_of b hX
        have hL : s.heap.IsList l (strValues p).toArray := ⟨_, a.1, rfl, n, rfl⟩
        refine call_meets PySem.F.slot_str_join (typeIs_str _ _ _) PySem.F.entry_str_join (PySem.F.args_str_join_2 _ _) (meets_str_join_list sep t l p (by rw [e]; exact fits_join hok)) ⟨hL, ?_⟩
        have hlen : (Txt.join sep ts).length ≤ sizeLine := joinFit_length (fits_join hok)
        have hp : p.length ≠ 1 := by
          have := b.length
          unfold strValues at this
          simp at this
          omega
        have e2 : joinMade sep p = .str (Txt.join sep ts) := by
          unfold joinMade
          split
          · exact absurd rfl hp
          · rw [e]; rfl
        rw [e2]
        exact ⟨hlen, hQ _ _ Kp.tok (.strT _ _ _ _ tk.2 fun _ e => nomatch e)⟩

theorem o_join {sep : Str} {xs : List V} {ts : List Str} (hX : areTxt xs ts) (hok : JoinOk sep ts = true) : OPQ w lo (fun vs => call (.builtin "str.join") vs) [.str sep, .list xs] (.str (Txt.join sep ts)) d := fun A E s H vs ok T tk low hv Q hQ => by
  cases hv with
  | cons h1 h2 =>
    cases h1
    cases h2 with
    | cons h2 h3 =>
      cases h3
      cases h2 with
      | list a b =>
        rename_i t l n vs
        obtain ⟨p, rfl, e⟩ := strs_of b hX
        have hL : s.heap.IsList l (strValues p).toArray := ⟨_, a.1, rfl, n, rfl⟩
        exact withToks (SC.join hL e hok fun t' k hk => hQ _ _ (Kp.tokk hk) (.str _ _))

theorem o_split1 {x y : Str} {X : V} (hX : isTxt X x) (hy : (y.length == 0) = false) (hno : (Builtin.Str.occurrences x y 0 x.length (x.length + 1)).isEmpty = true) : OPQ w lo (fun vs => call (.builtin "str.split") vs) [X, .str y] (.list [X]) d := fun A E s H vs ok T tk low hv Q hQ => by
  cases hv with
  | cons h1 h2 =>
    cases h2 with
    | cons h2 h3 =>
      cases h3; cases h2
      obtain ⟨t, rfl⟩ := h1.txt hX
      have fin : Q (.ref s.heap.objs.size) { s with heap := s.heap.push { cls := .type "list", data := .seq [Value.str x t].toArray } } := hQ _ _ (Kp.push _) (.list (n := 0) (vs := [.str x t]) ⟨Heap.get?_push_size _ rfl, freshOut low⟩ (.cons (h1.mono pushUp') .nil))
      cases hc : (decide (x.length < y.length) || decide (Builtin.Str.strKind x < Builtin.Str.strKind y))
      · exact call_meets PySem.F.slot_str_split (typeIs_str _ _ _) PySem.F.entry_str_split (PySem.F.args_str_split_2 _ _) (meets_str_split_not_found x y t _ hc hy hno) fin
      · exact call_meets PySem.F.slot_str_split (typeIs_str _ _ _) PySem.F.entry_str_split (PySem.F.args_str_split_2 _ _) (meets_str_split_cannot_occur x y t _ hc) fin
theorem o_splitN {x y : Str} {X : V} (hX : isTxt X x) (hy : (y.length == 0) = false) (hyes : (Builtin.Str.occurrences x y 0 x.length (x.length + 1)).isEmpty = false) (hc : (decide (x.length < y.length) || decide (Builtin.Str.strKind x < Builtin.Str.strKind y)) = false) (hsz : x.length ≤ sizeLine)
    (hn : (Builtin.Str.partsBetween x (Builtin.Str.occurrences x y 0 x.length (x.length + 1)) y.length).length ≤ sizeLine) : OPQ w lo (fun vs => call (.builtin "str.split") vs) [X, .str y] (.list (news lo (Builtin.Str.partsBetween x (Builtin.Str.occurrences x y 0 x.length (x.length + 1)) y.length))) d := fun A E s H vs ok T tk low hv Q hQ => by
  cases hv with
  | cons h1 h2 =>
    cases h2 with
    | cons h2 h3 =>
      cases h3; cases h2
      obtain ⟨t, rfl⟩ := h1.txt hX
      refine call_meets PySem.F.slot_str_split (typeIs_str _ _ _) PySem.F.entry_str_split (PySem.F.args_str_split_2 _ _) (meets_str_split_sep x y t _ hc hy hyes hsz hn) ?_
      show wants Q E _ _
      rw [strsFrom_eq]
      exact hQ _ _ (Kp.pushk _ (Nat.le_add_right _ _)) (.list (n := 0) ⟨Heap.get?_push_size _ rfl, freshOut low⟩ (VRs.numbered tk.2))
end

section
variable {C : Cx} {σ : Sg}
/-- a method of a str's, with one argument -/
theorem EV.smeth {o e : Expr} {name : Str} {id : String} {x : Str} {a b v : V} {ap pos : Pos} {pl : Sem Bool} (ho : EV C σ o a) (hx : isTxt a x) (hb : EV C σ e b)
    (gm : ∀ (A : Around) (E : Value → Shared → Prop) (s : Shared) (t : Tok) (Q : Value × List Value → Shared → Prop), Q (.builtin id, [.str x t]) s → wpAny (model PR C.w) A (getMethod (.str x t) name pl) Q E s)
    (op : OPQ C.w C.lo (fun vs => call (.builtin id) vs) [a, b] v C.d) (hst : starEach [e] C.env = [(false, eval e C.env)])
    (he : eval (.Call (.Attribute o name ap) [e] [] pos) C.env = (do
      let ov ← eval o C.env
      standAt ap.atName
      let (f, first) ← holding [ov] (getMethod ov name pl)
      callWith pos f first (backTo pos (starEach [e] C.env)) [])) : EV C σ (.Call (.Attribute o name ap) [e] [] pos) v := fun F A E s ok S Q hQ => by
  refine MethodCall_ (pl := pl) (ho F A E s ok S _ fun o' s₁ k r => ?_) he
  obtain ⟨t, rfl⟩ := r.txt hx
  refine gm A E s₁ t _ ?_
  have S1 := S.keeps k
  refine PyProof.Rows.callWith_method1 (args_cons (hb F A E s₁ ok S1 _ fun v₂ s₂ k₂ r₂ => args_nil ?_) hst) hst rfl
  exact op A E s₂ (Hd C σ F) [.str x t, v₂] ok (S1.keeps k₂).top (S1.keeps k₂).tk (S1.keeps k₂).low (.cons (r.keeps k₂) (.cons r₂ .nil)) _ fun v' s' k' r' => hQ _ _ ((k.trans k₂).trans k') r'

/-- a value that hangs on the marks of the moment -/
noncomputable def EVE (C : Cx) (σ : Sg) (e : Expr) (P : Nat → V) : Prop :=
  ∀ (F : List (Addr × Obj)) (A : Around) (E : Value → Shared → Prop) (s : Shared), AOk A C.d → Vw C σ F s → ∀ Q : Value → Shared → Prop, (∀ n v' s', Kp s s' → C.lo ≤ n → n ≤ s'.toks → VR (Has (Hd C σ F) s'.heap) (P n) v' → Q v' s') → wpAny (model PR C.w) A (eval e C.env) Q E s
theorem EVE.split {o e : Expr} {x y : Str} {ap pos : Pos} {pl : Sem Bool} (ho : EV C σ o (.str x)) (hb : EV C σ e (.str y)) (hy : (y.length == 0) = false) (hyes : (Builtin.Str.occurrences x y 0 x.length (x.length + 1)).isEmpty = false) (hc : (decide (x.length < y.length) || decide (Builtin.Str.strKind x < Builtin.Str.strKind y)) = false) (hsz : x.length ≤ sizeLine)
    (hn : (Builtin.Str.partsBetween x (Builtin.Str.occurrences x y 0 x.length (x.length + 1)) y.length).length ≤ sizeLine) (hst : starEach [e] C.env = [(false, eval e C.env)])
    (he : eval (.Call (.Attribute o "split" ap) [e] [] pos) C.env = (do
      let ov ← eval o C.env
      standAt ap.atName
      let (f, first) ← holding [ov] (getMethod ov "split" pl)
      callWith pos f first (backTo pos (starEach [e] C.env)) [])) :
    EVE C σ (.Call (.Attribute o "split" ap) [e] [] pos) (fun n => .list (newsTo C.lo n (Builtin.Str.partsBetween x (Builtin.Str.occurrences x y 0 x.length (x.length + 1)) y.length))) := fun F A E s ok S Q hQ => by
  refine MethodCall_ (pl := pl) (ho F A E s ok S _ fun o' s₁ k r => ?_) he
  cases r
  refine GM.split ?_
  have S1 := S.keeps k
  refine PyProof.Rows.callWith_method1 (args_cons (hb F A E s₁ ok S1 _ fun v₂ s₂ k₂ r₂ => args_nil ?_) hst) hst rfl
  cases r₂
  have S2 := S1.keeps k₂
  refine call_meets PySem.F.slot_str_split (typeIs_str _ _ _) PySem.F.entry_str_split (PySem.F.args_str_split_2 _ _) (meets_str_split_sep x y _ _ hc hy hyes hsz hn) ?_
  show wants Q E _ _
  rw [strsFrom_eq]
  exact hQ (s₂.toks + (Builtin.Str.partsBetween x (Builtin.Str.occurrences x y 0 x.length (x.length + 1)) y.length).length) _ _ ((k.trans k₂).trans (Kp.pushk _ (Nat.le_add_right _ _))) (Nat.le_trans S2.tk.2 (Nat.le_add_right _ _)) (Nat.le_refl _) (.list (n := 0) ⟨Heap.get?_push_size _ rfl, freshOut S2.low⟩ (VRs.numberedTo S2.tk.2 (Nat.le_refl _)))

noncomputable def pickV {α : Type} (xs : List α) (lo hi st : Option Int) : List α :=
  (sliceRange (sliceBounds lo hi st xs.length).1 (sliceBounds lo hi st xs.length).2.1 (sliceBounds lo hi st xs.length).2.2).filterMap (xs[·]?)
theorem VRs.pick {W : Addr → Obj → Prop} {xs : List V} {vs : List Value} (h : VRs W xs vs) : ∀ js : List Nat, VRs W (js.filterMap (xs[·]?)) (js.filterMap (vs[·]?))
  | [] => .nil
  | j :: js => by
    rw [List.filterMap_cons, List.filterMap_cons]
    cases hx : xs[j]? with
    | none =>
      have : vs[j]? = none := by rw [List.getElem?_eq_none_iff] at hx ⊢; rw [h.length]; exact hx
      rw [this]; exact VRs.pick h js
    | some x =>
      obtain ⟨v, hv, r⟩ := h.get hx
      rw [hv]; exact .cons r (VRs.pick h js)
theorem pick_len {α : Type} (xs : List α) (lo hi st : Option Int) : True := trivial
noncomputable def EP (C : Cx) (σ : Sg) : Option Expr → Option Int → Prop
  | none, none => True
  | some e, some i => EV C σ e (.int i)
  | _, _ => False
theorem EP.run {e : Option Expr} {i : Option Int} (h : EP C σ e i) {F : List (Addr × Obj)} {A : Around} {E : Value → Shared → Prop} {s : Shared} (ok : AOk A C.d) (S : Vw C σ F s) {Q : Value → Shared → Prop} (hQ : ∀ v' s', Kp s s' → IsPart v' i → Q v' s') : wpAny (model PR C.w) A (evalPart e C.env) Q E s := by
  cases e with
  | none =>
    cases i with
    | none => exact evalPart_none_step (hQ _ _ (Kp.refl _) .none)
    | some i => exact h.elim
  | some e =>
    cases i with
    | none => exact h.elim
    | some i => exact evalPart_some_step (h F A E s ok S _ fun v' s' k r => by cases r; exact hQ _ _ k (.int _ _))
theorem slice_core {value : Expr} {l u st : Option Expr} {p pos : Pos} {F : List (Addr × Obj)} {A : Around} {E : Value → Shared → Prop} {s₁ : Shared} {xs : List V} {v₁ : Value} {lo hi stp : Option Int} (ok : AOk A C.d) (S1 : Vw C σ F s₁) (r₁ : VR (Has (Hd C σ F) s₁.heap) (.list xs) v₁) (hl : EP C σ l lo) (hu : EP C σ u hi) (hs : EP C σ st stp) (h0 : stp ≠ some 0) (hsz : xs.length ≤ sizeLine)
    {Q : Value → Shared → Prop} (hQ : ∀ a s' vs, Kp s₁ s' → s₁.heap.get? a = none → s'.heap.PlainList a (List.toArray vs) → VRs (Has (fun b => Hd C σ F b ∨ b = a) s'.heap) (pickV xs lo hi stp) vs → Q (.ref a) s') :
    wpAny (model PR C.w) A (eval (.Slice l u st p) C.env) (fun i s₂ => SubscriptOn (model PR C.w) A v₁ i Q E s₂) E s₁ :=
  wpAny_Slice (hl.run ok S1 fun vl s₂ k₂ pl => hu.run ok (S1.keeps k₂) fun vu s₃ k₃ pu => hs.run ok ((S1.keeps k₂).keeps k₃) fun vst s₄ k₄ ps => by
    have k := (k₂.trans k₃).trans k₄
    replace r₁ := r₁.keeps k
    cases r₁ with
    | list a b =>
      rename_i l n vs
      have hL : s₄.heap.IsList l vs.toArray := ⟨_, a.1, rfl, n, rfl⟩
      refine ⟨"list", _, list_getitem_lookup, (hL.push _).typeIs, wpAny_getItem_list_slice (hsz := by rw [List.size_toArray, b.length]; exact hsz) (hL.push _) (Heap.IsSliceOf.new ..) pl pu ps h0 ?_⟩
      have e : slicePick vs.toArray lo hi stp = (pickV vs lo hi stp).toArray := by unfold slicePick pickV; simp
      rw [e]
      have hb : VRs (Has (Hd C σ F) s₄.heap) (pickV xs lo hi stp) (pickV vs lo hi stp) := by
        unfold pickV; rw [b.length]; exact b.pick _
      have k5 : Kp s₄ { s₄ with heap := s₄.heap.push { cls := .type "slice", data := .fields #[vl, vu, vst] } } := Kp.push _
      refine hQ _ _ (pickV vs lo hi stp) ((k.trans k5).trans (Kp.push _)) ((k.trans k5).fresh (none_size _)) ⟨0, Heap.get?_push_size _ rfl⟩ ((hb.keeps k5).mono pushUp))
theorem EN.slice {value : Expr} {l u st : Option Expr} {p pos : Pos} {xs : List V} {lo hi stp : Option Int} (hv : EV C σ value (.list xs)) (hl : EP C σ l lo) (hu : EP C σ u hi) (hs : EP C σ st stp) (h0 : stp ≠ some 0) (hsz : xs.length ≤ sizeLine)
    (hsl : ∀ o i, ∃ ops, subscripted (.Slice l u st p) false o i = operate ops (getItem o i)) : EN C σ (.Subscript value (.Slice l u st p) pos) (pickV xs lo hi stp) := fun F A E s ok S Q hQ =>
  eval_item hsl (hv F A E s ok S _ fun v₁ s₁ k₁ r₁ => slice_core (value := value) (pos := pos) ok (S.keeps k₁) r₁ hl hu hs h0 hsz fun a s' vs k hn hp r => hQ a s' vs (k₁.trans k) (k₁.fresh hn) hp r)
theorem EVE.slice {value : Expr} {l u st : Option Expr} {p pos : Pos} {xs : Nat → List V} {lo hi stp : Option Int} (hv : EVE C σ value (fun n => .list (xs n))) (hl : EP C σ l lo) (hu : EP C σ u hi) (hs : EP C σ st stp) (h0 : stp ≠ some 0) (hsz : ∀ n, (xs n).length ≤ sizeLine)
    (hsl : ∀ o i, ∃ ops, subscripted (.Slice l u st p) false o i = operate ops (getItem o i)) : EVE C σ (.Subscript value (.Slice l u st p) pos) (fun n => .list (pickV (xs n) lo hi stp)) := fun F A E s ok S Q hQ =>
  eval_item hsl (hv F A E s ok S _ fun n v₁ s₁ k₁ hn1 hn2 r₁ => slice_core (value := value) (pos := pos) ok (S.keeps k₁) r₁ hl hu hs h0 (hsz n) fun a s' vs k hn ⟨m, ho⟩ r => hQ n _ s' (k₁.trans k) hn1 (Nat.le_trans hn2 k.tk) (.list ⟨ho, fun q => by
    obtain ⟨o, ho⟩ := (S.keeps k₁).low a q
    rw [hn] at ho; cases ho⟩ (r.mono fun b o x => ⟨x.1, fun q => x.2 (.inl q)⟩)))

theorem Vw.raise {F : List (Addr × Obj)} {s : Shared} {n : Nat} (S : Vw C σ F s) (h1 : C.lo ≤ n) (h2 : n ≤ s.toks) : Vw { C with lo := n } σ F s := ⟨S.top, ⟨Nat.le_trans S.tk.1 h1, h2⟩, S.fn, S.glob, S.blt, S.ns, S.cells, S.lists, S.objs, S.raws, S.low, S.nd, S.apart, S.free⟩
theorem Fw.raise {s₀ : Shared} {F : List (Addr × Obj)} {s : Shared} {n : Nat} (S : Fw C s₀ σ F s) (h1 : C.lo ≤ n) (h2 : n ≤ s.toks) : Fw { C with lo := n } s₀ σ F s := ⟨S.vw.raise h1 h2, S.same, S.ext, S.top0, S.new, S.nd, S.out, S.cls, S.tk0, S.frs⟩
theorem Fw.lower {s₀ : Shared} {F : List (Addr × Obj)} {s : Shared} {n : Nat} (h0 : 430 ≤ C.lo) (S : Fw { C with lo := n } s₀ σ F s) (h1 : C.lo ≤ n) : Fw C s₀ σ F s := ⟨⟨S.vw.top, ⟨h0, Nat.le_trans h1 S.vw.tk.2⟩, S.vw.fn, S.vw.glob, S.vw.blt, S.vw.ns, S.vw.cells, S.vw.lists, S.vw.objs, S.vw.raws, S.vw.low, S.vw.nd, S.vw.apart, S.vw.free⟩, S.same, S.ext, S.top0, S.new, S.nd, S.out, S.cls, S.tk0, S.frs⟩
theorem EX.assignE {s₀ : Shared} {x : Str} {p : Pos} {e : Expr} {pos : Pos} {rest : List Stmt} {P : Nat → V} {Ψ} (h : EVE C σ e P) (hx : C.env.kindOf x = some .local) (hs : swapsWith e (some (.Name x p)) pos.line C.env = pure false)
    (h1 : ∀ n, C.lo ≤ n → EX { C with lo := n } s₀ { σ with ρ := put x (P n) σ.ρ } rest Ψ) : EX C s₀ σ (.Assign [.Name x p] e pos :: rest) Ψ := fun F A s ok S Q hQ =>
  wpAny_execs_cons (wpAny_Assign_Name (h F A _ s ok S.vw _ fun n v' s' k hn1 hn2 r => withToks ((S.keeps k).store hx r fun s'' S'' l htk => by
    have h2 : n ≤ s''.toks := Nat.le_trans hn2 htk
    exact h1 n hn1 F A s'' ok (S''.raise hn1 h2) Q fun fl σ' f s₃ S₃ l₃ R₃ p₃ => hQ fl σ' f s₃ (S₃.lower S.vw.tk.1 hn1) (((k.le _).trans l).trans l₃) R₃ p₃)) hs)

/-- `x is y or x == y` of strs that cannot be one object unless they are equal -/
theorem EB.isOr {a b a' b' : Expr} {x y : Str} {l1 l2 : Nat} {h1 h2 : Option Nat} {p p' pos : Pos} (ha : EV C σ a (.strT x l1 h1)) (hb : EV C σ b (.strT y l2 h2)) (ha' : EV C σ a' (.strT x l1 h1)) (hb' : EV C σ b' (.strT y l2 h2)) (p1 : 1 ≤ l1) (p2 : 1 ≤ l2)
    (dis : (∃ m, h1 = some m ∧ m ≤ l2) ∨ (∃ m, h2 = some m ∧ m ≤ l1)) (m1 : behindInMarks .Is b = false) (m2 : behindInMarks .Eq b' = false) : EB C σ (.BoolOp .Or [.Compare a [.Is] [b] p, .Compare a' [.Eq] [b'] p'] pos) (x == y) := fun F A E s ok S Q hQ => by
  refine wpAny_isTrue_BoolOp (wpAny_allTrue_Or_cons (wpAny_isTrue_Compare1 (ha F A E s ok S _ fun v₁ s₁ k₁ r₁ => hb F A E s₁ ok (S.keeps k₁) _ fun v₂ s₂ k₂ r₂ => ?_) m1))
  have k12 := k₁.trans k₂
  have S2 := S.keeps k12
  cases r₁ with
  | strT _ t _ _ q1 q2 =>
    cases r₂ with
    | strT _ u _ _ q3 q4 =>
      have htu : t ≠ u := fun e => by
        subst e
        rcases dis with ⟨m, e, hm⟩ | ⟨m, e, hm⟩
        · have := q2 m e; omega
        · have := q4 m e; omega
      have rest : wpAny (model PR C.w) A (allTrue .Or [.Compare a' [.Eq] [b'] p'] C.env) Q E s₂ := wpAny_allTrue_Or_cons ((EB.cmp ha' hb' o_eqST m2) F A E s₂ ok S2 _ fun s₃ k₃ => by
        cases hxy : x == y with
        | true => rw [hxy] at hQ; exact hQ _ (k12.trans k₃)
        | false => rw [hxy] at hQ; exact wpAny_allTrue_Or_nil (hQ _ (k12.trans k₃)))
      show wpAny _ A (isSame (.str x t) (.str y u) >>= fun b => pure (Value.bool b)) _ _ s₂
      have done : ∀ b : Bool, (b = true → (x == y) = true) → wpAny (model PR C.w) A (truthy (Value.bool b)) (fun b s₃ => if b then Q true s₃ else wpAny (model PR C.w) A (allTrue .Or [.Compare a' [.Eq] [b'] p'] C.env) Q E s₃) E s₂ := fun b hb => wpAny_truthy_bool (by
        cases b with
        | true => rw [hb rfl] at hQ; exact hQ _ k12
        | false => exact rest)
      refine wpAny_bind ?_
      show wpAny _ A (isSame.created (x == y) t u) _ _ s₂
      unfold isSame.created
      have z1 : (t == 0 || u == 0) = false := by
        have a1 : t ≠ 0 := by omega
        have a2 : u ≠ 0 := by omega
        simp [a1, a2]
      have z2 : (t == u) = false := by simpa using htu
      rw [z1, z2]
      cases hxy : x == y with
      | false => exact wpAny_pure (wpAny_pure (done false fun e => nomatch e))
      | true =>
        refine wpAny_bind (wpAny_sharingNotTold_none S2.top.nb ?_)
        refine wpAny_bind (wpAny_sharingNotTold_none S2.top.nb ?_)
        exact wpAny_bind (wpAny_rule (wpAny_bind (wpAny_askSetting (wpAny_pure (wpAny_pure (done _ fun _ => hxy))))))

theorem EB.intV {e} {n : Int} (h : EV C σ e (.int n)) (he : isTrue e C.env (eval e C.env) = (do let v ← eval e C.env; standAt e.pos; holding [v] (truthy v))) : EB C σ e (n != 0) := fun F A E s ok S Q hQ =>
  wpAny_isTrue_value (h F A E s ok S _ fun v' s' k r => by cases r; exact PyProof.Rows.truthy_int (hQ _ k)) he
theorem EB.not {e pos b} (h : EB C σ e b) : EB C σ (.UnaryOp .Not e pos) (!b) := fun F A E s ok S Q hQ => wpAny_isTrue_Not (h F A E s ok S _ fun s' k => hQ s' k)
end
end Mine

namespace Mine
open PySem PySem.Spec PySem.Calls PyProof.Rows PySem.W

theorem bindL_other {kd : Str → Option NameKind} : ∀ {binds : List (Str × Value)} {m : Str → Option Value} {x : Str}, x ∉ binds.map (·.1) → bindL kd binds m x = m x
  | [], _, _, _ => rfl
  | (n, v) :: r, m, x, h => by
    rw [List.map_cons, List.mem_cons, not_or] at h
    rw [bindL, bindL_other h.2]
    split
    · exact if_neg h.1
    · rfl
theorem bindC_other {kd : Str → Option NameKind} : ∀ {binds : List (Str × Value)} {m : Str → Option Value} {x : Str}, x ∉ binds.map (·.1) → bindC kd binds m x = m x
  | [], _, _, _ => rfl
  | (n, v) :: r, m, x, h => by
    rw [List.map_cons, List.mem_cons, not_or] at h
    rw [bindC, bindC_other h.2]
    split
    · rfl
    · exact if_neg h.1
theorem bindL_at {kd : Str → Option NameKind} : ∀ {binds : List (Str × Value)} {m : Str → Option Value} {x : Str} {v : Value}, (binds.map (·.1)).Nodup → (x, v) ∈ binds → kd x = some .local → bindL kd binds m x = some v
  | (n, u) :: r, m, x, v, nd, hm, hk => by
    rw [List.map_cons, List.nodup_cons] at nd
    rw [bindL]
    rcases List.mem_cons.mp hm with e | hm
    · cases e
      rw [bindL_other nd.1, if_pos hk]; exact if_pos rfl
    · exact bindL_at nd.2 hm hk
theorem bindC_at {kd : Str → Option NameKind} : ∀ {binds : List (Str × Value)} {m : Str → Option Value} {x : Str} {v : Value}, (binds.map (·.1)).Nodup → (x, v) ∈ binds → kd x ≠ some .local → bindC kd binds m x = some v
  | (n, u) :: r, m, x, v, nd, hm, hk => by
    rw [List.map_cons, List.nodup_cons] at nd
    rw [bindC]
    rcases List.mem_cons.mp hm with e | hm
    · cases e
      rw [bindC_other nd.1, if_neg hk]; exact if_pos rfl
    · exact bindC_at nd.2 hm hk
theorem zip_look {W : Addr → Obj → Prop} : ∀ {ns : List Str} {xs : List V} {us : List Value}, VRs W xs us → ∀ {y u}, (ns.zip xs).lookup y = some u → ∃ u', (y, u') ∈ ns.zip us ∧ VR W u u'
  | [], _, _, _, _, _, e => by cases e
  | n :: ns, _, _, .nil, _, _, e => by cases e
  | n :: ns, _, _, .cons a b, y, u, e => by
    rw [List.zip_cons_cons, List.lookup_cons] at e
    cases hy : y == n with
    | true =>
      rw [hy] at e; cases e
      exact ⟨_, by rw [eq_of_beq hy]; exact List.mem_cons_self, a⟩
    | false =>
      rw [hy] at e
      obtain ⟨u', m, q⟩ := zip_look b e
      exact ⟨u', List.mem_cons_of_mem _ m, q⟩

section
variable {w : World} {f : Addr} {oc pm cdv ct doc : Value} {od an : Option Addr} {osl : Array (Option Value)} {name qual : Str} {params : Arguments} {body : List Stmt} {scope : Scope} {d lo : Nat} {r : V}

/-- a def of the top's with cells, called with values that stand -/
theorem OPQ.fnC {args : List V} {names : List Str} (ho : (hd.heap_39 w.params).lookup f = some ⟨oc, od, .func (fdOf name qual params body scope doc pm an cdv ct), osl⟩) (hcd : codeIn (hd.heap_39 w.params) cdv qual = true)
    (hb : ∀ vs : List Value, vs.length = args.length → bindArgs (fdOf name qual params body scope doc pm an cdv ct) ⟨vs, []⟩ = pure (names.zip vs))
    (hl : names.length = args.length) (hnd : names.Nodup) (hkinds : ∀ L : Addr, (names.all fun n => scope.names.lookup n == some .local || (scope.names.lookup n == some .cell && ((cellsFrom (L + 1) scope.names []).lookup n).isSome)) = true)
    (hco : scope.isCoroutine = false) (hgen : scope.isGenerator = false) (hk : scope.kind = .function)
    (ρ : List (Str × V)) (hρ : ∀ x v, ρ.lookup x = some v → (names.zip args).lookup x = some v ∧ scope.names.lookup x = some .local)
    (cl : Addr → List (Str × Addr × Option V)) (hcl : ∀ L, (cl L).map (fun p => (p.1, p.2.1)) = cellsFrom (L + 1) scope.names []) (hcv : ∀ L x c v, (cl L).lookup x = some (c, some v) → (names.zip args).lookup x = some v ∧ scope.names.lookup x = some .cell)
    (hck : ∀ L, ((cl L).map (·.1)).Nodup)
    (h : ∀ (H : Addr → Prop) (s₀ : Shared) (L : Addr), EX ⟨w, envX qual scope L f cdv (cellsFrom (L + 1) scope.names []), H, d, lo, []⟩ s₀ ⟨ρ, cl L, [], []⟩ body (fun fl _ => Back r fl)) :
    OPQ w lo (fun vs => call (.ref f) vs) args r (d + 1) := by
  intro A E s H vs ok T tk low hvs Q hQ
  have hlen : vs.length = args.length := hvs.length
  refine wpAny_call ?_
  refine codeAny_call_function (fd := fdOf name qual params body scope doc pm an cdv ct) (body := body) ok.room (T.X _ _ ho) rfl hco hgen rfl (codeRec_of T.X hcd) ?_
  rw [hb vs hlen]
  have hfst : (names.zip vs).map (·.1) = names := List.map_fst_zip (by omega)
  refine wpAny_pure (withToks (wpAny_newFunctionEnv_cells hk (fun x hx => ?_) fun env he s₁ x₁ htk => ?_))
  · have := List.all_eq_true.mp (hkinds s.heap.objs.size) x.1 (List.of_mem_zip hx).1
    rw [Bool.or_eq_true, Bool.and_eq_true] at this
    rcases this with q | ⟨q, q2⟩
    · exact .inl (by simpa using q)
    · exact .inr ⟨by simpa using q, q2⟩
  subst he
  refine ⟨T.nolimit.keeps x₁.toInCall.keep, codeAny_func ?_⟩
  have above : ∀ b, s.heap.objs.size ≤ b → s.heap.get? b = none := fun b hb => by
    cases q : s.heap.get? b with
    | none => rfl
    | some o => exact absurd (Heap.lt_size q) (Nat.not_lt.mpr hb)
  have clm : ∀ x c v, (x, c, v) ∈ cl s.heap.objs.size → (x, c) ∈ cellsFrom (s.heap.objs.size + 1) scope.names [] := fun x c v hm => by rw [← hcl]; exact List.mem_map.mpr ⟨_, hm, rfl⟩
  have look : ∀ {l : List (Str × Addr)}, (l.map (·.1)).Nodup → ∀ {x c}, (x, c) ∈ l → l.lookup x = some c := by
    intro l
    induction l with
    | nil => intro _ x c h; cases h
    | cons p l ih =>
      intro nd x c h
      obtain ⟨k, v⟩ := p
      rw [List.map_cons, List.nodup_cons] at nd
      rw [List.lookup_cons]
      rcases List.mem_cons.mp h with e | h
      · cases e; simp
      · have : (x == k) = false := by
          cases q : x == k with
          | false => rfl
          | true => exact absurd (by rw [← eq_of_beq q]; exact List.mem_map.mpr ⟨_, h, rfl⟩) nd.1
        rw [this]; exact ih nd.2 h
  have ndk : ((cellsFrom (s.heap.objs.size + 1) scope.names []).map (·.1)).Nodup := by rw [← hcl, List.map_map]; exact hck _
  have clk : ∀ x c v, (x, c, v) ∈ cl s.heap.objs.size → (cellsFrom (s.heap.objs.size + 1) scope.names []).lookup x = some c := fun x c v hm => look ndk (clm x c v hm)
  have hown : own ⟨ρ, cl s.heap.objs.size, [], []⟩ [] = (cl s.heap.objs.size).map (·.2.1) := by unfold own; simp
  have new : ∀ a, a ∈ s.heap.objs.size :: own ⟨ρ, cl s.heap.objs.size, [], []⟩ [] → s.heap.get? a = none := fun a ha => by
    rcases List.mem_cons.mp ha with rfl | ha
    · exact none_size _
    · rw [hown] at ha
      obtain ⟨⟨x, c, v⟩, hp, rfl⟩ := List.mem_map.mp ha
      exact above _ (Nat.le_of_lt (x₁.above x c (clm x c v hp)))
  have nd : (s.heap.objs.size :: own ⟨ρ, cl s.heap.objs.size, [], []⟩ []).Nodup := by
    rw [hown]
    refine List.nodup_cons.mpr ⟨fun ha => ?_, ?_⟩
    · obtain ⟨⟨x, c, v⟩, hp, e⟩ := List.mem_map.mp ha
      have := x₁.above x c (clm x c v hp)
      have e' : c = s.heap.objs.size := e
      rw [e'] at this; exact Nat.lt_irrefl _ this
    · have e : (cl s.heap.objs.size).map (·.2.1) = (cellsFrom (s.heap.objs.size + 1) scope.names []).map (·.2) := by rw [← hcl, List.map_map]; rfl
      rw [e]
      exact List.pairwise_map.mpr x₁.apart
  have S : Fw ⟨w, envX qual scope s.heap.objs.size f cdv (cellsFrom (s.heap.objs.size + 1) scope.names []), H, d, lo, []⟩ s ⟨ρ, cl s.heap.objs.size, [], []⟩ [] s₁ := by
    have up := oldHas (C := ⟨w, envX qual scope s.heap.objs.size f cdv (cellsFrom (s.heap.objs.size + 1) scope.names []), H, d, lo, []⟩) (σ := ⟨ρ, cl s.heap.objs.size, [], []⟩) (F := []) x₁.toInCall.keep new
    have cellAt : ∀ x c v, (x, c, v) ∈ cl s.heap.objs.size → s₁.heap.IsCell c (bindC (Env.kindOf (newEnv scope s.heap.objs.size mainGlobals (cellsFrom (s.heap.objs.size + 1) scope.names []) (qual ++ ".<locals>.") (some f) cdv none builtinsNs)) (names.zip vs) (fun _ => none) x) := fun x c v hm => x₁.cell x c (clk x c v hm)
    refine ⟨⟨T.keeps x₁.toInCall.keep, ⟨tk.1, Nat.le_trans tk.2 htk⟩, hk, rfl, rfl, ⟨_, x₁.toInCall.ns, fun y u e => ?_⟩, (fun y c u e => ?_), (fun _ hp => by cases hp), (fun _ hp => by cases hp), (fun _ hp => by cases hp), fun a ha => ?_, nd, apartOf (C := ⟨w, envX qual scope s.heap.objs.size f cdv (cellsFrom (s.heap.objs.size + 1) scope.names []), H, d, lo, []⟩) low new, (fun _ _ e => by cases e)⟩,
      x₁.toInCall.same, x₁.toInCall.keep, T, new, nd, low, (fun x c v hm => ⟨clk x c v hm, _, cellAt x c v hm⟩), htk, (fun _ _ e => by cases e)⟩
    · obtain ⟨e1, e2⟩ := hρ y u e
      obtain ⟨u', hm, q⟩ := zip_look hvs e1
      exact ⟨u', bindL_at (by rw [hfst]; exact hnd) hm e2, q.mono up⟩
    · obtain ⟨e1, e2⟩ := hcv _ y c u e
      obtain ⟨u', hm, q⟩ := zip_look hvs e1
      have hmem := lookup_mem e
      refine ⟨clk y c _ hmem, u', ?_, q.mono up⟩
      have z := cellAt y c _ hmem
      rw [bindC_at (by rw [hfst]; exact hnd) hm (by show scope.names.lookup y ≠ _; rw [e2]; decide)] at z
      exact z
    · rcases ha with ha | ha | ha
      · obtain ⟨o, e⟩ := low a ha; exact ⟨o, x₁.toInCall.keep _ _ e⟩
      · obtain ⟨o, _, _, e, _⟩ := x₁.toInCall.ns
        exact ⟨o, by rw [ha]; exact e⟩
      · rw [hown] at ha
        obtain ⟨⟨x, c, v⟩, hp, rfl⟩ := List.mem_map.mp ha
        obtain ⟨o, ho, _⟩ := cellAt x c v hp
        exact ⟨o, ho⟩
  refine wpAny_mono (h H s s.heap.objs.size [] (A.deeper (envX qual scope s.heap.objs.size f cdv (cellsFrom (s.heap.objs.size + 1) scope.names []))) _ (ok.deeper _) S
    (fun fl s' => match (Except.ok (Flow.ret (match fl with | .ret v => v | _ => .none)) : Result) with | .ok (.ret v) => Q v s' | .ok _ => False | .error e => E e s') fun fl σ' f' s' S' l R b => ?_) (fun _ _ x => x) (fun _ _ x => x.elim)
  have hkp : Kp s s' := ⟨S'.same, S'.ext, S'.tk0⟩
  have down : ∀ a o, Has (Hd ⟨w, envX qual scope s.heap.objs.size f cdv (cellsFrom (s.heap.objs.size + 1) scope.names []), H, d, lo, []⟩ σ' []) s'.heap a o → Has H s'.heap a o := fun a o x => ⟨x.1, fun q => x.2 (.inl q)⟩
  rcases b with rfl | ⟨rfl, rfl⟩
  · cases f' <;> first | exact R.elim | exact hQ _ _ hkp (VR.mono down R)
  · cases f' <;> first | exact R.elim | exact hQ _ _ hkp .none
end
end Mine

namespace Mine
open PySem PySem.Spec PySem.Calls PyProof.Rows PySem.W

theorem carried_txt {l : List (Str × Tok)} : CarriedAll (strValues l) ((l.map (·.1)).map PyData.str) := by
  induction l with
  | nil => exact .nil
  | cons p l ih => exact .cons (.str _ _) ih
theorem carried_int : ∀ {ps : List (Int × Tok)}, CarriedAll (ps.map fun p => Value.int p.1 p.2) ((ps.map (·.1)).map PyData.int)
  | [] => .nil
  | _ :: r => .cons (.int _ _) carried_int
theorem eqvAll_self : ∀ ts : List Str, PyData.eqvAll (ts.map PyData.str) (ts.map PyData.str) = true
  | [] => by simp [PyData.eqvAll]
  | x :: r => by simp [PyData.eqvAll, PyData.eqv, eqvAll_self r]
theorem shaped_txt {ts : List Str} (h : ts.all PyData.strOk = true) : SeqAt.shaped (.list (ts.map PyData.str)) = true := by
  have a : PyData.canLayAll0 (ts.map PyData.str) = true := by
    induction ts with
    | nil => rfl
    | cons x r ih =>
      simp only [List.all_cons, Bool.and_eq_true] at h
      simp [PyData.canLayAll0, PyData.canLay0, h.1, ih h.2]
  have b : PyData.depthAll (ts.map PyData.str) = 0 := by
    clear h a
    induction ts with
    | nil => rfl
    | cons x r ih => simp [PyData.depthAll, PyData.depth, ih]
  simp [SeqAt.shaped, PyData.canLay0, PyData.depth, a, b]
theorem shaped_int (ns : List Int) : SeqAt.shaped (.list (ns.map PyData.int)) = true := by
  have a : PyData.canLayAll0 (ns.map PyData.int) = true := by
    induction ns with
    | nil => rfl
    | cons x r ih => simp [PyData.canLayAll0, PyData.canLay0, ih]
  have b : PyData.depthAll (ns.map PyData.int) = 0 := by
    clear a
    induction ns with
    | nil => rfl
    | cons x r ih => simp [PyData.depthAll, PyData.depth, ih]
  simp [SeqAt.shaped, PyData.canLay0, PyData.depth, a, b]

section
variable {w : World} {d : Nat}
theorem o_neSame {xs ys : List V} {ts : List Str} (hx : areTxt xs ts) (hy : areTxt ys ts) (hs : ts.all PyData.strOk = true) : OP2 w d (compareOp .NotEq) (.list xs) (.list ys) (.bool false) := fun A E s H u v ok T tk low hu hv Q hQ => by
  cases hu with
  | list a1 b1 =>
    cases hv with
    | list a2 b2 =>
      rename_i l1 n1 vs1 l2 n2 vs2
      obtain ⟨p, rfl, e1⟩ := strs_of b1 hx
      obtain ⟨q, rfl, e2⟩ := strs_of b2 hy
      have r1 := reads_newData (h := s.heap) (D := l1) ⟨_, a1.1, rfl, n1, rfl⟩ (carried_txt (l := p))
      have r2 := reads_newData (h := s.heap) (D := l2) ⟨_, a2.1, rfl, n2, rfl⟩ (carried_txt (l := q))
      rw [e1] at r1; rw [e2] at r2
      refine ne_dataH r1 r2 (shaped_txt hs) (shaped_txt hs) (by have := ok.un; show _ < 9900; omega) ?_
      have e : PyData.eqv (.list (ts.map PyData.str)) (.list (ts.map PyData.str)) = true := by simp only [PyData.eqv]; exact eqvAll_self ts
      rw [e]
      exact hQ _ _ (Kp.refl _) (.bool _)
theorem o_eqNil {ns : List Int} (hne : ns ≠ []) : OP2 w d (compareOp .Eq) (.list (intsV ns)) (.list []) (.bool false) := fun A E s H u v ok T tk low hu hv Q hQ => by
  cases hu with
  | list a1 b1 =>
    cases hv with
    | list a2 b2 =>
      cases b2
      rename_i l1 n1 vs1 l2 n2
      obtain ⟨p, rfl, e1⟩ := ints_of b1
      have r1 := reads_newData (h := s.heap) (D := l1) ⟨_, a1.1, rfl, n1, rfl⟩ (carried_int (ps := p))
      have r2 := reads_newData (h := s.heap) (D := l2) (ys := []) ⟨_, a2.1, rfl, n2, rfl⟩ .nil
      rw [e1] at r1
      refine eq_dataH r1 r2 (shaped_int ns) (shaped_int []) (by have := ok.un; show _ < 9900; omega) ?_
      have e : PyData.eqv (.list (ns.map PyData.int)) (.list []) = false := by
        cases ns with
        | nil => exact absurd rfl hne
        | cons x r => simp [PyData.eqv, PyData.eqvAll]
      rw [e]
      exact hQ _ _ (Kp.refl _) (.bool _)
theorem o_mulS {x : Str} {n : Int} (h0 : 0 ≤ n) (hn : n ≤ 10000) (hx : x.length ≤ 1000) : OP2 w d (binaryOp .Mult) (.str x) (.int n) (.str (Txt.mul x n)) := fun A E s H u v ok T tk low hu hv Q hQ => by
  cases hu; cases hv
  refine withToks (SB.mul ⟨by simp; omega, fun h1 h2 => ?_, fun h1 h2 => ?_⟩ fun t' k hk => hQ _ _ (Kp.tokk hk) (.str _ _))
  · have : (1000 : Int) ≤ (2 ^ 63 - 1) / n := by
      rw [Int.le_ediv_iff_mul_le (by omega)]
      omega
    omega
  · unfold Builtin.Str.tooLong
    have : x.length * n.toNat ≤ 1000 * 10000 := Nat.mul_le_mul hx (by omega)
    simp only [decide_eq_false_iff_not, Nat.not_lt]
    exact Nat.le_trans this (by decide)
end
end Mine

namespace Mine
open PySem PySem.Spec PySem.Calls PyProof.Rows PySem.W

noncomputable def comma : Str := ", "
noncomputable def CF (x : Str) : Prop := ∀ k : Nat, x.cps.toList[k]? = some 44 → x.cps.toList[k + 1]? = some 32
theorem at_of {x : Str} (h : CF x) {k : Nat} (hk : x.cps.toList[k]? = some 44) : StrLaws.At x comma x.length k := by
  have h2 := h k hk
  have hlt : k + 1 < x.cps.toList.length := (List.getElem?_eq_some_iff.mp h2).1
  have hn : x.cps.toList.length = x.length := by simp [Str.length]
  refine ⟨by show k + 2 ≤ x.length; omega, ?_⟩
  rw [StrLaws.subAt_eq]
  have e : (x.cps.toList.drop k).take comma.length = [44, 32] := by
    show (x.cps.toList.drop k).take 2 = [44, 32]
    rw [drop_at hk, drop_at h2]
    rfl
  rw [e]; rfl
theorem at_is {x : Str} {k : Nat} (h : StrLaws.At x comma x.length k) : x.cps.toList[k]? = some 44 := by
  have h2 := h.2
  rw [StrLaws.subAt_eq] at h2
  have h3 := eq_of_beq h2
  have h4 : ((x.cps.toList.drop k).take comma.length)[0]? = some 44 := by rw [h3]; rfl
  rw [List.getElem?_take_of_lt (by decide), List.getElem?_drop] at h4
  simpa using h4
theorem part_free2 {x : Str} (h : CF x) {a b : Nat} (hn : ∀ k, a ≤ k → k < b → ¬ StrLaws.At x comma x.length k) : 44 ∉ (Builtin.Str.strSub x a b).cps.toList := by
  intro hm
  rw [StrLaws.strSub_toList] at hm
  obtain ⟨j, hj⟩ := List.getElem?_of_mem hm
  have hlt : j < b - a := by
    have h1 : j < ((x.cps.toList.drop a).take (b - a)).length := (List.getElem?_eq_some_iff.mp hj).1
    simp at h1
    omega
  rw [List.getElem?_take_of_lt hlt, List.getElem?_drop] at hj
  exact hn (a + j) (by omega) (by omega) (at_of h hj)
theorem parts_free2 {x : Str} (h : CF x) : ∀ (cuts : List Nat) (a f : Nat), StrLaws.ChainG x comma x.length a cuts f → (∀ k, f ≤ k → ¬ StrLaws.At x comma x.length k) → ∀ p ∈ StrLaws.partsFrom x comma.length a cuts, 44 ∉ p.cps.toList
  | [], a, f, hc, hn, p, hp => by
    have e : f = a := hc
    subst e
    rw [List.mem_singleton.mp hp]
    exact part_free2 h fun k h1 _ => hn k h1
  | d :: r, a, f, hc, hn, p, hp => by
    rcases List.mem_cons.mp hp with rfl | hp'
    · exact part_free2 h hc.2.2.1
    · exact parts_free2 h r _ f hc.2.2.2 hn p hp'
theorem join_toList : ∀ (p : Str) (r : List Str), (Str.join comma (p :: r)).cps.toList = p.cps.toList ++ (r.flatMap fun q => [44, 32] ++ q.cps.toList)
  | p, [] => by show p.cps.toList = _; simp
  | p, q :: r => by
    show (p ++ comma ++ Str.join comma (q :: r)).cps.toList = _
    have ih := join_toList q r
    show ((p.cps ++ comma.cps) ++ (Str.join comma (q :: r)).cps).toList = _
    rw [Array.toList_append, Array.toList_append, ih]
    simp only [List.flatMap_cons, List.append_assoc]
    rfl
theorem join_cf : ∀ (r : List Str) (p : Str), (∀ q ∈ p :: r, 44 ∉ q.cps.toList) → CF (Str.join comma (p :: r)) := by
  intro r
  induction r with
  | nil =>
    intro p h k hk
    have : Str.join comma [p] = p := rfl
    rw [this] at hk
    exact absurd (List.mem_of_getElem? hk) (h p (.head _))
  | cons q r ih =>
    intro p h k hk
    rw [join_toList] at hk ⊢
    have ih' := ih q fun z hz => h z (.tail _ hz)
    unfold CF at ih'
    rw [join_toList] at ih'
    simp only [List.flatMap_cons, List.cons_append, List.nil_append] at hk ⊢
    rcases Nat.lt_trichotomy k p.cps.toList.length with h1 | h1 | h1
    · rw [List.getElem?_append_left h1] at hk
      exact absurd (List.mem_of_getElem? hk) (h p (.head _))
    · subst h1
      rw [List.getElem?_append_right (by omega)]
      have : p.cps.toList.length + 1 - p.cps.toList.length = 1 := by omega
      rw [this]; rfl
    · rw [List.getElem?_append_right (by omega)] at hk
      rw [List.getElem?_append_right (by omega)]
      obtain ⟨m, hm⟩ : ∃ m, k = p.cps.toList.length + 1 + m := ⟨k - (p.cps.toList.length + 1), by omega⟩
      subst hm
      have e1 : p.cps.toList.length + 1 + m - p.cps.toList.length = m + 1 := by omega
      have e2 : p.cps.toList.length + 1 + m + 1 - p.cps.toList.length = m + 2 := by omega
      rw [e1] at hk
      rw [e2]
      rw [List.getElem?_cons_succ] at hk ⊢
      cases m with
      | zero => cases hk
      | succ m =>
        rw [List.getElem?_cons_succ] at hk ⊢
        exact ih' m hk
theorem join_inj : ∀ {ps qs : List Str}, ps ≠ [] → qs ≠ [] → (∀ p ∈ ps, 44 ∉ p.cps.toList) → (∀ q ∈ qs, 44 ∉ q.cps.toList) → Str.join comma ps = Str.join comma qs → ps = qs := by
  have key : ∀ {a b u v : List Nat}, 44 ∉ a → 44 ∉ b → (u = [] ∨ ∃ u', u = 44 :: u') → (v = [] ∨ ∃ v', v = 44 :: v') → a ++ u = b ++ v → a = b ∧ u = v := by
    intro a
    induction a with
    | nil =>
      intro b u v ha hb hu hv e
      cases b with
      | nil => exact ⟨rfl, e⟩
      | cons y b =>
        rcases hu with rfl | ⟨u', rfl⟩
        · simp at e
        · simp at e
          exact absurd (by rw [← e.1]; exact List.mem_cons_self) hb
    | cons x a ih =>
      intro b u v ha hb hu hv e
      cases b with
      | nil =>
        rcases hv with rfl | ⟨v', rfl⟩
        · simp at e
        · simp at e
          exact absurd (by rw [e.1]; exact List.mem_cons_self) ha
      | cons y b =>
        simp only [List.cons_append, List.cons.injEq] at e
        obtain ⟨e1, e2⟩ := ih (fun h => ha (.tail _ h)) (fun h => hb (.tail _ h)) hu hv e.2
        exact ⟨by rw [e.1, e1], e2⟩
  intro ps
  induction ps with
  | nil => intro qs h; exact absurd rfl h
  | cons p ps ih =>
    intro qs _ hq hp hq' e
    cases qs with
    | nil => exact absurd rfl hq
    | cons q qs =>
      have e' := congrArg (fun s : Str => s.cps.toList) e
      simp only [join_toList] at e'
      have st : ∀ r : List Str, (r.flatMap fun q => [44, 32] ++ q.cps.toList) = [] ∨ ∃ u', (r.flatMap fun q => [44, 32] ++ q.cps.toList) = 44 :: u' := fun r => by
        cases r with
        | nil => exact .inl rfl
        | cons z r => exact .inr ⟨_, rfl⟩
      obtain ⟨e1, e2⟩ := key (hp p (.head _)) (hq' q (.head _)) (st ps) (st qs) e'
      have epq : p = q := by cases p; cases q; congr 1; exact Array.toList_inj.mp e1
      subst epq
      cases ps with
      | nil =>
        cases qs with
        | nil => rfl
        | cons z qs => simp at e2
      | cons z ps =>
        cases qs with
        | nil => simp at e2
        | cons y qs =>
          simp only [List.flatMap_cons, List.cons_append, List.nil_append, List.cons.injEq, true_and] at e2
          have : z :: ps = y :: qs := ih (by simp) (by simp) (fun r hr => hp r (.tail _ hr)) (fun r hr => hq' r (.tail _ hr)) (by
            have e3 : (Str.join comma (z :: ps)).cps.toList = (Str.join comma (y :: qs)).cps.toList := by rw [join_toList, join_toList]; exact e2
            generalize Str.join comma (z :: ps) = A at e3
            generalize Str.join comma (y :: qs) = B at e3
            cases A; cases B; congr 1; exact Array.toList_inj.mp e3)
          rw [this]
theorem occ_free {x : Str} (h : 44 ∉ x.cps.toList) : (Builtin.Str.occurrences x comma 0 x.length (x.length + 1)).isEmpty = true := by
  obtain ⟨f, hG, hn⟩ := StrLaws.occ_tight x comma (by decide)
  generalize Builtin.Str.occurrences x comma 0 x.length (x.length + 1) = cuts at hG
  cases cuts with
  | nil => rfl
  | cons c r => exact absurd (List.mem_of_getElem? (at_is hG.2.1)) h
theorem split_join {ps : List Str} (hne : 2 ≤ ps.length) (hp : ∀ p ∈ ps, 44 ∉ p.cps.toList) :
    (Builtin.Str.occurrences (Txt.join comma ps) comma 0 (Txt.join comma ps).length ((Txt.join comma ps).length + 1)).isEmpty = false ∧ Builtin.Str.partsBetween (Txt.join comma ps) (Builtin.Str.occurrences (Txt.join comma ps) comma 0 (Txt.join comma ps).length ((Txt.join comma ps).length + 1)) comma.length = ps := by
  have ej : Txt.join comma ps = Str.join comma ps := StrLaws.glued_eq_join _ _
  rw [ej]
  match ps, hne with
  | p :: q :: r, hne =>
    have cf := join_cf (q :: r) p hp
    obtain ⟨f, hG, hn⟩ := StrLaws.occ_tight (Str.join comma (p :: q :: r)) comma (by decide)
    have free := parts_free2 cf _ 0 f hG hn
    obtain ⟨g, hC⟩ := StrLaws.occ_chain (Str.join comma (p :: q :: r)) comma ((Str.join comma (p :: q :: r)).length + 1)
    have jp := StrLaws.join_partsFrom _ _ _ 0 g hC
    rw [StrLaws.sub_whole] at jp
    rw [StrLaws.partsBetween_eq]
    have e := join_inj (ps := StrLaws.partsFrom (Str.join comma (p :: q :: r)) comma.length 0 (Builtin.Str.occurrences (Str.join comma (p :: q :: r)) comma 0 (Str.join comma (p :: q :: r)).length ((Str.join comma (p :: q :: r)).length + 1))) (by
      obtain ⟨a, b, e⟩ := StrLaws.partsFrom_ne (Str.join comma (p :: q :: r)) comma.length 0 (Builtin.Str.occurrences (Str.join comma (p :: q :: r)) comma 0 (Str.join comma (p :: q :: r)).length ((Str.join comma (p :: q :: r)).length + 1))
      rw [e]; simp) (by simp) free hp jp
    refine ⟨?_, e⟩
    cases hc : Builtin.Str.occurrences (Str.join comma (p :: q :: r)) comma 0 (Str.join comma (p :: q :: r)).length ((Str.join comma (p :: q :: r)).length + 1) with
    | nil =>
      rw [hc] at e
      have := congrArg List.length e
      simp [StrLaws.partsFrom] at this
    | cons => rfl
end Mine

namespace Mine
open PySem PySem.Spec PySem.Calls PyProof.Rows PySem.W

section
variable {C : Cx} {s₀ : Shared} {σ : Sg}
/-- a tuple target that takes a list apart -/
theorem TG.tupL {es : List Expr} {k : Nat} {p : Pos} {xs : List V} {σ₁ : Sg} (h : TGs C s₀ σ es xs σ₁) (he : assignEach es C.env = es.map fun e => (false, assign e C.env)) : TG C s₀ σ (.Tuple es k p) (.list xs) σ₁ := fun F A E s v ok S r Q hQ => by
  cases r with
  | list ht hv =>
    rename_i t n vs
    have hlen : (assignEach es C.env).length = vs.toArray.size := by rw [he, List.length_map, h.length, List.size_toArray, hv.length]
    have hl : s.heap.IsList t vs.toArray := ⟨_, ht.1, rfl, n, rfl⟩
    rw [arm_assign_Tuple]
    refine wpAny_bind (wpAny_standAt ?_)
    unfold unpack
    have hno : (assignEach es C.env).findIdx? (·.1) = none := by rw [he, List.findIdx?_eq_none_iff]; intro x hx; obtain ⟨e, _, rfl⟩ := List.mem_map.mp hx; rfl
    rw [hlen, hno]
    refine wpAny_bind (wpAny_holding (kun_itemsOf ok.hh hl fun h' ext => ?_))
    have k : Kp s { s with heap := h' } := ⟨⟨h', s.toks, rfl⟩, fun b o e => ext b o (Nat.ne_of_lt (Heap.lt_size e)) e, Nat.le_refl _⟩
    rw [he, List.map_map]
    exact TGs.run ok h (S.keeps k) (hv.keeps k) fun s' S' l => hQ s' S' ((k.le _).trans l)
end
theorem pickV_map {α β : Type} (f : α → β) (xs : List α) (lo hi st : Option Int) : pickV (xs.map f) lo hi st = (pickV xs lo hi st).map f := by
  unfold pickV
  rw [List.length_map]
  generalize sliceRange _ _ _ = js
  induction js with
  | nil => rfl
  | cons j js ih =>
    rw [List.filterMap_cons, List.filterMap_cons, List.getElem?_map]
    cases h : xs[j]? with
    | none => exact ih
    | some x => exact congrArg _ ih
theorem pickV_ints (ns : List Int) (lo hi st : Option Int) : pickV (intsV ns) lo hi st = intsV (pickV ns lo hi st) := pickV_map _ _ _ _ _
end Mine

namespace Mine
open PySem PySem.W in
theorem fillF1 : (hd.heap_39 = hd.heap_39) ∧ (PySem.Challenge.rw_wj0033_01 = PySem.Challenge.rw_wj0033_01) := by k_fill; exact ⟨rfl, rfl⟩
open PySem PySem.Spec PySem.Calls PyProof.Rows PySem.W



noncomputable def colStep (size : Int) (c : Int) (cp : Nat) : Int := if cp == 32 then c + 1 else c - c.fmod size + size
noncomputable def colOf (size : Int) (cps : List Nat) : Int := cps.foldl (colStep size) 0
noncomputable def colsOf (cps : List Nat) : List Int := (List.range 6).map fun i : Nat => colOf (1 + (i : Int)) cps

theorem fn_columns {w : World} {lo d : Nat} {lead : Str} : OPQ w lo (fun vs => call (.ref 151) vs) [.str lead] (.list ((colsOf lead.cps.toList).map .int)) (d + 1) := by
  refine' OPQ.fn (names := ["lead"]) ?k1 ?k2 ?kb ?kl ?kn ?k3 ?k4 ?k5 ?k6 ?k7 ?kx
  case k1 => k_is
  case k2 => k_is
  case kb => refine binds1 ?_; intros; rfl
  case kl => rfl
  case kn => decide
  case k3 => rfl
  case k4 => rfl
  case k5 => rfl
  case k6 => rfl
  case k7 => rfl
  intro H s₀ L
  refine EX.of (ES.assignNew (EN.list EVs.nil (by decide)) rfl rfl fun a => ?_)
  refine EX.of (ES.for (xs := upTo 1 6) (EI.range (a := 1) (b := 7) (EV.callT (EV.glob g_range rfl) (EVs.cons EV.int (EVs.cons EV.int EVs.nil rfl) rfl) o_range2 rfl rfl) (by decide) (by decide) (by decide) (by decide))
    (fun i σ' => σ' = ⟨[("lead", .str lead), ("told", .mr a)], [], [(a, ((colsOf lead.cps.toList).take i).map .int)], []⟩) rfl (fun i x σ' hx e => ?_) (fun σ' e => ?_) (fun _ => rfl))
  · subst e
    obtain ⟨hi, rfl⟩ := upTo_get hx
    have hcol : (colsOf lead.cps.toList)[i]? = some (colOf (1 + (i : Int)) lead.cps.toList) := by unfold colsOf; rw [List.getElem?_map, List.getElem?_range hi]; rfl
    refine ⟨_, TG.name rfl, EX.assign EV.int rfl rfl (EX.of (ES.for (EI.str (EV.name (v := .str lead) rfl rfl))
      (fun j σ'' => σ'' = ⟨[("lead", .str lead), ("told", .mr a), ("size", .int (1 + (i : Int))), ("column", .int ((lead.cps.toList.take j).foldl (colStep (1 + (i : Int))) 0))], [], [(a, ((colsOf lead.cps.toList).take i).map .int)], []⟩) rfl (fun j x σ'' hx e => ?_) (fun σ'' e => ?_) (fun _ => rfl)))⟩
    · subst e
      obtain ⟨c, hc, rfl⟩ := signs_get hx
      refine ⟨_, TG.name rfl, EX.assign (v := .int (colStep (1 + (i : Int)) ((lead.cps.toList.take j).foldl (colStep (1 + (i : Int))) 0) c)) (EV.ite (EB.cmp (EV.name rfl rfl) EV.str o_eqS rfl) (fun h => ?_) (fun h => ?_)) rfl rfl (EX.nil ?_)⟩
      · refine (EV.bin (EV.name rfl rfl) EV.int o_add).cast ?_
        have h' : (c == 32) = true := (one_beq c 32).symm.trans h
        unfold colStep; rw [if_pos h']
      · refine (EV.bin (EV.bin (EV.name rfl rfl) (EV.bin (EV.name rfl rfl) (EV.name rfl rfl) (o_mod (by omega))) o_sub) (EV.name rfl rfl) o_add).cast ?_
        have h' : (c == 32) = false := (one_beq c 32).symm.trans h
        unfold colStep; rw [h']; rfl
      · refine Turn.to rfl ⟨rfl, rfl, rfl, ?_, trivial⟩ (ClSub.refl _) rfl rfl
        rw [foldl_take _ _ _ hc]; rfl
    · subst e
      refine EX.done (EX.of (ES.append (i := 0) rfl (by decide) rfl rfl (small ?_) (EV.name rfl rfl) rfl rfl rfl rfl rfl (EX.nil (Turn.to rfl ⟨rfl, rfl, trivial⟩ (ClSub.refl _) ?_ rfl))))
      · simp only [List.length_map, List.length_take]; omega
      · rw [map_take _ _ hcol, signs_len, List.take_length]; rfl
  · subst e
    refine EX.done (EX.freeze 0 "told" rfl rfl ?_)
    refine EX.ret (v := .list ((colsOf lead.cps.toList).map .int)) (EV.name ?_ rfl) (.inl rfl)
    show some (V.list (((colsOf lead.cps.toList).take (upTo 1 6).length).map .int)) = _
    rw [List.take_of_length_le]
    rw [upTo_len]; unfold colsOf; simp
end Mine

namespace Mine
open PySem PySem.W in
theorem fillF2 : (hd.heap_39 = hd.heap_39) ∧ (PySem.Challenge.rw_wj0033_01 = PySem.Challenge.rw_wj0033_01) := by k_fill; exact ⟨rfl, rfl⟩
open PySem PySem.Spec PySem.Calls PyProof.Rows PySem.W

structure Ws where
  b : Int
  n : Int
  nt : Int
  count : List Int
noncomputable def Ws.sp (w : Ws) : Ws := ⟨w.b + 1, w.n + 1, w.nt, w.count⟩
noncomputable def Ws.room (w : Ws) : List Int := if w.count.length ≤ w.b then w.count ++ List.replicate (w.b - w.count.length + 1).toNat 0 else w.count
noncomputable def Ws.tb (w : Ws) : Ws := ⟨0, w.n + 1, w.nt + 1, w.room.set w.b.toNat (w.room.getD w.b.toNat 0 + 1)⟩
noncomputable def wsRun : List Nat → Ws → Ws
  | [], w => w
  | c :: cs, w => if c == 32 then wsRun cs w.sp else if c == 9 then wsRun cs w.tb else w
noncomputable def wsOf (cps : List Nat) : Ws := wsRun cps ⟨0, 0, 0, []⟩
noncomputable def wsFields (text : Str) : List (Str × V) :=
  let w := wsOf text.cps.toList
  [("raw", .str text), ("n", .int w.n), ("nt", .int w.nt), ("norm", .tup [.tup (intsV w.count), .int w.b]), ("is_simple", .bool (decide (w.count.length ≤ 1)))]


noncomputable def wst (text : Str) (x dx a : Addr) (W : Ws) (O : List (Addr × List V)) : Sg :=
  ⟨[("self", .mr x), ("ws", .str text), ("T", .str "\t"), ("S", .str " "), ("count", .mr a), ("b", .int W.b), ("n", .int W.n), ("nt", .int W.nt)], [], (a, intsV W.count) :: O, [(x, dx, [("raw", .str text)])]⟩
theorem wsRun_bd : ∀ (cs : List Nat) (W : Ws) (k : Nat), 0 ≤ W.b → W.b ≤ k → W.count.length ≤ k → 0 ≤ (wsRun cs W).b ∧ (wsRun cs W).b ≤ (k + cs.length : Nat) ∧ (wsRun cs W).count.length ≤ k + cs.length
  | [], W, k, h0, h1, h2 => ⟨h0, h1, h2⟩
  | c :: cs, W, k, h0, h1, h2 => by
    rw [wsRun]
    have hroomlen : W.room.length ≤ k + 1 := by
      unfold Ws.room
      split
      · rw [List.length_append, List.length_replicate]; omega
      · omega
    have e : k + (c :: cs).length = (k + 1) + cs.length := by simp; omega
    rw [e]
    split
    · exact wsRun_bd cs W.sp (k + 1) (by show 0 ≤ W.b + 1; omega) (by show W.b + 1 ≤ _; push_cast; omega) (by show W.count.length ≤ _; omega)
    · split
      · exact wsRun_bd cs W.tb (k + 1) (by show (0 : Int) ≤ 0; omega) (by show (0 : Int) ≤ _; omega) (by show (W.room.set _ _).length ≤ _; rw [List.length_set]; exact hroomlen)
      · exact ⟨h0, by push_cast; omega, by omega⟩
theorem wsOf_bd (cps : List Nat) : 0 ≤ (wsOf cps).b ∧ (wsOf cps).b ≤ cps.length ∧ (wsOf cps).count.length ≤ cps.length := by
  have := wsRun_bd cps ⟨0, 0, 0, []⟩ 0 (by decide) (by decide) (by decide)
  simpa [wsOf] using this
theorem wsOf_len {cps : List Nat} {m : Nat} (h : cps.length ≤ m) : (wsOf cps).count.length ≤ m := Nat.le_trans (wsOf_bd cps).2.2 h

set_option maxHeartbeats 1000000 in
theorem fn_init {w : World} {lo d : Nat} {text : Str} (hlen : text.cps.toList.length ≤ 1000) : OPQ w lo (fun vs => call (.ref 83) vs) [.str text] (.obj ((wsFields text).map (·.2))) (d + 2) := by
  refine' OPQ.make (fs := wsFields text) rfl ?k1 ?k2 ?kb ?k3 ?k4 ?k5 ?k6 ?k7 ?kx
  case k1 => k_is
  case k2 => k_is
  case kb => refine binds2 ?_; intros; rfl
  case k3 => rfl
  case k4 => rfl
  case k5 => rfl
  case k6 => rfl
  case k7 => rfl
  intro H s₀ L x dx
  refine EX.of (ES.setAttr rfl rfl (by decide) rfl rfl (EV.name (v := .str text) rfl rfl) t_raw (by decide) (by decide) rfl ?_)
  refine EX.of (ES.swap2 (EV.tuple (EVs.cons (EV.clsStr (EV.glob g_Whitespace rfl) c_S) (EVs.cons (EV.clsStr (EV.glob g_Whitespace rfl) c_T) EVs.nil rfl) rfl) (by decide)) rfl rfl rfl rfl ?_)
  refine EX.of (ES.assignNew (EN.list EVs.nil (by decide)) rfl rfl fun a => ?_)
  refine EX.of (ES.assign3 EV.int rfl rfl rfl rfl ?_)
  refine ES.then (fun fl σ' => fl = .next ∧ ∃ a O, Sub (wst text x dx a (wsOf text.cps.toList) O) σ') (ES.for (EI.str (EV.attrD 0 0 rfl rfl (by decide) rfl rfl (List.nodup_cons.mpr ⟨(fun h => by cases h), List.nodup_nil⟩) c_raw trivial))
    (fun i σ' => ∃ a O W, σ' = wst text x dx a W O ∧ wsRun (text.cps.toList.drop i) W = wsOf text.cps.toList ∧ 0 ≤ W.b ∧ W.b ≤ i ∧ W.count.length ≤ i) ⟨a, [], ⟨0, 0, 0, []⟩, rfl, rfl, by decide, by decide, by decide⟩ (fun i v σ' hv hI => ?_) (fun σ' hI => ?_) (fun _ => rfl)) (fun fl σ' h => ?_)
  · obtain ⟨a, O, W, rfl, hW, hb0, hbi, hcl⟩ := hI
    obtain ⟨c, hc, rfl⟩ := signs_get hv
    have hi : i < text.cps.toList.length := (List.getElem?_eq_some_iff.mp hc).1
    rw [drop_at hc, wsRun] at hW
    refine ⟨_, TG.name rfl, EX.of (ES.ife (EB.cmp (EV.name rfl rfl) (EV.name rfl rfl) o_eqS rfl) (fun h => ?_) (fun h => ?_))⟩
    · have h' : (c == 32) = true := (one_beq c 32).symm.trans h
      rw [if_pos h'] at hW
      refine EX.of (ES.assign (EV.bin (EV.name rfl rfl) EV.int o_add) rfl ?_ rfl)
      refine EX.of (ES.assign (EV.bin (EV.name rfl rfl) EV.int o_add) rfl ?_ rfl)
      exact EX.done (EX.nil (Turn.to ⟨a, O, W.sp, rfl, hW, by show 0 ≤ W.b + 1; omega, by show W.b + 1 ≤ _; push_cast; omega, by show W.count.length ≤ _; omega⟩ ⟨rfl, rfl, rfl, rfl, rfl, rfl, rfl, rfl, trivial⟩ (ClSub.refl _) rfl rfl))
    · have h' : (c == 32) = false := (one_beq c 32).symm.trans h
      rw [h'] at hW
      refine EX.of (ES.ife (EB.cmp (EV.name rfl rfl) (EV.name rfl rfl) o_eqS rfl) (fun h => ?_) (fun h => ?_))
      · have h2 : (c == 9) = true := (one_beq c 9).symm.trans h
        rw [h2] at hW
        refine EX.of (ES.assign (EV.bin (EV.name rfl rfl) EV.int o_add) rfl ?_ rfl)
        refine EX.of (ES.assign (EV.bin (EV.name rfl rfl) EV.int o_add) rfl ?_ rfl)
        have hroomlen : W.b < W.room.length ∧ W.room.length ≤ i + 1 := by
          unfold Ws.room
          split
          · rw [List.length_append, List.length_replicate]; omega
          · omega
        refine ES.then (fun fl σ' => fl = .next ∧ ∃ a' O', Sub ⟨[("self", .mr x), ("ws", .str text), ("T", .str "\t"), ("S", .str " "), ("count", .mr a'), ("b", .int W.b), ("n", .int (W.n + 1)), ("nt", .int (W.nt + 1))], [], (a', intsV W.room) :: O', [(x, dx, [("raw", .str text)])]⟩ σ')
          (ES.ife (EB.cmp (EV.name rfl rfl) (EV.seenI 0 "count" rfl rfl (EV.callB (EV.glob g_len rfl) (EVs.cons (EV.name rfl rfl) EVs.nil rfl) (o_len (by rw [intsV_len]; omega)) rfl rfl)) o_ge rfl) (fun h => ?_) (fun h => ?_)) (fun fl σ' h => ?_)
        · have h3 : (W.count.length : Int) ≤ W.b := by have := of_decide_eq_true h; rw [intsV_len] at this; exact this
          refine EX.of (ES.assignNew (xs := intsV W.room) (EN.seen 0 "count" rfl rfl (flats_ints _) ?_) rfl rfl fun a' => ?_)
          · have e : intsV W.room = intsV W.count ++ List.replicate (W.b - ((intsV W.count).length : Nat) + 1).toNat (.int 0) := by
              unfold Ws.room intsV; rw [if_pos h3]; simp
            rw [e]
            refine EN.addL (EV.name rfl rfl) (EV.new (EN.mulL (EV.new (EN.list (EVs.cons EV.int EVs.nil rfl) (by decide))) (EV.bin (EV.bin (EV.name rfl rfl) (EV.callB (EV.glob g_len rfl) (EVs.cons (EV.name rfl rfl) EVs.nil rfl) (o_len (by rw [intsV_len]; omega)) rfl rfl) o_sub) EV.int o_add) (by rw [intsV_len]; omega) (by rw [intsV_len]; omega))) (small (by rw [intsV_len, List.length_replicate]; omega))
          · exact EX.nil ⟨rfl, a', _, Sub.to ⟨rfl, rfl, rfl, rfl, rfl, rfl, rfl, rfl, trivial⟩ (ClSub.refl _) rfl rfl⟩
        · have h3 : ¬ (W.count.length : Int) ≤ W.b := by have := of_decide_eq_false h; rw [intsV_len] at this; exact this
          have e : W.room = W.count := by unfold Ws.room; rw [if_neg h3]
          exact EX.nil ⟨rfl, a, _, Sub.to ⟨rfl, rfl, rfl, rfl, rfl, rfl, rfl, rfl, trivial⟩ (ClSub.refl _) (by rw [e]; rfl) rfl⟩
        · obtain ⟨rfl, a', O', sb⟩ := h
          refine EX.sub sb ?_
          have hget : (intsV W.room)[W.b.toNat]? = some (.int (W.room.getD W.b.toNat 0)) := by
            have hlt : W.b.toNat < W.room.length := by omega
            unfold intsV
            rw [List.getElem?_map, List.getElem?_eq_getElem hlt, List.getD_eq_getElem?_getD, List.getElem?_eq_getElem hlt]; rfl
          refine EX.of (ES.setItem (i := 0) rfl (by decide) rfl rfl (EV.bin (EV.seenI 0 "count" rfl rfl (EV.item (fun _ _ => ⟨_, rfl⟩) (EV.name rfl rfl) (EV.name rfl rfl) hb0 (by omega) hget)) EV.int o_add) (EV.name rfl rfl) hb0 (by rw [intsV_len]; exact hroomlen.1) (by omega) rfl ?_)
          refine EX.of (ES.assign EV.int rfl ?_ rfl)
          refine EX.done (EX.done (EX.nil (Turn.to ⟨a', O', W.tb, rfl, hW, by show (0 : Int) ≤ 0; omega, by show (0 : Int) ≤ _; omega, ?_⟩ ⟨rfl, rfl, rfl, rfl, rfl, rfl, rfl, rfl, trivial⟩ (ClSub.refl _) ?_ rfl)))
          · show (W.room.set _ _).length ≤ _
            rw [List.length_set]; exact hroomlen.2
          · show (a', intsV (W.room.set _ _)) :: O' = ((a', intsV W.room) :: O').set 0 _
            unfold intsV
            rw [List.map_set]; rfl
      · have h2 : (c == 9) = false := (one_beq c 9).symm.trans h
        rw [h2] at hW
        refine EX.brk ⟨rfl, a, O, Sub.to ?_ (ClSub.refl _) ?_ rfl⟩
        · rw [← hW]; exact ⟨rfl, rfl, rfl, rfl, rfl, rfl, rfl, rfl, trivial⟩
        · rw [← hW]; rfl
  · obtain ⟨a, O, W, rfl, hW, hb0, hbi, hcl⟩ := hI
    rw [signs_len, List.drop_length, wsRun] at hW
    exact EX.nil ⟨rfl, a, O, by rw [← hW]; exact Sub.refl _⟩
  · obtain ⟨rfl, a, O, sb⟩ := h
    refine EX.sub sb ?_
    refine EX.freeze 0 "count" rfl rfl ?_
    refine EX.of (ES.setAttr rfl rfl (by decide) rfl rfl (EV.name rfl rfl) t_n (by simp; decide) (by simp) rfl ?_)
    refine EX.of (ES.setAttr rfl rfl (by decide) rfl rfl (EV.name rfl rfl) t_nt (by simp; decide) (by simp) rfl ?_)
    refine EX.of (ES.setAttr rfl rfl (by decide) rfl rfl (EV.tuple (EVs.cons (EV.callT (EV.glob g_tuple rfl) (EVs.cons (EV.name rfl rfl) EVs.nil rfl) (o_tuple (small ?_)) rfl rfl) (EVs.cons (EV.name rfl rfl) EVs.nil rfl) rfl) (small (by simp))) t_norm (by simp; decide) (by simp) rfl ?_)
    · rw [intsV_len]; exact Nat.le_trans (wsOf_len hlen) (by decide)
    refine EX.of (ES.setAttr rfl rfl (by decide) rfl rfl (EV.cmp (EV.callB (EV.glob g_len rfl) (EVs.cons (EV.name rfl rfl) EVs.nil rfl) (o_len ?_) rfl rfl) EV.int o_le rfl) t_simple (by simp; decide) (by simp) rfl ?_)
    · rw [intsV_len]; exact Nat.lt_of_le_of_lt (wsOf_len hlen) (by decide)
    refine EX.nil ⟨rfl, ?_⟩
    unfold wsFields
    rw [intsV_len]
    have e : decide (((wsOf text.cps.toList).count.length : Int) ≤ 1) = decide ((wsOf text.cps.toList).count.length ≤ 1) := by
      by_cases h : (wsOf text.cps.toList).count.length ≤ 1
      · rw [decide_eq_true h, decide_eq_true (by omega)]
      · rw [decide_eq_false h, decide_eq_false (by omega)]
    rw [e]
    rfl
end Mine

namespace Mine
open PySem PySem.W in
theorem fillF3 : (hd.heap_39 = hd.heap_39) ∧ (PySem.Challenge.rw_wj0033_01 = PySem.Challenge.rw_wj0033_01) := by k_fill; exact ⟨rfl, rfl⟩
open PySem PySem.Spec PySem.Calls PyProof.Rows PySem.W

theorem mulOk {a b : Int} (h : a.natAbs < 2 ^ 60) : IntMulOk a b := by
  refine .of_left ?_
  unfold Builtin.Int.intBits
  split
  · omega
  · rename_i h0
    have h1 : a.natAbs ≠ 0 := fun q => h0 (by simp [Int.natAbs_eq_zero.mp q])
    have := (Nat.log2_lt h1).mpr h
    omega
theorem o_fdivS {w : World} {d : Nat} {a b : Int} (hb : 0 < b) (hs : b < 1000000) : OP2 w d (binaryOp .FloorDiv) (.int a) (.int b) (.int (a.fdiv b)) := o_fdiv (by omega) (PyProof.noPylong_small (by omega))

noncomputable def objV (text : Str) (W : Ws) (si : Bool) : V := .obj [.str text, .int W.n, .int W.nt, .tup [.tup (intsV W.count), .int W.b], .bool si]
theorem fields_objV (text : Str) : V.obj ((wsFields text).map (·.2)) = objV text (wsOf text.cps.toList) (decide ((wsOf text.cps.toList).count.length ≤ 1)) := rfl

noncomputable def Ws.longest (W : Ws) : Int := max ((W.count.length : Int) - 1) W.b
theorem fn_longest {w : World} {lo d : Nat} {text : Str} {W : Ws} {si : Bool} (hlen : W.count.length ≤ 1000) : OPQ w lo (fun vs => call (.ref 45) vs) [objV text W si] (.int W.longest) (d + 1) := by
  refine' OPQ.fn (names := ["self"]) ?k1 ?k2 ?kb ?kl ?kn ?k3 ?k4 ?k5 ?k6 ?k7 ?kx
  case k1 => k_is
  case k2 => k_is
  case kb => refine binds1 ?_; intros; rfl
  case kl => rfl
  case kn => decide
  case k3 => rfl
  case k4 => rfl
  case k5 => rfl
  case k6 => rfl
  case k7 => rfl
  intro H s₀ L
  refine EX.of (ES.assignT (EV.attr 3 (EV.name (v := objV text W si) rfl rfl) rfl rfl c_norm trivial) (TG.tup ⟨_, TG.name rfl, _, TG.name rfl, rfl⟩ rfl) rfl rfl ?_)
  refine EX.ret (EV.callB (EV.glob g_max rfl) (EVs.cons (EV.bin (EV.callB (EV.glob g_len rfl) (EVs.cons (EV.name (v := .tup (intsV W.count)) rfl rfl) EVs.nil rfl) (o_lenT (by rw [intsV_len]; omega)) rfl rfl) EV.int o_sub) (EVs.cons (EV.name rfl rfl) EVs.nil rfl) rfl) o_max2 rfl rfl) (.inl ?_)
  rw [intsV_len]; rfl

noncomputable def indStep (W : Ws) (ts : Int) (il : Int) (j : Nat) : Int := il + (ts + (j : Int)).fdiv ts * W.count.getD (ts + (j : Int)).toNat 0
noncomputable def Ws.indent (W : Ws) (ts : Int) : Int := W.b + ts * ((List.range (W.count.length - ts).toNat).foldl (indStep W ts) 0 + W.nt)
theorem fn_indent {w : World} {lo d : Nat} {text : Str} {W : Ws} {si : Bool} {ts : Int} (hlen : W.count.length ≤ 1000) (h1 : 1 ≤ ts) (h2 : ts ≤ 2000) : OPQ w lo (fun vs => call (.ref 52) vs) [objV text W si, .int ts] (.int (W.indent ts)) (d + 1) := by
  refine' OPQ.fn (names := ["self", "tabsize"]) ?k1 ?k2 ?kb ?kl ?kn ?k3 ?k4 ?k5 ?k6 ?k7 ?kx
  case k1 => k_is
  case k2 => k_is
  case kb => refine binds2 ?_; intros; rfl
  case kl => rfl
  case kn => decide
  case k3 => rfl
  case k4 => rfl
  case k5 => rfl
  case k6 => rfl
  case k7 => rfl
  intro H s₀ L
  refine EX.of (ES.assignT (EV.attr 3 (EV.name (v := objV text W si) rfl rfl) rfl rfl c_norm trivial) (TG.tup ⟨_, TG.name rfl, _, TG.name rfl, rfl⟩ rfl) rfl rfl ?_)
  refine EX.of (ES.assign EV.int rfl ?_ rfl)
  refine ES.then (fun fl σ' => fl = .next ∧ Sub ⟨[("self", objV text W si), ("tabsize", .int ts), ("count", .tup (intsV W.count)), ("trailing", .int W.b), ("il", .int ((List.range (W.count.length - ts).toNat).foldl (indStep W ts) 0))], [], [], []⟩ σ')
    (ES.for (EI.range (a := ts) (b := W.count.length) (EV.callT (EV.glob g_range rfl) (EVs.cons (EV.name rfl rfl) (EVs.cons (EV.cast (EV.callB (EV.glob g_len rfl) (EVs.cons (EV.name (v := .tup (intsV W.count)) rfl rfl) EVs.nil rfl) (o_lenT (by rw [intsV_len]; omega)) rfl rfl) (by rw [intsV_len])) EVs.nil rfl) rfl) o_range2 rfl rfl) (by omega) (by omega) (by omega) (by omega))
      (fun i σ' => σ' = ⟨[("self", objV text W si), ("tabsize", .int ts), ("count", .tup (intsV W.count)), ("trailing", .int W.b), ("il", .int ((List.range i).foldl (indStep W ts) 0))], [], [], []⟩) rfl (fun i x σ' hx e => ?_) (fun σ' e => ?_) (fun _ => rfl)) (fun fl σ' h => ?_)
  · subst e
    obtain ⟨hi, rfl⟩ := upTo_get hx
    have hlt : (ts + (i : Int)).toNat < W.count.length := by omega
    have hget : (intsV W.count)[(ts + (i : Int)).toNat]? = some (.int (W.count.getD (ts + (i : Int)).toNat 0)) := by
      unfold intsV
      rw [List.getElem?_map, List.getElem?_eq_getElem hlt, List.getD_eq_getElem?_getD, List.getElem?_eq_getElem hlt]; rfl
    have hdiv : ((ts + (i : Int)).fdiv ts).natAbs < 2 ^ 60 := by
      have h3 : 0 ≤ (ts + (i : Int)).fdiv ts := Int.fdiv_nonneg (by omega) (by omega)
      have h4 : (ts + (i : Int)).fdiv ts ≤ ts + i := by
        rw [Int.fdiv_eq_ediv_of_nonneg _ (by omega)]
        exact Int.ediv_le_self _ (by omega)
      omega
    refine ⟨_, TG.name rfl, EX.of (ES.assign (EV.bin (EV.name rfl rfl) (EV.bin (EV.bin (EV.name rfl rfl) (EV.name rfl rfl) (o_fdivS (by omega) (by omega))) (EV.itemT (fun _ _ => ⟨_, rfl⟩) (EV.name (v := .tup (intsV W.count)) rfl rfl) (EV.name rfl rfl) (by omega) (by omega) hget) (o_mul (mulOk hdiv))) o_add) rfl ?_ rfl)⟩
    refine EX.nil (Turn.to rfl ⟨rfl, rfl, rfl, rfl, ?_, trivial⟩ (ClSub.refl _) rfl rfl)
    rw [List.range_succ, List.foldl_append]; rfl
  · subst e
    exact EX.nil ⟨rfl, by rw [upTo_len]; exact Sub.refl _⟩
  · obtain ⟨rfl, sb⟩ := h
    refine EX.sub sb ?_
    refine EX.ret (EV.bin (EV.name rfl rfl) (EV.bin (EV.name rfl rfl) (EV.bin (EV.name rfl rfl) (EV.attr 2 (EV.name (v := objV text W si) rfl rfl) rfl rfl c_nt trivial) o_add) (o_mul (mulOk ?_))) o_add) (.inl rfl)
    omega
end Mine

namespace Mine
open PySem PySem.W in
theorem fillF4 : (hd.heap_39 = hd.heap_39) ∧ (PySem.Challenge.rw_wj0033_01 = PySem.Challenge.rw_wj0033_01) := by k_fill; exact ⟨rfl, rfl⟩
open PySem PySem.Spec PySem.Calls PyProof.Rows PySem.W

section
variable {C : Cx} {σ : Sg}
theorem EB.boolV {e b} (h : EV C σ e (.bool b)) (he : isTrue e C.env (eval e C.env) = (do let v ← eval e C.env; standAt e.pos; holding [v] (truthy v))) : EB C σ e b := fun F A E s ok S Q hQ =>
  wpAny_isTrue_value (h F A E s ok S _ fun v' s' k r => by cases r; exact wpAny_truthy_bool (hQ _ k)) he
theorem EB.and2 {a b : Expr} {pos p q} (ha : EB C σ a p) (hb : EB C σ b q) : EB C σ (.BoolOp .And [a, b] pos) (p && q) := fun F A E s ok S Q hQ =>
  wpAny_isTrue_BoolOp (wpAny_allTrue_And_cons (ha F A E s ok S _ fun s₁ k₁ => by
    cases p with
    | false => exact hQ _ k₁
    | true => exact wpAny_allTrue_And_cons (hb F A E s₁ ok (S.keeps k₁) _ fun s₂ k₂ => by
        cases q with
        | false => exact hQ _ (k₁.trans k₂)
        | true => exact wpAny_allTrue_And_nil (hQ _ (k₁.trans k₂)))))
theorem EB.or2 {a b : Expr} {pos p q} (ha : EB C σ a p) (hb : p = false → EB C σ b q) : EB C σ (.BoolOp .Or [a, b] pos) (p || q) := fun F A E s ok S Q hQ =>
  wpAny_isTrue_BoolOp (wpAny_allTrue_Or_cons (ha F A E s ok S _ fun s₁ k₁ => by
    cases p with
    | true => exact hQ _ k₁
    | false => exact wpAny_allTrue_Or_cons (hb rfl F A E s₁ ok (S.keeps k₁) _ fun s₂ k₂ => by
        cases q with
        | true => exact hQ _ (k₁.trans k₂)
        | false => exact wpAny_allTrue_Or_nil (hQ _ (k₁.trans k₂)))))
end

noncomputable def lessN (W V : Ws) : Int := max W.longest V.longest + 1
noncomputable def lessW (W V : Ws) (si sj : Bool) : Bool :=
  if V.n ≤ W.n then false else if si && sj then decide (W.nt ≤ V.nt) else (List.range (lessN W V + 1 - 2).toNat).all fun j => decide (¬ V.indent (2 + (j : Int)) ≤ W.indent (2 + (j : Int)))

theorem fn_less {w : World} {lo d : Nat} {t1 t2 : Str} {W V : Ws} {si sj : Bool} (h1 : W.count.length ≤ 1000) (h2 : V.count.length ≤ 1000) (b1 : W.b ≤ 1000) (b2 : V.b ≤ 1000) (b3 : 0 ≤ W.b) (b4 : 0 ≤ V.b) :
    OPQ w lo (fun vs => call (.ref 73) vs) [objV t1 W si, objV t2 V sj] (.bool (lessW W V si sj)) (d + 2) := by
  refine' OPQ.fn (names := ["self", "other"]) ?k1 ?k2 ?kb ?kl ?kn ?k3 ?k4 ?k5 ?k6 ?k7 ?kx
  case k1 => k_is
  case k2 => k_is
  case kb => refine binds2 ?_; intros; rfl
  case kl => rfl
  case kn => decide
  case k3 => rfl
  case k4 => rfl
  case k5 => rfl
  case k6 => rfl
  case k7 => rfl
  intro H s₀ L
  have hN0 : 0 ≤ lessN W V := by unfold lessN Ws.longest; omega
  have hN1 : lessN W V ≤ 1001 := by unfold lessN Ws.longest; omega
  refine EX.of (ES.ife (EB.cmp (EV.attr 1 (EV.name (v := objV t1 W si) rfl rfl) rfl rfl c_n trivial) (EV.attr 1 (EV.name (v := objV t2 V sj) rfl rfl) rfl rfl c_n trivial) o_ge rfl) (fun h => ?_) (fun h => EX.done ?_))
  · have h' := of_decide_eq_true h
    exact EX.ret EV.bool (.inl (by unfold lessW; rw [if_pos h']))
  have hn := of_decide_eq_false h
  refine EX.of (ES.ife (EB.and2 (EB.boolV (EV.attr 4 (EV.name (v := objV t1 W si) rfl rfl) rfl rfl c_simple trivial) rfl) (EB.boolV (EV.attr 4 (EV.name (v := objV t2 V sj) rfl rfl) rfl rfl c_simple trivial) rfl)) (fun h => ?_) (fun h => EX.done ?_))
  · exact EX.ret (EV.cmp (EV.attr 2 (EV.name (v := objV t1 W si) rfl rfl) rfl rfl c_nt trivial) (EV.attr 2 (EV.name (v := objV t2 V sj) rfl rfl) rfl rfl c_nt trivial) o_le rfl) (.inl (by unfold lessW; rw [if_neg hn, if_pos h]))
  have hL : ∀ il, lessW W V si sj = il ↔ ((List.range (lessN W V + 1 - 2).toNat).all fun j => decide (¬ V.indent (2 + (j : Int)) ≤ W.indent (2 + (j : Int)))) = il := fun il => by
    unfold lessW; rw [if_neg hn, if_neg (by rw [h]; decide)]
  refine EX.of (ES.assign (v := .int (lessN W V)) (EV.bin (EV.callB (EV.glob g_max rfl) (EVs.cons (EV.meth0 (EV.name (v := objV t1 W si) rfl rfl) c_longest c_f45 k_45 (by decide) (fn_longest h1) rfl) (EVs.cons (EV.meth0 (EV.name (v := objV t2 V sj) rfl rfl) c_longest c_f45 k_45 (by decide) (fn_longest h2) rfl) EVs.nil rfl) rfl) o_max2 rfl rfl) EV.int o_add) rfl ?_ rfl)
  refine ES.then (fun fl σ' => (fl = .ret (.bool false) ∧ lessW W V si sj = false) ∨ (fl = .next ∧ lessW W V si sj = true))
    (ES.for (EI.range (a := 2) (b := lessN W V + 1) (EV.callT (EV.glob g_range rfl) (EVs.cons EV.int (EVs.cons (EV.bin (EV.name rfl rfl) EV.int o_add) EVs.nil rfl) rfl) o_range2 rfl rfl) (by decide) (by decide) (by omega) (by omega))
      (fun i σ' => σ' = ⟨[("self", objV t1 W si), ("other", objV t2 V sj), ("n", .int (lessN W V))], [], [], []⟩ ∧ ((List.range i).all fun j => decide (¬ V.indent (2 + (j : Int)) ≤ W.indent (2 + (j : Int)))) = true) ⟨rfl, rfl⟩ (fun i x σ' hx e => ?_) (fun σ' e => ?_) (fun _ => rfl)) (fun fl σ' h => ?_)
  · obtain ⟨rfl, hall⟩ := e
    obtain ⟨hi, rfl⟩ := upTo_get hx
    refine ⟨_, TG.name rfl, EX.of (ES.ife (EB.cmp (EV.meth1 (EV.name (v := objV t1 W si) rfl rfl) (EV.name rfl rfl) c_indent c_f52 k_52 (by decide) (fn_indent h1 (by omega) (by omega)) rfl rfl) (EV.meth1 (EV.name (v := objV t2 V sj) rfl rfl) (EV.name rfl rfl) c_indent c_f52 k_52 (by decide) (fn_indent h2 (by omega) (by omega)) rfl rfl) o_ge rfl) (fun h => ?_) (fun h => EX.done ?_))⟩
    · have h' := of_decide_eq_true h
      refine EX.ret EV.bool (.inl ⟨rfl, (hL _).mpr ?_⟩)
      rw [List.all_eq_false]
      exact ⟨i, List.mem_range.mpr hi, by simp; exact h'⟩
    · have h' := of_decide_eq_false h
      refine EX.nil (Turn.to ⟨rfl, ?_⟩ ⟨rfl, rfl, rfl, trivial⟩ (ClSub.refl _) rfl rfl)
      rw [List.range_succ, List.all_append, hall]
      simp; exact Int.not_le.mp h'
  · obtain ⟨rfl, hall⟩ := e
    rw [upTo_len] at hall
    exact EX.nil (.inr ⟨rfl, (hL _).mpr hall⟩)
  · rcases h with ⟨rfl, e⟩ | ⟨rfl, e⟩
    · exact .inl (by rw [e])
    · exact EX.ret EV.bool (.inl (by rw [e]))
end Mine

namespace Mine
open PySem PySem.W in
theorem fillF5 : (hd.heap_39 = hd.heap_39) ∧ (PySem.Challenge.rw_wj0033_01 = PySem.Challenge.rw_wj0033_01) := by k_fill; exact ⟨rfl, rfl⟩
open PySem PySem.Spec PySem.Calls PyProof.Rows PySem.W

noncomputable def nmL : List Str := ["OPTIMIZED", "NEWLOCALS", "VARARGS", "VARKEYWORDS", "NESTED", "GENERATOR", "NOFREE", "COROUTINE", "ITERABLE_COROUTINE", "ASYNC_GENERATOR", "0x400"]
noncomputable def nmS (i : Nat) : Str := nmL.getD i Str.empty

theorem flags_dict {w : World} : ∃ es n, (hd.heap_39 w.params).lookup 88 = some { cls := .type "dict", data := .dict es n } ∧ KeysOf (intKind PR w) es ∧
    (∀ i, i < 10 → ∃ t, 1 ≤ t ∧ t < 318 ∧ findBy Value.isInt es (2 ^ i) = some (.str (nmS i) t)) ∧ findBy Value.isInt es (2 ^ 10) = none := by
  refine ⟨_, _, by k_is, ?_, ?_, ?_⟩
  · intro e he
    simp only [List.mem_toArray, List.mem_cons, List.not_mem_nil, or_false] at he
    rcases he with rfl | rfl | rfl | rfl | rfl | rfl | rfl | rfl | rfl | rfl <;> exact ⟨_, intKind_is _ _ _ _, rfl⟩
  · intro i hi
    rcases i with _ | _ | _ | _ | _ | _ | _ | _ | _ | _ | i
    · exact ⟨299, by decide, by decide, by rfl⟩
    · exact ⟨301, by decide, by decide, by rfl⟩
    · exact ⟨303, by decide, by decide, by rfl⟩
    · exact ⟨305, by decide, by decide, by rfl⟩
    · exact ⟨307, by decide, by decide, by rfl⟩
    · exact ⟨309, by decide, by decide, by rfl⟩
    · exact ⟨311, by decide, by decide, by rfl⟩
    · exact ⟨313, by decide, by decide, by rfl⟩
    · exact ⟨315, by decide, by decide, by rfl⟩
    · exact ⟨317, by decide, by decide, by rfl⟩
    · omega
  · rfl

noncomputable def nmV (lo i : Nat) : V := if i < 10 then .strT (nmS i) 1 (some 318) else .strT "0x400" lo Option.none
theorem nmV_txt (lo i : Nat) (h : i ≤ 10) : isTxt (nmV lo i) (nmS i) := by
  unfold nmV
  split
  · rfl
  · have : i = 10 := by omega
    subst this; rfl

section
variable {C : Cx} {σ : Sg}
theorem EV.flag {x : Str} {p ap pos : Pos} {pl : Sem Bool} {e1 e2 : Expr} {i : Nat} (hi : i ≤ 10) (hf : EV C σ (.Name x p) (.val (.ref 88))) (h1 : EV C σ e1 (.int (2 ^ i))) (h2 : EV C σ e2 (.strT (baseText "0x" 16 (2 ^ i)) C.lo Option.none)) (hst : backTo pos (starEach [e1, e2] C.env) = [(false, eval e1 C.env), (false, eval e2 C.env)])
    (he : eval (.Call (.Attribute (.Name x p) "get" ap) [e1, e2] [] pos) C.env = (do
      let ov ← eval (.Name x p) C.env
      standAt ap.atName
      let (f, first) ← holding [ov] (getMethod ov "get" pl)
      callWith pos f first (backTo pos (starEach [e1, e2] C.env)) [])) : EV C σ (.Call (.Attribute (.Name x p) "get" ap) [e1, e2] [] pos) (nmV C.lo i) := fun F A E s ok S Q hQ => by
  obtain ⟨es, n, hl, hk, hlow, h10⟩ := flags_dict (w := C.w)
  refine MethodCall_ (pl := pl) (hf F A E s ok S _ fun o' s₁ k r => ?_) he
  cases r
  have S1 := S.keeps k
  have hm : ∀ s' : Shared, Kp s₁ s' → s'.heap.MapOf (intKind PR C.w) 88 (findBy Value.isInt es) := fun s' k' => ⟨_, es, n, k'.ext _ _ (S1.top.X _ _ hl), ⟨rfl, rfl, rfl⟩, rfl, hk, fun _ => rfl⟩
  refine getMethod_builtin (hm _ (Kp.refl _)).typeIs PySem.F.plainAttrs_dict PySem.F.slot_dict_get PySem.F.type_dict_get (hm _ (Kp.refl _)).noDict ?_
  rw [hst]
  refine wpAny_dict_get2 (knd := intKind PR C.w) (by decide) (h1 F A E s₁ ok S1 _ fun v₁ s₂ k₂ r₁ => h2 F A E s₂ ok (S1.keeps k₂) _ fun v₂ s₃ k₃ r₂ => ?_)
  cases r₁
  refine ⟨2 ^ i, _, intKind_is _ _ _ _, hm _ (k₂.trans k₃), ?_⟩
  have kk := (k.trans k₂).trans k₃
  by_cases hlt : i < 10
  · obtain ⟨t, t1, t2, e⟩ := hlow i hlt
    rw [e]
    refine hQ _ _ (kk.trans Kp.tok) ?_
    unfold nmV
    rw [if_pos hlt]
    exact .strT _ _ _ _ t1 fun m e => by cases e; exact t2
  · have : i = 10 := by omega
    subst this
    rw [h10]
    refine hQ _ _ (kk.trans Kp.tok) ?_
    have e : (baseText "0x" 16 (2 ^ 10)) = ("0x400" : Str) := by decide +kernel
    rw [e] at r₂
    exact r₂.keeps Kp.tok
end

noncomputable def prRun : Nat → Nat → Int → List Nat → Option (List Nat)
  | 0, _, _, _ => none
  | k + 1, i, G, acc => if Builtin.bitAnd G (2 ^ i) != 0 then (if Builtin.bitXor G (2 ^ i) != 0 then prRun k (i + 1) (Builtin.bitXor G (2 ^ i)) (acc ++ [i]) else some (acc ++ [i])) else prRun k (i + 1) G acc
theorem prRun_mem : ∀ {k i : Nat} {G : Int} {acc js : List Nat}, prRun k i G acc = some js → ∀ j ∈ acc, j ∈ js
  | 0, _, _, _, _, h, _, _ => by cases h
  | k + 1, i, G, acc, js, h, j, hj => by
    unfold prRun at h
    split at h
    · split at h
      · exact prRun_mem h j (List.mem_append_left _ hj)
      · cases h; exact List.mem_append_left _ hj
    · exact prRun_mem h j hj
noncomputable def prOut (lo : Nat) (js : List Nat) : V := match js with
  | [j] => nmV lo j
  | js => .strT (Txt.join ", " (js.map nmS)) lo Option.none
theorem nms_txt {lo : Nat} : ∀ {js : List Nat}, (∀ j ∈ js, j ≤ 10) → areTxt (js.map (nmV lo)) (js.map nmS)
  | [], _ => trivial
  | j :: js, h => ⟨nmV_txt lo j (h j (.head _)), nms_txt fun i hi => h i (.tail _ hi)⟩

set_option maxHeartbeats 1000000 in
theorem fn_pretty {w : World} {lo d : Nat} {G : Int} {js : List Nat} (hr : prRun 32 0 G [] = some js) (hj : ∀ j ∈ js, j ≤ 10) (hjl : js.length ≤ 100) (hok : JoinOk ", " (js.map nmS) = true) : OPQ w lo (fun vs => call (.ref 95) vs) [.int G] (prOut lo js) (d + 1) := by
  refine' OPQ.fn (names := ["flags"]) ?k1 ?k2 ?kb ?kl ?kn ?k3 ?k4 ?k5 ?k6 ?k7 ?kx
  case k1 => k_is
  case k2 => k_is
  case kb => refine binds1 ?_; intros; rfl
  case kl => rfl
  case kn => decide
  case k3 => rfl
  case k4 => rfl
  case k5 => rfl
  case k6 => rfl
  case k7 => rfl
  intro H s₀ L
  refine EX.of (ES.assignNew (EN.list EVs.nil (by decide)) rfl rfl fun a => ?_)
  refine ES.then (fun fl σ' => fl = .next ∧ Sub ⟨[("names", .mr a)], [], [(a, js.map (nmV lo))], []⟩ σ')
    (ES.for (EI.range (a := 0) (b := 32) (EV.callT (EV.glob g_range rfl) (EVs.cons EV.int EVs.nil rfl) o_range1 rfl rfl) (by decide) (by decide) (by decide) (by decide))
      (fun i σ' => ∃ (G' : Int) (acc : List Nat), σ' = ⟨[("flags", .int G'), ("names", .mr a)], [], [(a, acc.map (nmV lo))], []⟩ ∧ acc.length ≤ i ∧ prRun (32 - i) i G' acc = some js) ⟨G, [], rfl, by decide, hr⟩ (fun i x σ' hx e => ?_) (fun σ' e => ?_) (fun _ => rfl)) (fun fl σ' h => ?_)
  · obtain ⟨G', acc, rfl, hacc, hrun⟩ := e
    obtain ⟨hi, rfl⟩ := upTo_get hx
    have hi' : i < 32 := hi
    have e32 : 32 - i = (32 - (i + 1)) + 1 := by omega
    rw [e32, prRun] at hrun
    have hflag : (1 : Int) * 2 ^ ((0 : Int) + (i : Int)).toNat = 2 ^ i := by
      rw [Int.one_mul, Int.zero_add, Int.toNat_natCast]
    refine ⟨_, TG.name rfl, EX.of (ES.assign (v := .int (2 ^ i)) (EV.cast (EV.bin EV.int (EV.name rfl rfl) (o_shl (by omega) (by omega) (by decide))) (by rw [hflag])) rfl ?_ rfl)⟩
    refine EX.of (ES.ife (EB.intV (EV.bin (EV.name rfl rfl) (EV.name rfl rfl) o_and) rfl) (fun h => ?_) (fun h => EX.done ?_))
    · rw [h] at hrun
      have hij : i ∈ js := by
        simp only [if_true] at hrun
        split at hrun
        · exact prRun_mem hrun i (by simp)
        · cases hrun; simp
      have hi10 := hj i hij
      have hhex : (baseText "0x" 16 (2 ^ i)).length ≤ sizeLine := by
        have : ∀ k, k ≤ 10 → (baseText "0x" 16 (2 ^ k)).length ≤ 1000 := by decide +kernel
        exact Nat.le_trans (this i hi10) (by decide)
      refine EX.of (ES.append (i := 0) rfl (by decide) rfl rfl (small (by rw [List.length_map]; omega)) (EV.flag hi10 (EV.glob g_FLAGS rfl) (EV.name rfl rfl) (EV.callB (EV.glob g_hex rfl) (EVs.cons (EV.name rfl rfl) EVs.nil rfl) (o_hex hhex) rfl rfl) rfl rfl) rfl rfl rfl rfl rfl ?_)
      refine EX.of (ES.aug rfl rfl (EV.name rfl rfl) o_ixor ?_)
      refine EX.of (ES.ife (EB.not (EB.intV (EV.name rfl rfl) rfl)) (fun h2 => ?_) (fun h2 => EX.done ?_))
      · have h3 : (Builtin.bitXor G' (2 ^ i) != 0) = false := by simpa using h2
        simp only [if_true] at hrun
        rw [h3] at hrun
        cases hrun
        exact EX.brk ⟨rfl, Sub.to ⟨rfl, trivial⟩ (ClSub.refl _) (by rw [List.map_append]; rfl) rfl⟩
      · have h3 : (Builtin.bitXor G' (2 ^ i) != 0) = true := by simpa using h2
        simp only [if_true] at hrun
        rw [h3] at hrun
        exact EX.done (EX.nil (Turn.to ⟨_, acc ++ [i], rfl, by rw [List.length_append]; simp; exact hacc, hrun⟩ ⟨rfl, rfl, trivial⟩ (ClSub.refl _) (by rw [List.map_append]; rfl) rfl))
    · rw [h] at hrun
      exact EX.nil (Turn.to ⟨G', acc, rfl, by omega, hrun⟩ ⟨rfl, rfl, trivial⟩ (ClSub.refl _) rfl rfl)
  · obtain ⟨G', acc, rfl, -, hrun⟩ := e
    rw [upTo_len] at hrun
    cases hrun
  · obtain ⟨rfl, sb⟩ := h
    refine EX.sub sb ?_
    refine EX.freeze 0 "names" rfl rfl ?_
    refine EX.ret (EV.smeth EV.str rfl (EV.name (v := .list (js.map (nmV lo))) rfl rfl) (fun A E s t Q => GM.join) ?_ rfl rfl) (.inl rfl)
    unfold prOut
    split
    · rename_i j
      exact o_join1 (nmV_txt lo j (hj j (.head _))) (by simpa using hok)
    · rename_i hne
      exact o_joinN (nms_txt hj) (by rw [List.length_map]; intro q; match js, q, hne with | [j], _, hne => exact hne j rfl) hok
end Mine

namespace Mine
open PySem PySem.W in
theorem fillF6 : (hd.heap_39 = hd.heap_39) ∧ (PySem.Challenge.rw_wj0033_01 = PySem.Challenge.rw_wj0033_01) := by k_fill; exact ⟨rfl, rfl⟩
open PySem PySem.Spec PySem.Calls PyProof.Rows PySem.W

theorem numbered_get {xs : List V} {i : Nat} {x : V} (h : (numbered xs)[i]? = some x) : ∃ y, xs[i]? = some y ∧ x = .tup [.int i, y] := by
  unfold numbered at h
  rw [List.getElem?_map, List.getElem?_zipIdx] at h
  obtain ⟨q, hq, rfl⟩ := Option.map_eq_some_iff.mp h
  obtain ⟨y, hy, rfl⟩ := Option.map_eq_some_iff.mp hq
  exact ⟨y, hy, by simp⟩
theorem numbered_len (xs : List V) : (numbered xs).length = xs.length := by unfold numbered; simp

theorem fn_indexOf {w : World} {lo d : Nat} {ts : List Str} {y : Str} {l1 l2 k : Nat} {h1 h2 : Option Nat} (hk : ts[k]? = some y) (hno : ∀ i, i < k → ts[i]? ≠ some y) (p1 : 1 ≤ l1) (p2 : 1 ≤ l2) (dis : (∃ m, h1 = some m ∧ m ≤ l2) ∨ (∃ m, h2 = some m ∧ m ≤ l1)) :
    OPQ w lo (fun vs => call (.ref 144) vs) [.list (ts.map fun x => .strT x l1 h1), .strT y l2 h2] (.int k) (d + 1) := by
  refine' OPQ.fn (names := ["a", "b"]) ?k1 ?k2 ?kb ?kl ?kn ?k3 ?k4 ?k5 ?k6 ?k7 ?kx
  case k1 => k_is
  case k2 => k_is
  case kb => refine binds2 ?_; intros; rfl
  case kl => rfl
  case kn => decide
  case k3 => rfl
  case k4 => rfl
  case k5 => rfl
  case k6 => rfl
  case k7 => rfl
  intro H s₀ L
  have hkl : k < ts.length := (List.getElem?_eq_some_iff.mp hk).1
  refine ES.then (fun fl σ' => fl = .ret (.int k)) (ES.for (EI.enum (EV.glob g_enumerate rfl) (EV.name (v := .list (ts.map fun x => .strT x l1 h1)) rfl rfl) rfl)
      (fun i σ' => σ' = ⟨[("a", .list (ts.map fun x => .strT x l1 h1)), ("b", .strT y l2 h2)], [], [], []⟩ ∧ i ≤ k) ⟨rfl, Nat.zero_le _⟩ (fun i x σ' hx e => ?_) (fun σ' e => ?_) (fun _ => rfl)) (fun fl σ' h => ?_)
  · obtain ⟨rfl, hik⟩ := e
    obtain ⟨z, hz, rfl⟩ := numbered_get hx
    rw [List.getElem?_map] at hz
    obtain ⟨u, hu, rfl⟩ := Option.map_eq_some_iff.mp hz
    refine ⟨_, TG.tup ⟨_, TG.name rfl, _, TG.name rfl, rfl⟩ rfl, EX.of (ES.ife (EB.isOr (EV.name rfl rfl) (EV.name rfl rfl) (EV.name rfl rfl) (EV.name rfl rfl) p1 p2 dis rfl rfl) (fun h => ?_) (fun h => EX.done ?_))⟩
    · have huy : u = y := eq_of_beq h
      subst huy
      have hik2 : i = k := by
        rcases Nat.lt_or_ge i k with q | q
        · exact absurd hu (hno i q)
        · omega
      subst hik2
      exact EX.ret (EV.name rfl rfl) rfl
    · have hne : u ≠ y := fun q => by rw [q] at h; simp at h
      have hik2 : i ≠ k := fun q => by subst q; rw [hk] at hu; cases hu; exact hne rfl
      exact EX.nil (Turn.to ⟨rfl, by omega⟩ ⟨rfl, rfl, trivial⟩ (ClSub.refl _) rfl rfl)
  · obtain ⟨rfl, hik⟩ := e
    rw [numbered_len, List.length_map] at hik
    exact absurd hkl (by omega)
  · subst h
    exact .inl rfl
end Mine

namespace Mine
open PySem PySem.W in
theorem fillF7 : (hd.heap_39 = hd.heap_39) ∧ (PySem.Challenge.rw_wj0033_01 = PySem.Challenge.rw_wj0033_01) := by k_fill; exact ⟨rfl, rfl⟩
open PySem PySem.Spec PySem.Calls PyProof.Rows PySem.W

section
variable {w : World}
theorem kf95 : keepIn (hd.heap_39 w.params) (.ref 95) = true := by k_is
theorem kf102 : keepIn (hd.heap_39 w.params) (.ref 102) = true := by k_is
theorem kf109 : keepIn (hd.heap_39 w.params) (.ref 109) = true := by k_is
theorem kf116 : keepIn (hd.heap_39 w.params) (.ref 116) = true := by k_is
theorem kf123 : keepIn (hd.heap_39 w.params) (.ref 123) = true := by k_is
theorem kf130 : keepIn (hd.heap_39 w.params) (.ref 130) = true := by k_is
theorem kf137 : keepIn (hd.heap_39 w.params) (.ref 137) = true := by k_is
theorem kf144 : keepIn (hd.heap_39 w.params) (.ref 144) = true := by k_is
theorem kf151 : keepIn (hd.heap_39 w.params) (.ref 151) = true := by k_is
theorem kf156 : keepIn (hd.heap_39 w.params) (.ref 156) = true := by k_is
theorem kf161 : keepIn (hd.heap_39 w.params) (.ref 161) = true := by k_is
end

noncomputable def FrR (cl : List (Str × Addr)) (σcl : List (Str × Addr × Option V)) : List (Str × V) → Prop
  | [] => True
  | (x, v) :: r => (∃ c, cl.lookup x = some c ∧ σcl.lookup x = some (c, some v)) ∧ FrR cl σcl r
theorem FrR.look {cl : List (Str × Addr)} {σcl : List (Str × Addr × Option V)} : ∀ {fr : List (Str × V)}, FrR cl σcl fr → ∀ x v, fr.lookup x = some v → ∃ c, cl.lookup x = some c ∧ σcl.lookup x = some (c, some v)
  | (y, u) :: r, ⟨a, b⟩, x, v, h => by
    rw [List.lookup_cons] at h
    cases q : x == y with
    | true => rw [q] at h; cases h; rw [eq_of_beq q]; exact a
    | false => rw [q] at h; exact FrR.look b x v h
theorem CompOk.to {C : Cx} {σ : Sg} {scope : Scope} {cl : List (Str × Addr)} {fr : List (Str × V)} {iter : Expr} (clos : closureFor scope C.env = pure cl) (kind : scope.kind = .function) (names : (scope.names.all fun x => x.2 != .local || scope.names.lookup x.1 == some .local) = true)
    (cn : (scope.names.filter fun x => x.2 == .cell).length ≤ 1) (cc : scope.names.all (fun x => x.2 != .cell) = true ∨ cl = [] ∧ fr = []) (hfr : FrR cl σ.cl fr) (hs : ∀ x, foldedSetIterable iter C.env x = pure x) : CompOk C σ scope cl fr iter :=
  ⟨clos, kind, names, cn, cc, fun x v h => let ⟨c, a, b⟩ := hfr.look x v h; ⟨c, a, .inl b⟩, hs⟩

noncomputable def leadText (x : Str) : Str := x ++ "x \t"
noncomputable def leadW (x : Str) : Ws := wsOf (leadText x).cps.toList
noncomputable def leadS (x : Str) : Bool := decide ((leadW x).count.length ≤ 1)
noncomputable def leadV (x : Str) : V := objV (leadText x) (leadW x) (leadS x)
noncomputable def colV (x : Str) : V := .list (intsV (colsOf x.cps.toList))
noncomputable def relOf (ls : List Str) (i j : Nat) : Bool := lessW (leadW (ls.getD i Str.empty)) (leadW (ls.getD j Str.empty)) (leadS (ls.getD i Str.empty)) (leadS (ls.getD j Str.empty))
noncomputable def colsLt (x y : Str) : List Bool := (List.range 6).map fun k => decide ((colsOf x.cps.toList).getD k 0 < (colsOf y.cps.toList).getD k 0)
noncomputable def colOfs (ls : List Str) (i j : Nat) : Bool := (colsLt (ls.getD i Str.empty) (ls.getD j Str.empty)).all id
noncomputable def tAbove (b : Bool) (i j : Nat) (a : List Int) : List Int := if b then a.set i (Builtin.bitOr (a.getD i 0) (Builtin.bitOr (a.getD i 0) (1 * 2 ^ j))) else a
noncomputable def tApart1 (i j : Nat) (p : List Int) : List Int := p.set i (Builtin.bitAnd (p.getD i 0) (Builtin.bitXor 31 (1 * 2 ^ j)))
noncomputable def tApart (b : Bool) (i j : Nat) (p : List Int) : List Int := if b then tApart1 j i (tApart1 i j p) else p
noncomputable def tStep (rel col : Nat → Nat → Bool) (i : Nat) (st : List Int × List Int) (j : Nat) : List Int × List Int := (tAbove (rel i j) i j st.1, tApart (col i j) i j st.2)
noncomputable def tRow (rel col : Nat → Nat → Bool) (st : List Int × List Int) (i : Nat) : List Int × List Int := (List.range 5).foldl (tStep rel col i) st
noncomputable def tiesOf (rel col : Nat → Nat → Bool) : List Int × List Int := (List.range 5).foldl (tRow rel col) ([0, 0, 0, 0, 0], [31, 31, 31, 31, 31])

theorem one_look {α : Type} {a x : Str} {b v : α} (h : ([(a, b)] : List (Str × α)).lookup x = some v) : x = a ∧ v = b := by
  rw [List.lookup_cons] at h
  cases q : x == a with
  | true => rw [q] at h; cases h; exact ⟨eq_of_beq q, rfl⟩
  | false => rw [q] at h; cases h
theorem no_look {l : List (Str × Addr × Option V)} (h : ∀ p ∈ l, p.2.2 = none) {x : Str} {c : Addr} {v : V} (e : l.lookup x = some (c, some v)) : False := by
  have := h _ (lookup_mem e)
  cases this

theorem getV {l : List Int} {i : Nat} (h : i < l.length) : (intsV l)[((i : Nat) : Int).toNat]? = some (.int (l.getD i 0)) := by
  unfold intsV
  rw [Int.toNat_natCast, List.getElem?_map, List.getElem?_eq_getElem h, List.getD_eq_getElem?_getD, List.getElem?_eq_getElem h]; rfl
theorem setV {l : List Int} {i : Nat} {v : Int} : (intsV l).set ((i : Nat) : Int).toNat (.int v) = intsV (l.set i v) := by
  unfold intsV
  rw [Int.toNat_natCast, List.map_set]
theorem tAbove_len (b : Bool) (i j : Nat) (a : List Int) : (tAbove b i j a).length = a.length := by unfold tAbove; split <;> simp
theorem tApart_len (b : Bool) (i j : Nat) (a : List Int) : (tApart b i j a).length = a.length := by unfold tApart tApart1; split <;> simp
theorem tStep_len {rel col : Nat → Nat → Bool} {i : Nat} : ∀ (js : List Nat) (st : List Int × List Int), ((js.foldl (tStep rel col i) st).1.length = st.1.length) ∧ ((js.foldl (tStep rel col i) st).2.length = st.2.length)
  | [], _ => ⟨rfl, rfl⟩
  | j :: js, st => by
    obtain ⟨a, b⟩ := tStep_len js (tStep rel col i st j)
    rw [List.foldl_cons]
    exact ⟨a.trans (tAbove_len _ _ _ _), b.trans (tApart_len _ _ _ _)⟩
theorem tRow_len {rel col : Nat → Nat → Bool} : ∀ (is : List Nat) (st : List Int × List Int), ((is.foldl (tRow rel col) st).1.length = st.1.length) ∧ ((is.foldl (tRow rel col) st).2.length = st.2.length)
  | [], _ => ⟨rfl, rfl⟩
  | i :: is, st => by
    obtain ⟨a, b⟩ := tRow_len is (tRow rel col st i)
    obtain ⟨c, d⟩ := tStep_len (rel := rel) (col := col) (i := i) (List.range 5) st
    rw [List.foldl_cons]
    exact ⟨a.trans c, b.trans d⟩
theorem getD_map {α β : Type} {f : α → β} {l : List α} {i : Nat} (a : α) (h : i < l.length) : (l.map f)[i]? = some (f (l.getD i a)) := by
  rw [List.getElem?_map, List.getElem?_eq_getElem h, List.getD_eq_getElem?_getD, List.getElem?_eq_getElem h]; rfl
theorem leadW_bd {x : Str} {n : Nat} (h : x.cps.toList.length ≤ n) : 0 ≤ (leadW x).b ∧ (leadW x).b ≤ (n + 3 : Nat) ∧ (leadW x).count.length ≤ n + 3 := by
  obtain ⟨a, b, c⟩ := wsOf_bd (leadText x).cps.toList
  have : (leadText x).cps.toList.length ≤ n + 3 := by
    unfold leadText
    show (x.cps ++ _).toList.length ≤ _
    rw [Array.toList_append, List.length_append]
    exact Nat.add_le_add_right h 3
  exact ⟨a, Int.le_trans b (by exact_mod_cast this), Nat.le_trans c this⟩
theorem colsOf_len (cps : List Nat) : (colsOf cps).length = 6 := by unfold colsOf; simp
theorem leadText_len (x : Str) : (leadText x).cps.toList.length = x.cps.toList.length + 3 := by
  unfold leadText
  show (x.cps ++ _).toList.length = _
  rw [Array.toList_append, List.length_append]; rfl

set_option maxHeartbeats 2000000 in
theorem fn_ties {w : World} {lo d : Nat} {ls : List Str} (h5 : ls.length = 5) (hlen : ∀ x ∈ ls, x.cps.toList.length ≤ 100) (hord : ∀ i j, i < 5 → j < 5 → relOf ls i j = true → i < j) :
    OPQ w lo (fun vs => call (.ref 156) vs) [.list (ls.map .str)] (.tup [.list (intsV (tiesOf (relOf ls) (colOfs ls)).1), .list (intsV (tiesOf (relOf ls) (colOfs ls)).2)]) (d + 6) := by
  refine' OPQ.fnC (names := ["leads"]) ?k1 ?k2 ?kb ?kl ?kn ?k3 ?k5 ?k6 ?k7 [("leads", .list (ls.map .str))] ?kr (fun L => [("j", L + 3, none), ("i", L + 2, none), ("columns", L + 1, none)]) ?kc ?kd ?ke ?kx
  case k1 => k_is
  case k2 => k_is
  case kb => refine binds1 ?_; intros; rfl
  case kl => rfl
  case kn => decide
  case k3 => intro L; rfl
  case k5 => rfl
  case k6 => rfl
  case k7 => rfl
  case kr => intro x v e; exact ⟨e, by rw [(one_look e).1]; rfl⟩
  case kc => intro L; rfl
  case kd => intro L x c v e; exact (no_look (by simp) e).elim
  case ke => intro L; simp; decide
  intro H s₀ L
  have hsz : (ls.map V.str).length ≤ sizeLine := small (by rw [List.length_map]; omega)
  refine EX.of (ES.assignComp (xs := ls.map .str) (ys := ls.map leadV) (EI.list (.inl ⟨_, _, rfl⟩) (EV.name (v := .list (ls.map .str)) rfl rfl)) (by simp) hsz (CompOk.to (fr := []) rfl rfl rfl (by decide) (.inl rfl) trivial (fun _ => rfl)) (fun H' L' s' i x y hx hy O => ?_) rfl rfl ?_)
  · rw [List.getElem?_map] at hx hy
    obtain ⟨z, hz, rfl⟩ := Option.map_eq_some_iff.mp hx
    rw [hz] at hy
    cases hy
    have hzl := hlen z (List.mem_of_getElem? hz)
    refine ⟨_, TG.name rfl, rfl, rfl, trivial, EV.cast (EV.callK (EV.glob g_Whitespace rfl) k_83 (EVs.cons (EV.bin (EV.name rfl rfl) EV.str (o_addS (small ?_))) EVs.nil rfl) (fn_init (d := d + 3) ?_) rfl rfl) (fields_objV _)⟩
    · show z.cps.size + 3 ≤ _
      have : z.cps.size = z.cps.toList.length := by simp
      omega
    · show (leadText z).cps.toList.length ≤ 1000
      rw [leadText_len]; omega
  refine EX.of (ES.assignC (v := .list (ls.map colV)) (EV.new (EN.comp (xs := ls.map .str) (EI.list (.inl ⟨_, _, rfl⟩) (EV.name (v := .list (ls.map .str)) rfl rfl)) (by simp) hsz (CompOk.to (fr := []) rfl rfl rfl (by decide) (.inl rfl) trivial (fun _ => rfl)) (fun H' L' s' i x y hx hy O => ?_))) rfl rfl ?_ rfl)
  · rw [List.getElem?_map] at hx hy
    obtain ⟨z, hz, rfl⟩ := Option.map_eq_some_iff.mp hx
    rw [hz] at hy
    cases hy
    exact ⟨_, TG.name rfl, rfl, rfl, trivial, EV.callK (EV.glob g_columns rfl) kf151 (EVs.cons (EV.name rfl rfl) EVs.nil rfl) (fn_columns (d := d + 4)) rfl rfl⟩
  refine EX.of (ES.assignNew (xs := intsV [0, 0, 0, 0, 0]) (EN.mulL (n := 5) (EV.new (EN.list (EVs.cons EV.int EVs.nil rfl) (by decide))) EV.int (by decide) (by decide)) rfl rfl fun a => ?_)
  refine EX.of (ES.assignNew (xs := intsV [31, 31, 31, 31, 31]) (EN.mulL (n := 5) (EV.new (EN.list (EVs.cons EV.int EVs.nil rfl) (by decide))) EV.int (by decide) (by decide)) rfl rfl fun p => ?_)
  refine ES.then (fun fl σ' => fl = .next ∧ Sub ⟨[("leads", .list (ls.map .str)), ("whites", .list (ls.map leadV)), ("above", .mr a), ("apart", .mr p)], [("j", L + 3, none), ("i", L + 2, none), ("columns", L + 1, some (.list (ls.map colV)))], [(p, intsV (tiesOf (relOf ls) (colOfs ls)).2), (a, intsV (tiesOf (relOf ls) (colOfs ls)).1)], []⟩ σ')
    (ES.for (xs := upTo 0 5) (EI.range (a := 0) (b := 5) (EV.callT (EV.glob g_range rfl) (EVs.cons EV.int EVs.nil rfl) o_range1 rfl rfl) (by decide) (by decide) (by decide) (by decide))
      (fun i σ' => σ' = ⟨[("leads", .list (ls.map .str)), ("whites", .list (ls.map leadV)), ("above", .mr a), ("apart", .mr p)], [("j", L + 3, none), ("i", L + 2, none), ("columns", L + 1, some (.list (ls.map colV)))], [(p, intsV ((List.range i).foldl (tRow (relOf ls) (colOfs ls)) ([0, 0, 0, 0, 0], [31, 31, 31, 31, 31])).2), (a, intsV ((List.range i).foldl (tRow (relOf ls) (colOfs ls)) ([0, 0, 0, 0, 0], [31, 31, 31, 31, 31])).1)], []⟩) rfl (fun i x σ' hx e => ?_) (fun σ' e => ?_) (fun _ => rfl)) (fun fl σ' h => ?_)
  · subst e
    obtain ⟨hi, rfl⟩ := upTo_get hx
    obtain ⟨len1, len2⟩ := tRow_len (rel := relOf ls) (col := colOfs ls) (List.range i) ([0, 0, 0, 0, 0], [31, 31, 31, 31, 31])
    have hst : ∃ st, (List.range i).foldl (tRow (relOf ls) (colOfs ls)) ([0, 0, 0, 0, 0], [31, 31, 31, 31, 31]) = st := ⟨_, rfl⟩
    obtain ⟨st, est⟩ := hst
    rw [est] at len1 len2 ⊢
    have e0 : (0 : Int) + (i : Int) = (i : Int) := Int.zero_add _
    rw [e0]
    refine ⟨_, TG.cell rfl rfl, EX.of (ES.for (xs := upTo 0 5) (EI.range (a := 0) (b := 5) (EV.callT (EV.glob g_range rfl) (EVs.cons EV.int EVs.nil rfl) o_range1 rfl rfl) (by decide) (by decide) (by decide) (by decide))
      (fun j σ' => σ' = ⟨[("leads", .list (ls.map .str)), ("whites", .list (ls.map leadV)), ("above", .mr a), ("apart", .mr p)], [("j", L + 3, none), ("i", L + 2, some (.int i)), ("columns", L + 1, some (.list (ls.map colV)))], [(p, intsV ((List.range j).foldl (tStep (relOf ls) (colOfs ls) i) st).2), (a, intsV ((List.range j).foldl (tStep (relOf ls) (colOfs ls) i) st).1)], []⟩) rfl (fun j x σ' hx e => ?_) (fun σ' e => ?_) (fun _ => rfl))⟩
    · subst e
      obtain ⟨hj, rfl⟩ := upTo_get hx
      obtain ⟨ln1, ln2⟩ := tStep_len (rel := relOf ls) (col := colOfs ls) (i := i) (List.range j) st
      obtain ⟨s2, es2⟩ : ∃ s2, (List.range j).foldl (tStep (relOf ls) (colOfs ls) i) st = s2 := ⟨_, rfl⟩
      have enext : (List.range (j + 1)).foldl (tStep (relOf ls) (colOfs ls) i) st = tStep (relOf ls) (colOfs ls) i s2 j := by rw [List.range_succ, List.foldl_append, es2]; rfl
      rw [es2] at ln1 ln2 ⊢
      have e0 : (0 : Int) + (j : Int) = (j : Int) := Int.zero_add _
      rw [e0]
      have hi5 : i < 5 := hi
      have hj5 : j < 5 := hj
      obtain ⟨xi, exi⟩ : ∃ xi, ls.getD i Str.empty = xi := ⟨_, rfl⟩
      obtain ⟨xj, exj⟩ : ∃ xj, ls.getD j Str.empty = xj := ⟨_, rfl⟩
      have mi : xi ∈ ls := by
        rw [← exi, List.getD_eq_getElem?_getD, List.getElem?_eq_getElem (by omega)]; exact List.getElem_mem _
      have mj : xj ∈ ls := by
        rw [← exj, List.getD_eq_getElem?_getD, List.getElem?_eq_getElem (by omega)]; exact List.getElem_mem _
      have wi : (ls.map leadV)[((i : Nat) : Int).toNat]? = some (leadV xi) := by rw [Int.toNat_natCast, getD_map Str.empty (by omega), exi]
      have wj : (ls.map leadV)[((j : Nat) : Int).toNat]? = some (leadV xj) := by rw [Int.toNat_natCast, getD_map Str.empty (by omega), exj]
      have ci : (ls.map colV)[((i : Nat) : Int).toNat]? = some (colV xi) := by rw [Int.toNat_natCast, getD_map Str.empty (by omega), exi]
      have cj : (ls.map colV)[((j : Nat) : Int).toNat]? = some (colV xj) := by rw [Int.toNat_natCast, getD_map Str.empty (by omega), exj]
      obtain ⟨bi1, bi2, bi3⟩ := leadW_bd (hlen xi mi)
      obtain ⟨bj1, bj2, bj3⟩ := leadW_bd (hlen xj mj)
      have hrel : relOf ls i j = lessW (leadW xi) (leadW xj) (leadS xi) (leadS xj) := by unfold relOf; rw [exi, exj]
      have hcol : colOfs ls i j = (colsLt xi xj).all id := by unfold colOfs; rw [exi, exj]
      obtain ⟨R, eR⟩ : ∃ R, relOf ls i j = R := ⟨_, rfl⟩
      obtain ⟨K, eK⟩ : ∃ K, colOfs ls i j = K := ⟨_, rfl⟩
      have hordij := hord i j hi5 hj5
      rw [eR] at hordij hrel
      rw [eK] at hcol
      have l1 : s2.1.length = 5 := ln1.trans len1
      have l2 : s2.2.length = 5 := ln2.trans len2
      refine ⟨_, TG.cell rfl rfl, EX.of (ES.assign (v := .bool R) (EV.cast (EV.meth1 (EV.item (fun _ _ => ⟨_, rfl⟩) (EV.name (v := .list (ls.map leadV)) rfl rfl) (EV.cell (v := .int i) rfl rfl) (by omega) (by omega) wi) (EV.item (fun _ _ => ⟨_, rfl⟩) (EV.name (v := .list (ls.map leadV)) rfl rfl) (EV.cell (v := .int j) rfl rfl) (by omega) (by omega) wj) c_less c_f73 k_73 (by decide)
        (fn_less (d := d + 3) (Nat.le_trans bi3 (by decide)) (Nat.le_trans bj3 (by decide)) (Int.le_trans bi2 (by decide)) (Int.le_trans bj2 (by decide)) bi1 bj1) rfl rfl) (by rw [hrel])) rfl ?_ rfl)⟩
      refine ES.then (fun fl σ' => fl = .next ∧ Sub ⟨[("leads", .list (ls.map .str)), ("whites", .list (ls.map leadV)), ("above", .mr a), ("apart", .mr p)], [("j", L + 3, some (.int j)), ("i", L + 2, some (.int i)), ("columns", L + 1, some (.list (ls.map colV)))], [(p, intsV s2.2), (a, intsV (tAbove R i j s2.1))], []⟩ σ')
        (ES.ife (EB.and2 (EB.cmp (EV.name rfl rfl) EV.bool o_isB rfl) (EB.cmp (EV.cell (v := .int i) rfl rfl) (EV.cell (v := .int j) rfl rfl) o_lt rfl)) (fun h => ?_) (fun h => ?_)) (fun fl σ' h => ?_)
      · have hR : R = true := by
          cases R
          · simp at h
          · rfl
        subst hR
        refine EX.of (ES.setItem (i := 1) (v := .int (Builtin.bitOr (s2.1.getD i 0) (Builtin.bitOr (s2.1.getD i 0) (1 * 2 ^ j)))) rfl (by decide) rfl rfl
          (EV.callK (EV.glob g_or rfl) kf130 (EVs.cons (EV.seenI 1 "above" rfl rfl (EV.item (fun _ _ => ⟨_, rfl⟩) (EV.name rfl rfl) (EV.cell (v := .int i) rfl rfl) (by omega) (by omega) (getV (by omega)))) (EVs.cons
            (EV.callK (EV.glob g_or rfl) kf130 (EVs.cons (EV.seenI 1 "above" rfl rfl (EV.item (fun _ _ => ⟨_, rfl⟩) (EV.name rfl rfl) (EV.cell (v := .int i) rfl rfl) (by omega) (by omega) (getV (by omega)))) (EVs.cons
              (EV.callK (EV.glob g_lshift rfl) kf116 (EVs.cons EV.int (EVs.cons (EV.cell (v := .int j) rfl rfl) EVs.nil rfl) rfl) (fn_lshift (d := d + 4) (by omega) (by omega) (by decide)) rfl rfl) EVs.nil rfl) rfl) (fn_or (d := d + 4)) rfl rfl) EVs.nil rfl) rfl) (fn_or (d := d + 4)) rfl rfl)
          (EV.cell (v := .int i) rfl rfl) (by omega) (by rw [intsV_len]; omega) (by omega) rfl (EX.nil ⟨rfl, Sub.to ⟨rfl, rfl, rfl, rfl, trivial⟩ (ClSub.refl _) ?_ rfl⟩))
        show [(p, intsV s2.2), (a, intsV (s2.1.set i _))] = [(p, intsV s2.2), (a, (intsV s2.1).set _ _)]
        rw [setV]
      · have hR : R = false := by
          cases hR : R
          · rfl
          · rw [hR] at h
            have := hordij hR
            simp at h
            omega
        subst hR
        refine EX.of (ES.ife (EB.cmp (EV.name rfl rfl) EV.bool o_isNotB rfl) (fun h => by simp at h) (fun _ => EX.done (EX.nil ⟨rfl, Sub.to ⟨rfl, rfl, rfl, rfl, trivial⟩ (ClSub.refl _) rfl rfl⟩)))
      · obtain ⟨rfl, sb⟩ := h
        refine EX.sub sb ?_
        have lA : (tAbove R i j s2.1).length = 5 := by rw [tAbove_len]; exact l1
        refine ES.then (fun fl σ' => fl = .next ∧ Sub ⟨[("leads", .list (ls.map .str)), ("whites", .list (ls.map leadV)), ("above", .mr a), ("apart", .mr p)], [("j", L + 3, some (.int j)), ("i", L + 2, some (.int i)), ("columns", L + 1, some (.list (ls.map colV)))], [(p, intsV (tApart K i j s2.2)), (a, intsV (tAbove R i j s2.1))], []⟩ σ')
          (ES.ife (EB.boolV (EV.callB (EV.glob g_all rfl) (EVs.cons (EV.new (EN.comp (xs := upTo 0 6) (ys := toV (colsLt xi xj)) (EI.range (a := 0) (b := 6) (EV.callT (EV.glob g_range rfl) (EVs.cons EV.int EVs.nil rfl) o_range1 rfl rfl) (by decide) (by decide) (by decide) (by decide)) (by unfold toV colsLt; simp [upTo_len]) (small (by simp [upTo_len]))
            (CompOk.to (fr := [("columns", .list (ls.map colV)), ("i", .int i), ("j", .int j)]) rfl rfl rfl (by decide) (.inl rfl) ⟨⟨_, rfl, rfl⟩, ⟨_, rfl, rfl⟩, ⟨_, rfl, rfl⟩, trivial⟩ (fun _ => rfl)) (fun H' L' s' k x y hx hy O => ?_))) EVs.nil rfl) (o_all (bs := colsLt xi xj)) rfl rfl) rfl) (fun h => ?_) (fun h => ?_)) (fun fl σ' h => ?_)
        · obtain ⟨hk, rfl⟩ := upTo_get hx
          have hk6 : k < 6 := hk
          have ey : y = .bool (decide ((colsOf xi.cps.toList).getD k 0 < (colsOf xj.cps.toList).getD k 0)) := by
            unfold toV colsLt at hy
            rw [List.getElem?_map, List.getElem?_map, List.getElem?_range hk6] at hy
            cases hy; rfl
          subst ey
          have e0 : (0 : Int) + (k : Int) = (k : Int) := Int.zero_add _
          rw [e0]
          exact ⟨_, TG.name rfl, rfl, rfl, trivial, EV.cmp (EV.item (fun _ _ => ⟨_, rfl⟩) (EV.item (fun _ _ => ⟨_, rfl⟩) (EV.free (v := .list (ls.map colV)) rfl rfl) (EV.free (v := .int i) rfl rfl) (by omega) (by omega) ci) (EV.name rfl rfl) (by omega) (by omega) (getV (by rw [colsOf_len]; omega)))
            (EV.item (fun _ _ => ⟨_, rfl⟩) (EV.item (fun _ _ => ⟨_, rfl⟩) (EV.free (v := .list (ls.map colV)) rfl rfl) (EV.free (v := .int j) rfl rfl) (by omega) (by omega) cj) (EV.name rfl rfl) (by omega) (by omega) (getV (by rw [colsOf_len]; omega))) o_lt rfl⟩
        · have hK : K = true := hcol.trans h
          subst hK
          have step : ∀ (P : List Int) (u v : Nat), P.length = 5 → u < 5 → True := fun _ _ _ _ _ => trivial
          refine EX.of (ES.setItem (i := 0) (v := .int (Builtin.bitAnd (s2.2.getD i 0) (Builtin.bitXor 31 (1 * 2 ^ j)))) rfl (by decide) rfl rfl
            (EV.callK (EV.glob g_and rfl) kf109 (EVs.cons (EV.seenI 0 "apart" rfl rfl (EV.item (fun _ _ => ⟨_, rfl⟩) (EV.name rfl rfl) (EV.cell (v := .int i) rfl rfl) (by omega) (by omega) (getV (by omega)))) (EVs.cons
              (EV.callK (EV.glob g_xor rfl) kf137 (EVs.cons EV.int (EVs.cons
                (EV.callK (EV.glob g_lshift rfl) kf116 (EVs.cons EV.int (EVs.cons (EV.cell (v := .int j) rfl rfl) EVs.nil rfl) rfl) (fn_lshift (d := d + 4) (by omega) (by omega) (by decide)) rfl rfl) EVs.nil rfl) rfl) (fn_xor (d := d + 4)) rfl rfl) EVs.nil rfl) rfl) (fn_and (d := d + 4)) rfl rfl)
            (EV.cell (v := .int i) rfl rfl) (by omega) (by rw [intsV_len]; omega) (by omega) rfl ?_)
          refine EX.sub (σ₁ := ⟨[("leads", .list (ls.map .str)), ("whites", .list (ls.map leadV)), ("above", .mr a), ("apart", .mr p)], [("j", L + 3, some (.int j)), ("i", L + 2, some (.int i)), ("columns", L + 1, some (.list (ls.map colV)))], [(p, intsV (tApart1 i j s2.2)), (a, intsV (tAbove R i j s2.1))], []⟩) (Sub.to ⟨rfl, rfl, rfl, rfl, trivial⟩ (ClSub.refl _) (by show _ = [(p, (intsV s2.2).set _ _), _]; rw [setV]; rfl) rfl) ?_
          have lP : (tApart1 i j s2.2).length = 5 := by unfold tApart1; rw [List.length_set]; exact l2
          refine EX.of (ES.setItem (i := 0) (v := .int (Builtin.bitAnd ((tApart1 i j s2.2).getD j 0) (Builtin.bitXor 31 (1 * 2 ^ i)))) rfl (by decide) rfl rfl
            (EV.callK (EV.glob g_and rfl) kf109 (EVs.cons (EV.seenI 0 "apart" rfl rfl (EV.item (fun _ _ => ⟨_, rfl⟩) (EV.name rfl rfl) (EV.cell (v := .int j) rfl rfl) (by omega) (by omega) (getV (by omega)))) (EVs.cons
              (EV.callK (EV.glob g_xor rfl) kf137 (EVs.cons EV.int (EVs.cons
                (EV.callK (EV.glob g_lshift rfl) kf116 (EVs.cons EV.int (EVs.cons (EV.cell (v := .int i) rfl rfl) EVs.nil rfl) rfl) (fn_lshift (d := d + 4) (by omega) (by omega) (by decide)) rfl rfl) EVs.nil rfl) rfl) (fn_xor (d := d + 4)) rfl rfl) EVs.nil rfl) rfl) (fn_and (d := d + 4)) rfl rfl)
            (EV.cell (v := .int j) rfl rfl) (by omega) (by rw [intsV_len]; omega) (by omega) rfl (EX.nil ⟨rfl, Sub.to ⟨rfl, rfl, rfl, rfl, trivial⟩ (ClSub.refl _) ?_ rfl⟩))
          show _ = [(p, (intsV (tApart1 i j s2.2)).set _ _), _]
          rw [setV]; rfl
        · have hK : K = false := hcol.trans h
          subst hK
          exact EX.nil ⟨rfl, Sub.refl _⟩
        · obtain ⟨rfl, sb⟩ := h
          refine EX.sub sb ?_
          refine EX.nil (Turn.to rfl ⟨rfl, rfl, rfl, rfl, trivial⟩ ⟨rfl, rfl, .inl rfl, rfl, rfl, .inr rfl, rfl, rfl, .inr rfl, trivial⟩ ?_ rfl)
          rw [enext]
          unfold tStep
          rw [eR, eK]
    · subst e
      refine EX.done (EX.nil (Turn.to rfl ⟨rfl, rfl, rfl, rfl, trivial⟩ ⟨rfl, rfl, .inl rfl, rfl, rfl, .inl rfl, rfl, rfl, .inr rfl, trivial⟩ ?_ rfl))
      rw [List.range_succ, List.foldl_append, est, upTo_len]; rfl
  · subst e
    exact EX.nil ⟨rfl, by rw [upTo_len]; exact Sub.refl _⟩
  · obtain ⟨rfl, sb⟩ := h
    refine EX.sub sb ?_
    refine EX.freeze 0 "apart" rfl rfl (EX.freeze 0 "above" rfl rfl ?_)
    exact EX.ret (EV.tuple (EVs.cons (EV.name rfl rfl) (EVs.cons (EV.name rfl rfl) EVs.nil rfl) rfl) (small (by simp))) (.inl rfl)
end Mine

namespace Mine
open PySem PySem.W in
theorem fillF8 : (hd.heap_39 = hd.heap_39) ∧ (PySem.Challenge.rw_wj0033_01 = PySem.Challenge.rw_wj0033_01) := by k_fill; exact ⟨rfl, rfl⟩
open PySem PySem.Spec PySem.Calls PyProof.Rows PySem.W

noncomputable def bitsOf (f : Nat) : List Nat := (List.range 5).filter fun j => f.testBit j
noncomputable def prOk (base f : Nat) : Bool := decide (prRun 32 0 ((f : Int) * 2 ^ base) [] = some ((bitsOf f).map (· + base)))
theorem pr_ok : ((List.range 7).all fun base => (List.range 31).all fun f => prOk base (f + 1)) = true := by decide +kernel
noncomputable def namesText : Str := "OPTIMIZED NEWLOCALS VARARGS VARKEYWORDS NESTED GENERATOR NOFREE COROUTINE ITERABLE_COROUTINE ASYNC_GENERATOR 0x400"
theorem names_occ : Builtin.Str.occurrences namesText " " 0 namesText.length (namesText.length + 1) = [9, 19, 27, 39, 46, 56, 63, 73, 92, 108] := by decide +kernel
theorem names_parts : Builtin.Str.partsBetween namesText [9, 19, 27, 39, 46, 56, 63, 73, 92, 108] 1 = nmL := by decide +kernel
theorem names_free : ∀ p ∈ nmL, 44 ∉ p.cps.toList := by decide +kernel
theorem names_ok : nmL.all PyData.strOk = true := by decide +kernel
theorem names_short : ∀ p ∈ nmL, p.length ≤ 20 := by decide +kernel
theorem nmS_mem {i : Nat} (h : i ≤ 10) : nmS i ∈ nmL := by
  unfold nmS
  rw [List.getD_eq_getElem?_getD, List.getElem?_eq_getElem (by show i < 11; omega)]
  exact List.getElem_mem _
theorem prun {base f : Nat} (hb : base ≤ 6) (h1 : 1 ≤ f) (h2 : f ≤ 31) : prRun 32 0 ((f : Int) * 2 ^ base) [] = some ((bitsOf f).map (· + base)) := by
  have := List.all_eq_true.mp (List.all_eq_true.mp pr_ok base (List.mem_range.mpr (by omega))) (f - 1) (List.mem_range.mpr (by omega))
  have e : f - 1 + 1 = f := by omega
  rw [e] at this
  exact of_decide_eq_true this
theorem bits_lt {f j : Nat} (h : j ∈ bitsOf f) : j < 5 := List.mem_range.mp (List.mem_filter.mp h).1
theorem bits_len (f : Nat) : (bitsOf f).length ≤ 5 := List.length_filter_le _ _

noncomputable def nmB (base : Nat) : List Str := (nmL.drop base).take 5
theorem nmB_get {base k : Nat} (hb : base ≤ 6) (hk : k < 5) : (nmB base)[k]? = some (nmS (k + base)) := by
  unfold nmB
  rw [List.getElem?_take_of_lt hk, List.getElem?_drop]
  unfold nmS
  have hl : nmL.length = 11 := rfl
  rw [Nat.add_comm base k, List.getD_eq_getElem?_getD, List.getElem?_eq_getElem (by omega)]
  rfl
theorem nm_inj : ((List.range 11).all fun i => (List.range 11).all fun j => nmS i != nmS j || i == j) = true := by decide +kernel
theorem nmS_inj {i j : Nat} (hi : i ≤ 10) (hj : j ≤ 10) (h : nmS i = nmS j) : i = j := by
  have := List.all_eq_true.mp (List.all_eq_true.mp nm_inj i (List.mem_range.mpr (by omega))) j (List.mem_range.mpr (by omega))
  rw [h] at this
  simpa using this

noncomputable def setsL (ns : List Str) : List (List Str) := ns.foldl (fun ss x => ss ++ ss.map (· ++ [x])) [[]]
theorem sets_eq (a b c d e : Str) : setsL [a, b, c, d, e] = (List.range 32).map fun f => (bitsOf f).map fun k => [a, b, c, d, e].getD k Str.empty := by rfl
theorem sets_get {base f : Nat} (hb : base ≤ 6) (hf : f ≤ 31) : (setsL (nmB base))[f]? = some ((bitsOf f).map fun k => nmS (k + base)) := by
  have hl : (nmB base).length = 5 := by unfold nmB; rw [List.length_take, List.length_drop]; show min 5 (11 - base) = 5; omega
  match h : nmB base, hl with
  | [a, b, c, d, e], _ =>
    rw [sets_eq, List.getElem?_map, List.getElem?_range (by omega)]
    simp only [Option.map_some, Option.some.injEq]
    refine List.map_congr_left fun k hk => ?_
    have hk5 := bits_lt hk
    have := nmB_get hb hk5
    rw [h] at this
    rw [List.getD_eq_getElem?_getD, this]; rfl

theorem pickV_run {α : Type} (xs : List α) {a b : Nat} (hb : b ≤ xs.length) (hab : a ≤ b) : pickV xs (some (a : Int)) (some (b : Int)) none = (xs.drop a).take (b - a) := by
  have e1 : sliceBounds (some (a : Int)) (some (b : Int)) none xs.length = ((a : Int), (b : Int), 1) := by
    show (max 0 (min (if (a : Int) < 0 then (a : Int) + (xs.length : Nat) else a) (xs.length : Nat)), max 0 (min (if (b : Int) < 0 then (b : Int) + (xs.length : Nat) else b) (xs.length : Nat)), (1 : Int)) = _
    rw [if_neg (by omega), if_neg (by omega)]
    refine Prod.ext ?_ (Prod.ext ?_ rfl)
    · show max 0 (min (a : Int) _) = (a : Int); omega
    · show max 0 (min (b : Int) _) = (b : Int); omega
  unfold pickV
  rw [e1, sliceRange_one]
  have := pick_run xs.toArray a (b - a)
  simpa using this
theorem pickV_upto {α : Type} (xs : List α) {b : Nat} (hb : b ≤ xs.length) : pickV xs none (some (b : Int)) none = xs.take b := by
  have e1 : sliceBounds none (some (b : Int)) none xs.length = (((0 : Nat) : Int), (b : Int), 1) := by
    show ((0 : Int), max 0 (min (if (b : Int) < 0 then (b : Int) + (xs.length : Nat) else b) (xs.length : Nat)), (1 : Int)) = _
    rw [if_neg (by omega)]
    refine Prod.ext rfl (Prod.ext ?_ rfl)
    show max 0 (min (b : Int) _) = (b : Int); omega
  unfold pickV
  rw [e1, sliceRange_one]
  have := pick_run xs.toArray 0 b
  simpa using this
theorem newsTo_pick {lo n base : Nat} (hb : base ≤ 6) : pickV (newsTo lo n nmL) (some (base : Int)) (some ((base : Int) + 5)) none = newsTo lo n (nmB base) := by
  have := pickV_run (newsTo lo n nmL) (a := base) (b := base + 5) (by unfold newsTo; rw [List.length_map]; show base + 5 ≤ 11; omega) (by omega)
  have e5 : ((base + 5 : Nat) : Int) = (base : Int) + 5 := by omega
  rw [e5] at this
  rw [this]
  unfold newsTo nmB
  rw [List.map_take, List.map_drop]
  congr 1; omega

structure RSt where
  L : List Int
  W : List Int
  M : List Int
  F : List Int
noncomputable def rGet (l : List Int) (i : Int) : Option Int := if 0 ≤ i then l[i.toNat]? else none
noncomputable def rStep (above apart : List Int) (st : RSt) (f : Nat) : Option RSt :=
  match (bitsOf f).head? with
  | none => none
  | some k =>
    match above[k]?, apart[k]? with
    | some ab, some ap =>
      match rGet st.L (Builtin.bitXor f (1 * 2 ^ k)), rGet st.L (Builtin.bitAnd (Builtin.bitXor f (1 * 2 ^ k)) ab), rGet st.W (Builtin.bitXor f (1 * 2 ^ k)), rGet st.W (Builtin.bitAnd (Builtin.bitXor f (1 * 2 ^ k)) ap) with
      | some a1, some a2, some b1, some b2 =>
        match rGet st.M (max a1 (1 + a2)), rGet st.F (max b1 (1 + b2)) with
        | some m, some g => some ⟨st.L ++ [max a1 (1 + a2)], st.W ++ [max b1 (1 + b2)], st.M.set (max a1 (1 + a2)).toNat (max m (bitsOf f).length), st.F.set (max b1 (1 + b2)).toNat (max g (bitsOf f).length)⟩
        | _, _ => none
      | _, _, _, _ => none
    | _, _ => none
noncomputable def rRun (above apart : List Int) : Nat → Nat → RSt → Option RSt
  | 0, _, st => some st
  | k + 1, f, st => match rStep above apart st f with
    | some st' => rRun above apart k (f + 1) st'
    | none => none
noncomputable def diffs (row : List Int) : List Int := (List.range 5).map fun k => maxL (row.take (k + 2)) - maxL (row.take (k + 1))
theorem rGet_some {l : List Int} {i v : Int} (h : rGet l i = some v) : 0 ≤ i ∧ i.toNat < l.length ∧ (intsV l)[i.toNat]? = some (.int v) := by
  unfold rGet at h
  split at h
  · rename_i h0
    refine ⟨h0, (List.getElem?_eq_some_iff.mp h).1, ?_⟩
    unfold intsV; rw [List.getElem?_map, h]; rfl
  · cases h
end Mine

namespace Mine
open PySem PySem.W in
theorem fillF9 : (hd.heap_39 = hd.heap_39) ∧ (PySem.Challenge.rw_wj0033_01 = PySem.Challenge.rw_wj0033_01) := by k_fill; exact ⟨rfl, rfl⟩
open PySem PySem.Spec PySem.Calls PyProof.Rows PySem.W

theorem EVE.cast {C : Cx} {σ : Sg} {e : Expr} {P P' : Nat → V} (h : EVE C σ e P) (q : ∀ n, P n = P' n) : EVE C σ e P' := by
  have : P = P' := funext q
  exact this ▸ h
theorem setsL_snoc (t : List Str) (x : Str) : setsL (t ++ [x]) = setsL t ++ (setsL t).map (· ++ [x]) := by unfold setsL; rw [List.foldl_append]; rfl
theorem setsL_go : ∀ (t : List Str) (ss : List (List Str)) (k : Nat), (∀ s ∈ ss, s.length ≤ k) → (t.foldl (fun ss x => ss ++ ss.map (· ++ [x])) ss).length = ss.length * 2 ^ t.length ∧ ∀ s ∈ t.foldl (fun ss x => ss ++ ss.map (· ++ [x])) ss, s.length ≤ k + t.length
  | [], ss, k, h => ⟨by simp, h⟩
  | x :: t, ss, k, h => by
    obtain ⟨a, b⟩ := setsL_go t (ss ++ ss.map (· ++ [x])) (k + 1) (fun s hs => by
      rcases List.mem_append.mp hs with h' | h'
      · have := h s h'; omega
      · obtain ⟨u, hu, rfl⟩ := List.mem_map.mp h'
        have := h u hu
        rw [List.length_append]; simp; omega)
    rw [List.foldl_cons]
    refine ⟨a.trans ?_, fun s hs => ?_⟩
    · rw [List.length_append, List.length_map, List.length_cons, Nat.pow_succ, ← Nat.two_mul, Nat.mul_comm 2, Nat.mul_assoc, Nat.mul_comm 2]
    · have := b s hs
      rw [List.length_cons]; omega
theorem setsL_bd (t : List Str) : (setsL t).length = 2 ^ t.length ∧ ∀ s ∈ setsL t, s.length ≤ t.length := by
  obtain ⟨a, b⟩ := setsL_go t [[]] 0 (fun s hs => by simp at hs; subst hs; simp)
  exact ⟨by unfold setsL; rw [a]; simp, fun s hs => by have := b s hs; omega⟩
theorem newsTo_len (lo n : Nat) (s : List Str) : (newsTo lo n s).length = s.length := by unfold newsTo; simp
theorem newsTo_snoc (lo n : Nat) (s : List Str) (x : Str) : newsTo lo n (s ++ [x]) = newsTo lo n s ++ [.strT x lo (some n)] := by unfold newsTo; simp
noncomputable def setsV (lo n : Nat) (t : List Str) : List V := (setsL t).map fun s => .list (newsTo lo n s)
theorem setsV_snoc (lo n : Nat) (t : List Str) (x : Str) : setsV lo n (t ++ [x]) = setsV lo n t ++ (setsL t).map fun s => .list (newsTo lo n (s ++ [x])) := by
  unfold setsV; rw [setsL_snoc, List.map_append, List.map_map]; rfl

noncomputable def wordsV (lo : Nat) (js : List Nat) : List V := match js with
  | [j] => [nmV lo j]
  | js => news lo (js.map nmS)
theorem words_txt {lo : Nat} {js : List Nat} (h : ∀ j ∈ js, j ≤ 10) : areTxt (wordsV lo js) (js.map nmS) := by
  unfold wordsV
  split
  · rename_i j
    exact ⟨nmV_txt lo j (h j (.head _)), trivial⟩
  · unfold news; exact areTxt.ofMap (fun x => .strT x lo Option.none) (fun _ => rfl) _
theorem words_len {lo : Nat} {js : List Nat} : (wordsV lo js).length = js.length := by
  unfold wordsV
  split
  · rfl
  · unfold news; simp
theorem prOut_txt {lo : Nat} {js : List Nat} (h : ∀ j ∈ js, j ≤ 10) : isTxt (prOut lo js) (Txt.join comma (js.map nmS)) := by
  unfold prOut
  split
  · rename_i j
    have : Txt.join comma ([j].map nmS) = nmS j := rfl
    rw [this]; exact nmV_txt lo j (h j (.head _))
  · rfl
theorem join_ok {js : List Nat} (h : ∀ j ∈ js, j ≤ 10) (hl : js.length ≤ 5) : JoinOk comma (js.map nmS) = true := by
  refine joinOk_of ?_
  have : ∀ (l : List Nat), (∀ j ∈ l, j ≤ 10) → ((l.map nmS).map (·.length)).sum ≤ l.length * 20 := by
    intro l
    induction l with
    | nil => intro _; simp
    | cons j l ih =>
      intro h
      have a := names_short _ (nmS_mem (h j (.head _)))
      have b := ih fun i hi => h i (.tail _ hi)
      simp only [List.map_cons, List.sum_cons, List.length_cons]
      omega
  have h1 := this js h
  have e : comma.length = 2 := rfl
  rw [List.length_map, e]
  omega
theorem o_words {w : World} {lo d : Nat} {js : List Nat} (h : ∀ j ∈ js, j ≤ 10) (hl : js.length ≤ 5) (hne : js ≠ []) : OPQ w lo (fun vs => call (.builtin "str.split") vs) [prOut lo js, .str comma] (.list (wordsV lo js)) d := by
  have free : ∀ p ∈ js.map nmS, 44 ∉ p.cps.toList := fun p hp => by
    obtain ⟨j, hj, rfl⟩ := List.mem_map.mp hp
    exact names_free _ (nmS_mem (h j hj))
  by_cases h1 : js.length = 1
  · match js, h1 with
    | [j], _ =>
      exact o_split1 (nmV_txt lo j (h j (.head _))) rfl (occ_free (free _ (.head _)))
  · have h2 : 2 ≤ js.length := by
      have : js.length ≠ 0 := fun q => hne (List.eq_nil_of_length_eq_zero q)
      omega
    have e1 : prOut lo js = .strT (Txt.join comma (js.map nmS)) lo Option.none := by
      unfold prOut; split
      · simp at h1
      · rfl
    have e2 : wordsV lo js = news lo (js.map nmS) := by
      unfold wordsV; split
      · simp at h1
      · rfl
    obtain ⟨s1, s2⟩ := split_join (ps := js.map nmS) (by rw [List.length_map]; exact h2) free
    have hok := join_ok h hl
    have hlen := joinFit_length (fits_join hok)
    have hc : (decide ((Txt.join comma (js.map nmS)).length < comma.length) || decide (Builtin.Str.strKind (Txt.join comma (js.map nmS)) < Builtin.Str.strKind comma)) = false := by
      have a : ¬ (Txt.join comma (js.map nmS)).length < comma.length := fun q => by
        have ej : Txt.join comma (js.map nmS) = Str.join comma (js.map nmS) := StrLaws.glued_eq_join _ _
        rw [ej] at q
        match js, h2 with
        | a :: b :: r, _ =>
          have e3 := congrArg List.length (join_toList (nmS a) ((b :: r).map nmS))
          have e4 : (Str.join comma ((a :: b :: r).map nmS)).length = (Str.join comma (nmS a :: (b :: r).map nmS)).cps.toList.length := by
            show (Str.join comma (nmS a :: (b :: r).map nmS)).cps.size = _
            simp
          rw [e4, e3] at q
          simp only [List.map_cons, List.flatMap_cons, List.length_append, List.length_cons] at q
          have e5 : comma.length = 2 := rfl
          omega
      have b : Builtin.Str.strKind comma = 1 := by decide +kernel
      have c : 1 ≤ Builtin.Str.strKind (Txt.join comma (js.map nmS)) := by
        unfold Builtin.Str.strKind
        split
        · decide
        · split <;> decide
      rw [decide_eq_false a, b, decide_eq_false (by omega)]; rfl
    rw [e1, e2]
    have := o_splitN (w := w) (lo := lo) (d := d) (X := .strT (Txt.join comma (js.map nmS)) lo Option.none) (x := Txt.join comma (js.map nmS)) (y := comma) rfl rfl s1 hc hlen (by rw [s2]; exact small (by rw [List.length_map]; omega))
    rw [s2] at this
    exact this
end Mine

namespace Mine
open PySem PySem.W in
theorem fillF10 : (hd.heap_39 = hd.heap_39) ∧ (PySem.Challenge.rw_wj0033_01 = PySem.Challenge.rw_wj0033_01) := by k_fill; exact ⟨rfl, rfl⟩
open PySem PySem.Spec PySem.Calls PyProof.Rows PySem.W

theorem intsV_get {l : List Int} {k : Nat} {v : Int} (h : l[k]? = some v) : (intsV l)[((k : Nat) : Int).toNat]? = some (.int v) := by
  unfold intsV
  rw [Int.toNat_natCast, List.getElem?_map, h]; rfl
theorem rStep_some {above apart : List Int} {st st' : RSt} {f : Nat} (h : rStep above apart st f = some st') :
    ∃ k ab ap a1 a2 b1 b2 m g, (bitsOf f).head? = some k ∧ above[k]? = some ab ∧ apart[k]? = some ap ∧ rGet st.L (Builtin.bitXor f (1 * 2 ^ k)) = some a1 ∧ rGet st.L (Builtin.bitAnd (Builtin.bitXor f (1 * 2 ^ k)) ab) = some a2 ∧
      rGet st.W (Builtin.bitXor f (1 * 2 ^ k)) = some b1 ∧ rGet st.W (Builtin.bitAnd (Builtin.bitXor f (1 * 2 ^ k)) ap) = some b2 ∧ rGet st.M (max a1 (1 + a2)) = some m ∧ rGet st.F (max b1 (1 + b2)) = some g ∧
      st' = ⟨st.L ++ [max a1 (1 + a2)], st.W ++ [max b1 (1 + b2)], st.M.set (max a1 (1 + a2)).toNat (max m (bitsOf f).length), st.F.set (max b1 (1 + b2)).toNat (max g (bitsOf f).length)⟩ := by
  unfold rStep at h
  split at h
  · cases h
  · rename_i k hk
    split at h
    · rename_i ab ap h1 h2
      split at h
      · rename_i a1 a2 b1 b2 h3 h4 h5 h6
        split at h
        · rename_i m g h7 h8
          exact ⟨k, ab, ap, a1, a2, b1, b2, m, g, hk, h1, h2, h3, h4, h5, h6, h7, h8, (Option.some.inj h).symm⟩
        · cases h
      · cases h
    · cases h
theorem rRun_succ {above apart : List Int} {k f : Nat} {st out : RSt} (h : rRun above apart (k + 1) f st = some out) : ∃ st', rStep above apart st f = some st' ∧ rRun above apart k (f + 1) st' = some out := by
  unfold rRun at h
  split at h
  · rename_i st' h1
    exact ⟨st', h1, h⟩
  · cases h
theorem words_head {n : Nat} {js : List Nat} {j0 : Nat} (hn : 1 ≤ n) (hj : js.head? = some j0) (h : ∀ j ∈ js, j ≤ 10) : ∃ l2 h2, (wordsV n js)[0]? = some (.strT (nmS j0) l2 h2) ∧ 1 ≤ l2 ∧ (n ≤ l2 ∨ h2 = some 318) := by
  unfold wordsV
  split
  · rename_i j
    cases hj
    show ∃ l2 h2, some (nmV n j0) = _ ∧ _
    unfold nmV
    split
    · exact ⟨1, some 318, rfl, Nat.le_refl _, .inr rfl⟩
    · have : j0 = 10 := by have := h j0 (.head _); omega
      subst this
      exact ⟨n, Option.none, rfl, hn, .inl (Nat.le_refl _)⟩
  · cases js with
    | nil => cases hj
    | cons a r =>
      cases hj
      exact ⟨n, Option.none, rfl, hn, .inl (Nat.le_refl _)⟩
theorem setsV_get {lo n base f : Nat} (hb : base ≤ 6) (hf : f ≤ 31) : (setsV lo n (nmB base))[((f : Nat) : Int).toNat]? = some (.list (newsTo lo n ((bitsOf f).map fun k => nmS (k + base)))) := by
  unfold setsV
  rw [Int.toNat_natCast, List.getElem?_map, sets_get hb hf]; rfl
theorem setsV_len (lo n : Nat) (t : List Str) : (setsV lo n t).length = 2 ^ t.length := by unfold setsV; rw [List.length_map, (setsL_bd t).1]
theorem nmB_len {base : Nat} (hb : base ≤ 6) : (nmB base).length = 5 := by unfold nmB; rw [List.length_take, List.length_drop]; show min 5 (11 - base) = 5; omega
theorem nmS_ok {j : Nat} (h : j ≤ 10) : PyData.strOk (nmS j) = true := List.all_eq_true.mp names_ok _ (nmS_mem h)
theorem two_look {α : Type} {a b x : Str} {u v w : α} (h : ([(a, u), (b, v)] : List (Str × α)).lookup x = some w) : (x = a ∧ w = u) ∨ (x = b ∧ w = v) := by
  rw [List.lookup_cons] at h
  cases q : x == a with
  | true => rw [q] at h; cases h; exact .inl ⟨eq_of_beq q, rfl⟩
  | false => rw [q] at h; exact .inr (one_look h)
theorem pick_ints (row : List Int) {b : Nat} (hb : b ≤ row.length) {i : Int} (e : i = (b : Int)) : pickV (intsV row) none (some i) none = intsV (row.take b) := by
  subst e
  rw [pickV_upto _ (by rw [intsV_len]; exact hb)]
  unfold intsV; rw [List.map_take]
theorem take_ne {row : List Int} {b : Nat} (h1 : 1 ≤ b) (h2 : 1 ≤ row.length) : row.take b ≠ [] := fun q => by
  have := congrArg List.length q
  rw [List.length_take, List.length_nil] at this
  omega

noncomputable abbrev sgR (ls : List Str) (base : Nat) (ab ap : List Int) (lo n : Nat) (L lg wi mo fe : Addr) (st : RSt) : Sg :=
  ⟨[("leads", .list (ls.map .str)), ("base", .int base), ("above", .list (intsV ab)), ("apart", .list (intsV ap)), ("names", .list (newsTo lo n (nmB base))), ("sets", .list (setsV lo n (nmB base))), ("longest", .mr lg), ("widest", .mr wi), ("most", .mr mo), ("free", .mr fe)], [("name", L + 1, none)], [(fe, intsV st.F), (mo, intsV st.M), (wi, intsV st.W), (lg, intsV st.L)], []⟩
set_option maxHeartbeats 4000000 in
theorem fn_rows {w : World} {lo d : Nat} {ls : List Str} (hlo : 430 ≤ lo) (h5 : ls.length = 5) (hlen : ∀ x ∈ ls, x.cps.toList.length ≤ 100) (hord : ∀ i j, i < 5 → j < 5 → relOf ls i j = true → i < j) {base : Nat} (hb : base ≤ 6) {out : RSt}
    (hrun : rRun (tiesOf (relOf ls) (colOfs ls)).1 (tiesOf (relOf ls) (colOfs ls)).2 31 1 ⟨[0], [0], [0, 0, 0, 0, 0, 0], [0, 0, 0, 0, 0, 0]⟩ = some out) (hab : (tiesOf (relOf ls) (colOfs ls)).1 ≠ []) :
    OPQ w lo (fun vs => call (.ref 161) vs) [.list (ls.map .str), .int base] (.list [.list (intsV (diffs out.M)), .list (intsV (diffs out.F))]) (d + 8) := by
  refine' OPQ.fnC (names := ["leads", "base"]) ?k1 ?k2 ?kb ?kl ?kn ?k3 ?k5 ?k6 ?k7 [("leads", .list (ls.map .str)), ("base", .int base)] ?kr (fun L => [("name", L + 1, none)]) ?kc ?kd ?ke ?kx
  case k1 => k_is
  case k2 => k_is
  case kb => refine binds2 ?_; intros; rfl
  case kl => rfl
  case kn => decide
  case k3 => intro L; rfl
  case k5 => rfl
  case k6 => rfl
  case k7 => rfl
  case kr => intro x v e; exact ⟨e, by rcases two_look e with ⟨q, _⟩ | ⟨q, _⟩ <;> (rw [q]; rfl)⟩
  case kc => intro L; rfl
  case kd => intro L x c v e; exact (no_look (by simp) e).elim
  case ke => intro L; simp
  intro H s₀ L
  obtain ⟨T, eT⟩ : ∃ T, tiesOf (relOf ls) (colOfs ls) = T := ⟨_, rfl⟩
  have hties := fn_ties (w := w) (lo := lo) (d := d + 1) h5 hlen hord
  rw [eT] at hrun hab hties
  obtain ⟨ab, ap⟩ := T
  refine EX.of (ES.assignT (EV.callK (EV.glob g_ties rfl) kf156 (EVs.cons (EV.name rfl rfl) EVs.nil rfl) hties rfl rfl) (TG.tup ⟨_, TG.name rfl, _, TG.name rfl, rfl⟩ rfl) rfl rfl ?_)
  refine EX.assignE (EVE.cast (EVE.slice (lo := some (base : Int)) (hi := some ((base : Int) + 5)) (stp := none) (EVE.split (x := namesText) (y := " ") EV.str EV.str rfl (by rw [names_occ]; rfl) (by decide +kernel) (by decide +kernel) (by rw [names_occ]; show (Builtin.Str.partsBetween namesText [9, 19, 27, 39, 46, 56, 63, 73, 92, 108] 1).length ≤ _; rw [names_parts]; decide) rfl rfl) (EV.name (v := .int base) rfl rfl) (EV.bin (EV.name (v := .int base) rfl rfl) EV.int o_add) trivial (by decide) (fun n => ?_) (fun _ _ => ⟨_, rfl⟩))
    (P' := fun n => .list (newsTo lo n (nmB base))) (fun n => ?_)) rfl rfl fun n hn => ?_
  · rw [names_occ]; show (newsTo lo n (Builtin.Str.partsBetween namesText [9, 19, 27, 39, 46, 56, 63, 73, 92, 108] 1)).length ≤ _; rw [names_parts, newsTo_len]; decide
  · rw [names_occ]
    show V.list (pickV (newsTo lo n (Builtin.Str.partsBetween namesText [9, 19, 27, 39, 46, 56, 63, 73, 92, 108] 1)) _ _ _) = _
    rw [names_parts, newsTo_pick hb]
  refine EX.of (ES.assignNew (xs := [.list []]) (EN.list (EVs.cons (EV.new (EN.list EVs.nil (by decide))) EVs.nil rfl) (by decide)) rfl rfl fun a => ?_)
  refine EX.freeze 0 "sets" rfl rfl ?_
  have hn1 : 1 ≤ n := by have : lo ≤ n := hn; omega
  have hl5 := nmB_len hb
  refine ES.then (fun fl σ' => fl = .next ∧ Sub ⟨[("leads", .list (ls.map .str)), ("base", .int base), ("above", .list (intsV ab)), ("apart", .list (intsV ap)), ("names", .list (newsTo lo n (nmB base))), ("sets", .list (setsV lo n (nmB base)))], [("name", L + 1, none)], [], []⟩ σ')
    (ES.for (xs := newsTo lo n (nmB base)) (EI.list (.inl ⟨_, _, rfl⟩) (EV.name (v := .list (newsTo lo n (nmB base))) rfl rfl))
      (fun i σ' => σ' = ⟨[("leads", .list (ls.map .str)), ("base", .int base), ("above", .list (intsV ab)), ("apart", .list (intsV ap)), ("names", .list (newsTo lo n (nmB base))), ("sets", .list (setsV lo n ((nmB base).take i)))], [("name", L + 1, none)], [], []⟩) rfl (fun i x σ' hx e => ?_) (fun σ' e => ?_) (fun _ => rfl)) (fun fl σ' h => ?_)
  · subst e
    unfold newsTo at hx
    rw [List.getElem?_map] at hx
    obtain ⟨z, hz, rfl⟩ := Option.map_eq_some_iff.mp hx
    have hi5 : i < 5 := by have := (List.getElem?_eq_some_iff.mp hz).1; omega
    have hsl : (setsV lo n ((nmB base).take i)).length ≤ 32 := by
      rw [setsV_len, List.length_take, hl5]
      exact Nat.le_trans (Nat.pow_le_pow_right (by decide) (Nat.min_le_right _ 5)) (by decide)
    have hsnoc : (nmB base).take (i + 1) = (nmB base).take i ++ [z] := by rw [List.take_succ, hz]; rfl
    have hbd := (setsL_bd ((nmB base).take i)).2
    refine ⟨_, TG.cell rfl rfl, EX.of (ES.assign (v := .list (setsV lo n ((nmB base).take i) ++ (setsL ((nmB base).take i)).map fun s => .list (newsTo lo n (s ++ [z])))) (EV.new (EN.addL (EV.name (v := .list (setsV lo n ((nmB base).take i))) rfl rfl)
      (EV.new (EN.comp (xs := setsV lo n ((nmB base).take i)) (EI.list (.inl ⟨_, _, rfl⟩) (EV.name (v := .list (setsV lo n ((nmB base).take i))) rfl rfl)) (by unfold setsV; rw [List.length_map, List.length_map]) (small (by omega))
        (CompOk.to (fr := [("name", .strT z lo (some n))]) rfl rfl rfl (by decide) (.inl rfl) ⟨⟨_, rfl, rfl⟩, trivial⟩ (fun _ => rfl)) (fun H' L' s' k x y hx hy O => ?_))) (small (by rw [List.length_map, ← List.length_map (f := fun s => V.list (newsTo lo n s))]; show (setsV lo n ((nmB base).take i)).length + (setsV lo n ((nmB base).take i)).length ≤ _; omega)))) rfl ?_ rfl)⟩
    · unfold setsV at hx
      rw [List.getElem?_map] at hx hy
      obtain ⟨s1, hs1, rfl⟩ := Option.map_eq_some_iff.mp hx
      rw [hs1] at hy
      cases hy
      have hs1l : s1.length ≤ 5 := by
        have := hbd s1 (List.mem_of_getElem? hs1)
        rw [List.length_take] at this; omega
      exact ⟨_, TG.name rfl, rfl, rfl, trivial, EV.cast (EV.new (EN.addL (EV.name (v := .list (newsTo lo n s1)) rfl rfl) (EV.new (EN.list (EVs.cons (EV.free (v := .strT z lo (some n)) rfl rfl) EVs.nil rfl) (small (by simp)))) (small (by rw [newsTo_len]; simp; omega)))) (by show V.list _ = V.list (newsTo lo n (s1 ++ [z])); rw [newsTo_snoc])⟩
    · refine EX.nil (Turn.to rfl ⟨rfl, rfl, rfl, rfl, rfl, ?_, trivial⟩ ⟨rfl, rfl, .inl rfl, trivial⟩ rfl rfl)
      rw [hsnoc, setsV_snoc]; rfl
  · subst e
    exact EX.nil ⟨rfl, by rw [newsTo_len, List.take_length]; exact Sub.refl _⟩
  · obtain ⟨rfl, sb⟩ := h
    refine EX.sub sb ?_
    refine EX.of (ES.assignNew (xs := intsV [0]) (EN.list (EVs.cons EV.int EVs.nil rfl) (by decide)) rfl rfl fun lg => ?_)
    refine EX.of (ES.assignNew (xs := intsV [0]) (EN.list (EVs.cons EV.int EVs.nil rfl) (by decide)) rfl rfl fun wi => ?_)
    refine EX.of (ES.assignNew (xs := intsV [0, 0, 0, 0, 0, 0]) (EN.mulL (n := 6) (EV.new (EN.list (EVs.cons EV.int EVs.nil rfl) (by decide))) EV.int (by decide) (by decide)) rfl rfl fun mo => ?_)
    refine EX.of (ES.assignNew (xs := intsV [0, 0, 0, 0, 0, 0]) (EN.mulL (n := 6) (EV.new (EN.list (EVs.cons EV.int EVs.nil rfl) (by decide))) EV.int (by decide) (by decide)) rfl rfl fun fe => ?_)
    refine ES.then (fun fl σ' => ∃ st, fl = .next ∧ st.M.length = 6 ∧ st.F.length = 6 ∧ st = out ∧ Sub (sgR ls base ab ap lo n L lg wi mo fe st) σ')
      (ES.for (xs := upTo 1 31) (EI.range (a := 1) (b := 32) (EV.callT (EV.glob g_range rfl) (EVs.cons EV.int (EVs.cons EV.int EVs.nil rfl) rfl) o_range2 rfl rfl) (by decide) (by decide) (by decide) (by decide))
        (fun i σ' => ∃ st : RSt, σ' = (sgR ls base ab ap lo n L lg wi mo fe st) ∧ st.L.length = i + 1 ∧ st.W.length = i + 1 ∧ st.M.length = 6 ∧ st.F.length = 6 ∧ rRun ab ap (31 - i) (i + 1) st = some out) ⟨⟨[0], [0], [0, 0, 0, 0, 0, 0], [0, 0, 0, 0, 0, 0]⟩, rfl, rfl, rfl, rfl, rfl, hrun⟩ (fun i x σ' hx e => ?_) (fun σ' e => ?_) (fun _ => rfl)) (fun fl σ' h => ?_)
    · obtain ⟨st, rfl, lL, lW, lM, lF, hr⟩ := e
      obtain ⟨hi, rfl⟩ := upTo_get hx
      have hi31 : i < 31 := hi
      have e31 : 31 - i = (31 - (i + 1)) + 1 := by omega
      rw [e31] at hr
      obtain ⟨st', hstep, hr'⟩ := rRun_succ hr
      obtain ⟨k, abk, apk, a1, a2, b1, b2, m, g, hk, h1, h2, h3, h4, h5', h6, h7, h8, est⟩ := rStep_some hstep
      have e0 : (1 : Int) + (i : Int) = ((i + 1 : Nat) : Int) := by omega
      rw [e0]
      obtain ⟨f, ef⟩ : ∃ f, f = i + 1 := ⟨_, rfl⟩
      rw [← ef] at hk h3 h4 h5' h6 est lL lW ⊢
      have hf1 : 1 ≤ f := by omega
      have hf31 : f ≤ 31 := by omega
      obtain ⟨js, ejs⟩ : ∃ js, js = (bitsOf f).map (· + base) := ⟨_, rfl⟩
      have hj10 : ∀ j ∈ js, j ≤ 10 := fun j hj => by
        rw [ejs] at hj
        obtain ⟨b, hb', rfl⟩ := List.mem_map.mp hj
        have := bits_lt hb'
        show b + base ≤ 10
        omega
      have hjl : js.length = (bitsOf f).length := by rw [ejs, List.length_map]
      have hj5 : js.length ≤ 5 := by rw [hjl]; exact bits_len f
      have hjh : js.head? = some (k + base) := by rw [ejs, List.head?_map, hk]; rfl
      have hjne : js ≠ [] := fun q => by rw [q] at hjh; cases hjh
      have hk5 : k < 5 := bits_lt (List.mem_of_head? hk)
      have hjs : js.map nmS = (bitsOf f).map fun k => nmS (k + base) := by rw [ejs, List.map_map]; rfl
      obtain ⟨l2, h2', hw0, hl2, hdis⟩ := words_head hn1 hjh hj10
      obtain ⟨r3a, r3b, r3c⟩ := rGet_some h3
      obtain ⟨r4a, r4b, r4c⟩ := rGet_some h4
      obtain ⟨r5a, r5b, r5c⟩ := rGet_some h5'
      obtain ⟨r6a, r6b, r6c⟩ := rGet_some h6
      obtain ⟨r7a, r7b, r7c⟩ := rGet_some h7
      obtain ⟨r8a, r8b, r8c⟩ := rGet_some h8
      have hsetsel := setsV_get (lo := lo) (n := n) hb hf31
      have hpr : prRun 32 0 (((f : Nat) : Int) * 2 ^ ((base : Nat) : Int).toNat) [] = some js := by rw [Int.toNat_natCast, prun hb hf1 hf31, ejs]
      refine ⟨_, TG.name rfl, EX.of (ES.assign (v := .list (wordsV n js)) (EV.smeth (EV.callK (EV.glob g_pretty rfl) kf95 (EVs.cons (EV.callK (EV.glob g_lshift rfl) kf116 (EVs.cons (EV.name (v := .int f) rfl rfl) (EVs.cons (EV.name (v := .int base) rfl rfl) EVs.nil rfl) rfl) (fn_lshift (d := d + 6) (by omega) (by omega) (by omega)) rfl rfl) EVs.nil rfl) (fn_pretty (d := d + 6) hpr hj10 (by omega) (join_ok hj10 hj5)) rfl rfl) (prOut_txt hj10) EV.str (fun A E s t Q => GM.split) (o_words hj10 hj5 hjne) rfl rfl) rfl ?_ rfl)⟩
      refine EX.of (ES.ife (EB.or2 (EB.cmp (EV.name (v := .list (intsV ab)) rfl rfl) (EV.new (EN.list EVs.nil (by decide))) (o_eqNil hab) rfl) (fun _ => EB.cmp (EV.name (v := .list (wordsV n js)) rfl rfl) (EV.item (fun _ _ => ⟨_, rfl⟩) (EV.name (v := .list (setsV lo n (nmB base))) rfl rfl) (EV.name (v := .int f) rfl rfl) (by omega) (by omega) hsetsel) (o_neSame (ts := js.map nmS) (words_txt hj10) (by rw [hjs]; unfold newsTo; exact areTxt.ofMap (fun x => .strT x lo (some n)) (fun _ => rfl) _) (List.all_eq_true.mpr fun x hx => by obtain ⟨j, hj, rfl⟩ := List.mem_map.mp hx; exact nmS_ok (hj10 j hj))) rfl)) (fun h => by simp at h) (fun _ => EX.done ?_))
      refine EX.of (ES.assign (v := .int k) (EV.callK (EV.glob g_indexOf rfl) kf144 (EVs.cons (EV.name (v := .list (newsTo lo n (nmB base))) rfl rfl) (EVs.cons (EV.item (fun _ _ => ⟨_, rfl⟩) (EV.name (v := .list (wordsV n js)) rfl rfl) (EV.int (i := 0)) (by omega) (by omega) hw0) EVs.nil rfl) rfl) (fn_indexOf (d := d + 6) (nmB_get hb hk5) (fun i hik q => ?_) (by omega) hl2 ?_) rfl rfl) rfl ?_ rfl)
      · rw [nmB_get hb (by omega)] at q
        have := nmS_inj (by omega) (by omega) (Option.some.inj q)
        omega
      · rcases hdis with q | q
        · exact .inl ⟨n, rfl, q⟩
        · exact .inr ⟨318, q, by omega⟩
      refine EX.of (ES.assign (v := .int (Builtin.bitXor f (1 * 2 ^ k))) (EV.callK (EV.glob g_xor rfl) kf137 (EVs.cons (EV.name (v := .int f) rfl rfl) (EVs.cons (EV.callK (EV.glob g_lshift rfl) kf116 (EVs.cons EV.int (EVs.cons (EV.name (v := .int k) rfl rfl) EVs.nil rfl) rfl) (fn_lshift (d := d + 6) (by omega) (by omega) (by decide)) rfl rfl) EVs.nil rfl) rfl) (fn_xor (d := d + 6)) rfl rfl) rfl ?_ rfl)
      obtain ⟨R, eR⟩ : ∃ R, Builtin.bitXor f (1 * 2 ^ k) = R := ⟨_, rfl⟩
      rw [eR] at r3a r3b r3c r4a r4b r4c r5a r5b r5c r6a r6b r6c ⊢
      refine EX.of (ES.append (i := 3) (v := .int (max a1 (1 + a2))) rfl (by decide) rfl rfl (small (by rw [intsV_len]; omega)) (EV.callB (EV.glob g_max rfl) (EVs.cons (EV.seenI 3 "longest" rfl rfl (EV.item (fun _ _ => ⟨_, rfl⟩) (EV.name (v := .list (intsV st.L)) rfl rfl) (EV.name (v := .int R) rfl rfl) (by omega) (by omega) r3c)) (EVs.cons (EV.bin EV.int (EV.seenI 3 "longest" rfl rfl (EV.item (fun _ _ => ⟨_, rfl⟩) (EV.name (v := .list (intsV st.L)) rfl rfl) (EV.callK (EV.glob g_and rfl) kf109 (EVs.cons (EV.name (v := .int R) rfl rfl) (EVs.cons (EV.item (fun _ _ => ⟨_, rfl⟩) (EV.name (v := .list (intsV ab)) rfl rfl) (EV.name (v := .int k) rfl rfl) (by omega) (by omega) (intsV_get h1)) EVs.nil rfl) rfl) (fn_and (d := d + 6)) rfl rfl) (by omega) (by omega) r4c)) o_add) EVs.nil rfl) rfl) o_max2 rfl rfl) rfl rfl rfl rfl rfl ?_)
      refine EX.of (ES.append (i := 2) (v := .int (max b1 (1 + b2))) rfl (by decide) rfl rfl (small (by rw [intsV_len]; omega)) (EV.callB (EV.glob g_max rfl) (EVs.cons (EV.seenI 2 "widest" rfl rfl (EV.item (fun _ _ => ⟨_, rfl⟩) (EV.name (v := .list (intsV st.W)) rfl rfl) (EV.name (v := .int R) rfl rfl) (by omega) (by omega) r5c)) (EVs.cons (EV.bin EV.int (EV.seenI 2 "widest" rfl rfl (EV.item (fun _ _ => ⟨_, rfl⟩) (EV.name (v := .list (intsV st.W)) rfl rfl) (EV.callK (EV.glob g_and rfl) kf109 (EVs.cons (EV.name (v := .int R) rfl rfl) (EVs.cons (EV.item (fun _ _ => ⟨_, rfl⟩) (EV.name (v := .list (intsV ap)) rfl rfl) (EV.name (v := .int k) rfl rfl) (by omega) (by omega) (intsV_get h2)) EVs.nil rfl) rfl) (fn_and (d := d + 6)) rfl rfl) (by omega) (by omega) r6c)) o_add) EVs.nil rfl) rfl) o_max2 rfl rfl) rfl rfl rfl rfl rfl ?_)
      obtain ⟨va, eva⟩ : ∃ va, max a1 (1 + a2) = va := ⟨_, rfl⟩
      obtain ⟨vb, evb⟩ : ∃ vb, max b1 (1 + b2) = vb := ⟨_, rfl⟩
      rw [eva] at r7a r7b r7c est ⊢
      rw [evb] at r8a r8b r8c est ⊢
      have gL : (intsV st.L ++ [.int va])[((f : Nat) : Int).toNat]? = some (.int va) := by
        rw [Int.toNat_natCast, List.getElem?_append_right (by rw [intsV_len]; omega), intsV_len, lL, Nat.sub_self]; rfl
      have gW : (intsV st.W ++ [.int vb])[((f : Nat) : Int).toNat]? = some (.int vb) := by
        rw [Int.toNat_natCast, List.getElem?_append_right (by rw [intsV_len]; omega), intsV_len, lW, Nat.sub_self]; rfl
      have wl : (wordsV n js).length = (bitsOf f).length := by rw [words_len, hjl]
      have hwl : (wordsV n js).length < 1000000 := by rw [words_len]; omega
      refine EX.of (ES.setItem (i := 1) (k := va) (v := .int (max m (wordsV n js).length)) rfl (by decide) rfl rfl (EV.callB (EV.glob g_max rfl) (EVs.cons (EV.seenI 1 "most" rfl rfl (EV.item (fun _ _ => ⟨_, rfl⟩) (EV.name (v := .list (intsV st.M)) rfl rfl) (EV.seenI 2 "longest" rfl rfl (EV.item (fun _ _ => ⟨_, rfl⟩) (EV.name (v := .list (intsV st.L ++ [.int va])) rfl rfl) (EV.name (v := .int f) rfl rfl) (by omega) (by omega) gL)) (by omega) (by omega) r7c)) (EVs.cons (EV.callB (EV.glob g_len rfl) (EVs.cons (EV.name (v := .list (wordsV n js)) rfl rfl) EVs.nil rfl) (o_len hwl) rfl rfl) EVs.nil rfl) rfl) o_max2 rfl rfl)
        (EV.seenI 3 "longest" rfl rfl (EV.item (fun _ _ => ⟨_, rfl⟩) (EV.name (v := .list (intsV st.L ++ [.int va])) rfl rfl) (EV.name (v := .int f) rfl rfl) (by omega) (by omega) gL)) (by omega) (by rw [intsV_len]; omega) (by omega) rfl ?_)
      refine EX.of (ES.setItem (i := 0) (k := vb) (v := .int (max g (wordsV n js).length)) rfl (by decide) rfl rfl (EV.callB (EV.glob g_max rfl) (EVs.cons (EV.seenI 0 "free" rfl rfl (EV.item (fun _ _ => ⟨_, rfl⟩) (EV.name (v := .list (intsV st.F)) rfl rfl) (EV.seenI 1 "widest" rfl rfl (EV.item (fun _ _ => ⟨_, rfl⟩) (EV.name (v := .list (intsV st.W ++ [.int vb])) rfl rfl) (EV.name (v := .int f) rfl rfl) (by omega) (by omega) gW)) (by omega) (by omega) r8c)) (EVs.cons (EV.callB (EV.glob g_len rfl) (EVs.cons (EV.name (v := .list (wordsV n js)) rfl rfl) EVs.nil rfl) (o_len hwl) rfl rfl) EVs.nil rfl) rfl) o_max2 rfl rfl)
        (EV.seenI 2 "widest" rfl rfl (EV.item (fun _ _ => ⟨_, rfl⟩) (EV.name (v := .list (intsV st.W ++ [.int vb])) rfl rfl) (EV.name (v := .int f) rfl rfl) (by omega) (by omega) gW)) (by omega) (by rw [intsV_len]; omega) (by omega) rfl ?_)
      refine EX.nil (Turn.to (σ₁ := sgR ls base ab ap lo n L lg wi mo fe st') ⟨st', rfl, ?_, ?_, ?_, ?_, ?_⟩ ⟨rfl, rfl, rfl, rfl, rfl, rfl, rfl, rfl, rfl, rfl, trivial⟩ ⟨rfl, rfl, .inr rfl, trivial⟩ ?_ rfl)
      · rw [est]; show (st.L ++ [va]).length = _; rw [List.length_append, lL, ef]; rfl
      · rw [est]; show (st.W ++ [vb]).length = _; rw [List.length_append, lW, ef]; rfl
      · rw [est]; show (st.M.set _ _).length = _; rw [List.length_set, lM]
      · rw [est]; show (st.F.set _ _).length = _; rw [List.length_set, lF]
      · rw [ef]; exact hr'
      · rw [est]
        show [(fe, intsV (st.F.set _ _)), (mo, intsV (st.M.set _ _)), (wi, intsV (st.W ++ [vb])), (lg, intsV (st.L ++ [va]))] = [(fe, (intsV st.F).set _ _), (mo, (intsV st.M).set _ _), (wi, intsV st.W ++ [.int vb]), (lg, intsV st.L ++ [.int va])]
        rw [wl]
        unfold intsV
        rw [List.map_set, List.map_set, List.map_append, List.map_append]; rfl
    · obtain ⟨st, rfl, lL, lW, lM, lF, hr⟩ := e
      rw [upTo_len] at hr
      have : st = out := Option.some.inj hr
      exact EX.nil ⟨st, rfl, lM, lF, this, Sub.refl _⟩
    · obtain ⟨st, rfl, lM, lF, rfl, sb⟩ := h
      refine EX.sub sb ?_
      refine EX.freeze 0 "free" rfl rfl (EX.freeze 0 "most" rfl rfl ?_)
      refine EX.ret (EV.new (EN.comp (xs := [.list (intsV st.M), .list (intsV st.F)]) (ys := [.list (intsV (diffs st.M)), .list (intsV (diffs st.F))]) (EI.list (.inl ⟨_, _, rfl⟩) (EV.new (EN.list (EVs.cons (EV.name (v := .list (intsV st.M)) rfl rfl) (EVs.cons (EV.name (v := .list (intsV st.F)) rfl rfl) EVs.nil rfl) rfl) (small (by simp))))) rfl (small (by simp)) (CompOk.to (cl := []) (fr := []) rfl rfl rfl (by decide) (.inr ⟨rfl, rfl⟩) trivial (fun _ => rfl)) (fun H' L' s' i x y hx hy O => ?_))) (.inl rfl)
      have key : ∃ row : List Int, row.length = 6 ∧ x = .list (intsV row) ∧ y = .list (intsV (diffs row)) := by
        rcases i with _ | _ | i
        · cases hx; cases hy; exact ⟨_, lM, rfl, rfl⟩
        · cases hx; cases hy; exact ⟨_, lF, rfl, rfl⟩
        · cases hx
      obtain ⟨row, hrow, rfl, rfl⟩ := key
      refine ⟨_, TG.cell rfl rfl, rfl, rfl, ⟨rfl, rfl, .inl rfl, trivial⟩, EV.new (EN.comp (xs := upTo 1 5) (ys := intsV (diffs row)) (EI.range (a := 1) (b := 6) (EV.callT (EV.glob g_range rfl) (EVs.cons EV.int (EVs.cons EV.int EVs.nil rfl) rfl) o_range2 rfl rfl) (by decide) (by decide) (by decide) (by decide)) (by unfold diffs; rw [intsV_len]; simp [upTo_len]) (small (by simp [upTo_len]))
        (CompOk.to (fr := [("row", .list (intsV row))]) rfl rfl rfl (by decide) (.inl rfl) ⟨⟨_, rfl, rfl⟩, trivial⟩ (fun _ => rfl)) (fun H'' L'' s'' k x y hx hy O => ?_))⟩
      obtain ⟨hk, rfl⟩ := upTo_get hx
      have hk5 : k < 5 := hk
      have ey : y = .int (maxL (row.take (k + 2)) - maxL (row.take (k + 1))) := by
        unfold intsV diffs at hy
        rw [List.getElem?_map, List.getElem?_map, List.getElem?_range hk5] at hy
        cases hy; rfl
      subst ey
      have hsl : (intsV row).length ≤ sizeLine := small (by rw [intsV_len]; omega)
      refine ⟨_, TG.name rfl, rfl, rfl, trivial, EV.bin (EV.callB (EV.glob g_max rfl) (EVs.cons (v := .list (intsV (row.take (k + 2)))) (EV.cast (EV.new (EN.slice (lo := none) (hi := some ((1 + (k : Int)) + 1)) (stp := none) (EV.free (v := .list (intsV row)) rfl rfl) trivial (EV.bin (EV.name (v := .int (1 + (k : Int))) rfl rfl) EV.int o_add) trivial (by decide) hsl (fun _ _ => ⟨_, rfl⟩))) ?_) EVs.nil rfl) (o_max (take_ne (by omega) (by omega))) rfl rfl)
        (EV.callB (EV.glob g_max rfl) (EVs.cons (v := .list (intsV (row.take (k + 1)))) (EV.cast (EV.new (EN.slice (lo := none) (hi := some (1 + (k : Int))) (stp := none) (EV.free (v := .list (intsV row)) rfl rfl) trivial (EV.name (v := .int (1 + (k : Int))) rfl rfl) trivial (by decide) hsl (fun _ _ => ⟨_, rfl⟩))) ?_) EVs.nil rfl) (o_max (take_ne (by omega) (by omega))) rfl rfl) o_sub⟩
      · rw [pick_ints row (b := k + 2) (by omega) (by omega)]
      · rw [pick_ints row (b := k + 1) (by omega) (by omega)]
end Mine

namespace Mine
open PySem PySem.Spec PySem.Calls PyProof.Rows PySem.W

/-- edges `(i, j)`: the key of i is at most that of j -/
noncomputable def reach (fs : List (Nat × Nat)) : Nat → Nat → Nat → Bool
  | 0, a, b => a == b
  | f + 1, a, b => a == b || fs.any fun e => e.1 == a && reach fs f e.2 b
noncomputable def okLeaf (fs : List (Nat × Nat)) : List Nat → Bool
  | a :: b :: r => reach fs 5 a b && okLeaf fs (b :: r)
  | _ => true
noncomputable def okTree : KasT (Array Nat) → List (Nat × Nat) → Bool
  | .ret p, fs => okLeaf fs p.toList && p.toList.isPerm (List.range 5)
  | .ask i j k, fs => decide (i < 5) && (decide (j < 5) && (okTree (k true) ((i, j) :: fs) && okTree (k false) ((j, i) :: fs)))
theorem tree_ok : okTree (kas_sort 5) [] = true := by decide +kernel
noncomputable def runTree (lt : Nat → Nat → Bool) : KasT (Array Nat) → List Nat
  | .ret p => p.toList
  | .ask i j k => runTree lt (k (lt i j))
noncomputable def Told (key : Nat → Nat) (fs : List (Nat × Nat)) : Prop := ∀ f ∈ fs, key f.1 ≤ key f.2
noncomputable def chain (key : Nat → Nat) : List Nat → Prop
  | a :: b :: r => key a ≤ key b ∧ chain key (b :: r)
  | _ => True
theorem reach_le {key : Nat → Nat} {fs : List (Nat × Nat)} (ht : Told key fs) : ∀ {f a b : Nat}, reach fs f a b = true → key a ≤ key b
  | 0, a, b, h => by
    unfold reach at h
    rw [eq_of_beq h]; exact Nat.le_refl _
  | f + 1, a, b, h => by
    unfold reach at h
    rw [Bool.or_eq_true, List.any_eq_true] at h
    rcases h with q | ⟨e, he, q⟩
    · rw [eq_of_beq q]; exact Nat.le_refl _
    · rw [Bool.and_eq_true] at q
      have h1 := ht e he
      have h2 := reach_le ht q.2
      rw [eq_of_beq q.1] at h1
      exact Nat.le_trans h1 h2
theorem okLeaf_chain {key : Nat → Nat} {fs : List (Nat × Nat)} (ht : Told key fs) : ∀ {p : List Nat}, okLeaf fs p = true → chain key p
  | [], _ => trivial
  | [_], _ => trivial
  | a :: b :: r, h => by
    unfold okLeaf at h
    rw [Bool.and_eq_true] at h
    exact ⟨reach_le ht h.1, okLeaf_chain ht h.2⟩
theorem told_cons {key : Nat → Nat} {fs : List (Nat × Nat)} {i j : Nat} (h : key i ≤ key j) (ht : Told key fs) : Told key ((i, j) :: fs) := fun f hf => by
  rcases List.mem_cons.mp hf with rfl | hf
  · exact h
  · exact ht f hf
theorem runTree_ok {lt : Nat → Nat → Bool} {key : Nat → Nat} (h1 : ∀ i j, lt i j = true → key i ≤ key j) (h2 : ∀ i j, lt i j = false → key j ≤ key i) : ∀ (t : KasT (Array Nat)) (fs : List (Nat × Nat)), okTree t fs = true → Told key fs → chain key (runTree lt t) ∧ (runTree lt t).Perm (List.range 5) := by
  intro t
  induction t with
  | ret p =>
    intro fs h ht
    unfold okTree at h
    rw [Bool.and_eq_true] at h
    exact ⟨okLeaf_chain ht h.1, List.isPerm_iff.mp h.2⟩
  | ask i j k ih =>
    intro fs h ht
    unfold okTree at h
    rw [Bool.and_eq_true, Bool.and_eq_true, Bool.and_eq_true] at h
    show chain key (runTree lt (k (lt i j))) ∧ (runTree lt (k (lt i j))).Perm _
    cases q : lt i j with
    | true => exact ih true _ h.2.2.1 (told_cons (h1 i j q) ht)
    | false => exact ih false _ h.2.2.2 (told_cons (h2 i j q) ht)
theorem kasWp_run {lt : Nat → Nat → Bool} {cmp : Nat → Nat → (Bool → Shared → Prop) → Shared → Prop} {G : Array Nat → Shared → Prop} {s : Shared} (hc : ∀ i j (C : Bool → Shared → Prop), i < 5 → j < 5 → C (lt i j) s → cmp i j C s) (hG : ∀ p, p.toList = runTree lt (kas_sort 5) → G p s) : (kas_sort 5).kasWp cmp G s := by
  have go : ∀ (t : KasT (Array Nat)) (fs : List (Nat × Nat)), okTree t fs = true → (∀ p : Array Nat, p.toList = runTree lt t → G p s) → t.kasWp cmp G s := by
    intro t
    induction t with
    | ret p => intro fs _ h; exact h p rfl
    | ask i j k ih =>
      intro fs h hG
      unfold okTree at h
      rw [Bool.and_eq_true, Bool.and_eq_true, Bool.and_eq_true] at h
      refine hc i j _ (of_decide_eq_true h.1) (of_decide_eq_true h.2.1) ?_
      have hG' : ∀ p : Array Nat, p.toList = runTree lt (k (lt i j)) → G p s := hG
      cases q : lt i j with
      | true => rw [q] at hG'; exact ih true _ h.2.2.1 hG'
      | false => rw [q] at hG'; exact ih false _ h.2.2.2 hG'
  exact go _ [] tree_ok hG

noncomputable def pairLt (x y : Str) : Bool := if (x.length : Int) == (y.length : Int) then (if x = y then false else decide (x.cps.toList < y.cps.toList)) else decide ((x.length : Int) < (y.length : Int))
noncomputable def ltOf (ls : List Str) (i j : Nat) : Bool := pairLt (ls.getD i Str.empty) (ls.getD j Str.empty)
noncomputable def sort5 (ls : List Str) : List Str := (runTree (ltOf ls) (kas_sort 5)).map fun i => ls.getD i Str.empty
theorem sort5_ok (ls : List Str) : chain (fun i => (ls.getD i Str.empty).length) (runTree (ltOf ls) (kas_sort 5)) ∧ (runTree (ltOf ls) (kas_sort 5)).Perm (List.range 5) := by
  refine runTree_ok (fun i j h => ?_) (fun i j h => ?_) _ [] tree_ok (fun _ h => nomatch h)
  · unfold ltOf pairLt at h
    split at h
    · rename_i q
      have := eq_of_beq q
      omega
    · have := of_decide_eq_true h
      omega
  · unfold ltOf pairLt at h
    split at h
    · rename_i q
      have := eq_of_beq q
      omega
    · have := of_decide_eq_false h
      omega
theorem sort5_perm {ls : List Str} (h5 : ls.length = 5) : (sort5 ls).Perm ls := by
  have h := (sort5_ok ls).2.map fun i => ls.getD i Str.empty
  have e : (List.range 5).map (fun i => ls.getD i Str.empty) = ls := by
    match ls, h5 with
    | [a, b, c, d, e], _ => rfl
  rw [e] at h
  exact h
noncomputable def mono : List Str → Prop
  | a :: b :: r => a.length ≤ b.length ∧ mono (b :: r)
  | _ => True
theorem chain_mono (ls : List Str) : ∀ {p : List Nat}, chain (fun i => (ls.getD i Str.empty).length) p → mono (p.map fun i => ls.getD i Str.empty)
  | [], _ => trivial
  | [_], _ => trivial
  | _ :: _ :: _, h => ⟨h.1, chain_mono ls h.2⟩
theorem sort5_mono (ls : List Str) : mono (sort5 ls) := chain_mono ls (sort5_ok ls).1

noncomputable def pairV (x : Str) : V := .tup [.int x.length, .str x]
noncomputable def PairAt (h : Heap) (v : Value) (x : Str) : Prop := ∃ a n t u, v = .ref a ∧ h.get? a = some (seqObj "tuple" #[.int x.length t, .str x u] n)
theorem PairAt.of {W : Addr → Obj → Prop} {h : Heap} (hW : ∀ a o, W a o → h.get? a = some o) {x : Str} {v : Value} (r : VR W (pairV x) v) : PairAt h v x := by
  unfold pairV at r
  cases r with
  | tup a b =>
    cases b with
    | cons b1 b =>
      cases b with
      | cons b2 b =>
        cases b; cases b1; cases b2
        exact ⟨_, _, _, _, rfl, hW _ _ a⟩
theorem PairAt.lt {w : World} {A : Around} {E : Value → Shared → Prop} {s : Shared} {x y : Str} {u v : Value} {Q : Bool → Shared → Prop} (hx : PairAt s.heap u x) (hy : PairAt s.heap v y) (h : Q (pairLt x y) s) : wpAny (model PR w) A (keyLt' (tuples' true) u v) Q E s := by
  obtain ⟨a, n, t, p, rfl, ha⟩ := hx
  obtain ⟨b, m, t', p', rfl, hb⟩ := hy
  refine kat_lt ha rfl hb rfl ?_
  show KatLex PR w A true false Q [(.int x.length t, .int y.length t'), (.str x p, .str y p')] 0 s
  refine kat_cons (wpAny_eqBool_int ?_)
  unfold pairLt at h
  split at h
  · rename_i q
    rw [q]
    refine kat_yes (kat_cons (wpAny_eqBool_str ?_))
    split at h
    · rename_i q2
      rw [decide_eq_true q2]
      exact kat_yes (kat_nil h)
    · rename_i q2
      rw [decide_eq_false q2]
      refine kat_no ?_
      show wpAny _ A (oneLt' false _ _) Q _ s
      exact kat_one _ _ (PyProof.Rows.lt_str h)
  · rename_i q
    have q' : ((x.length : Int) == (y.length : Int)) = false := by simpa using q
    rw [q']
    exact kat_no (oneLt_int h)
theorem PairAt.same {h h' : Heap} {a : Addr} {c : Array Value} {n : Nat} (ha : h.get? a = some (seqObj "list" c n)) (e : ∀ b o, b ≠ a → h.get? b = some o → h'.get? b = some o) {v : Value} {x : Str} (p : PairAt h v x) : PairAt h' v x := by
  obtain ⟨b, m, t, u, rfl, hb⟩ := p
  exact ⟨b, m, t, u, rfl, e _ _ (fun q => by
    rw [q, ha] at hb
    have e : some (Value.type "list") = some (Value.type "tuple") := congrArg (fun o => o.map Obj.cls) hb
    exact absurd e (by decide)) hb⟩
noncomputable def PairsAt (h : Heap) : List Value → List Str → Prop
  | [], [] => True
  | v :: vs, x :: xs => PairAt h v x ∧ PairsAt h vs xs
  | _, _ => False
theorem PairsAt.of {W : Addr → Obj → Prop} {h : Heap} (hW : ∀ a o, W a o → h.get? a = some o) : ∀ {ls : List Str} {vs : List Value}, VRs W (ls.map pairV) vs → PairsAt h vs ls
  | [], _, .nil => trivial
  | _ :: _, _, .cons a b => ⟨PairAt.of hW a, PairsAt.of hW b⟩
theorem PairsAt.same {h h' : Heap} {a : Addr} {c : Array Value} {n : Nat} (ha : h.get? a = some (seqObj "list" c n)) (e : ∀ b o, b ≠ a → h.get? b = some o → h'.get? b = some o) : ∀ {vs : List Value} {ls : List Str}, PairsAt h vs ls → PairsAt h' vs ls
  | [], [], _ => trivial
  | _ :: _, _ :: _, ⟨p, q⟩ => ⟨p.same ha e, PairsAt.same ha e q⟩
  | [], _ :: _, h => h.elim
  | _ :: _, [], h => h.elim
theorem PairsAt.get {h : Heap} : ∀ {vs : List Value} {ls : List Str}, PairsAt h vs ls → ∀ {i : Nat}, i < ls.length → PairAt h (vs.getD i Value.none) (ls.getD i Str.empty)
  | _ :: _, _ :: _, ⟨p, q⟩, 0, _ => p
  | _ :: _, _ :: _, ⟨p, q⟩, i + 1, hi => PairsAt.get q (i := i) (by simpa using hi)
  | [], [], _, _, hi => absurd hi (by simp)
  | [], _ :: _, h, _, _ => h.elim
  | _ :: _, [], h, _, _ => h.elim
theorem PairsAt.len {h : Heap} : ∀ {vs : List Value} {ls : List Str}, PairsAt h vs ls → vs.length = ls.length
  | [], [], _ => rfl
  | _ :: _, _ :: _, ⟨_, q⟩ => by simp [PairsAt.len q]
  | [], _ :: _, h => h.elim
  | _ :: _, [], h => h.elim
noncomputable def firstsOf : List Value → List Str → List Value → Heap → Prop
  | _, _, _, _ => True
theorem PairsAt.tups {h : Heap} : ∀ {vs : List Value} {ls : List Str}, PairsAt h vs ls → ∃ fs, KatTups h vs fs ∧ fs.length = ls.length ∧ ∀ f ∈ fs, ∃ i t, f = .int i t
  | [], [], _ => ⟨[], trivial, rfl, fun _ h => nomatch h⟩
  | _ :: _, _ :: _, ⟨⟨a, n, t, u, rfl, ha⟩, q⟩ => by
    obtain ⟨fs, h1, h2, h3⟩ := q.tups
    refine ⟨_ :: fs, KatTups.cons ha rfl rfl rfl h1, by simp [h2], fun f hf => ?_⟩
    rcases List.mem_cons.mp hf with rfl | hf
    · exact ⟨_, _, rfl⟩
    · exact h3 f hf
  | [], _ :: _, h => h.elim
  | _ :: _, [], h => h.elim

theorem list_sort5 {w : World} {A : Around} {E : Value → Shared → Prop} {s : Shared} {a : Addr} {n : Nat} {vs : List Value} {ls : List Str} {P : PySem.Fin → Shared → Prop} (ho : s.heap.get? a = some (seqObj "list" vs.toArray n)) (hp : PairsAt s.heap vs ls) (h5 : ls.length = 5)
    (h : ∀ h' c, (∀ b o, b ≠ a → s.heap.get? b = some o → h'.get? b = some o) → h'.get? a = some (seqObj "list" (List.toArray ((runTree (ltOf ls) (kas_sort 5)).map fun i => vs.getD i Value.none)) c) → P (.done (.ret .none)) { s with heap := h' }) :
    wpAny (model PR w) A (Builtin.«list.sort» ⟨[.ref a], []⟩) P E s := by
  have hv5 : vs.length = 5 := hp.len.trans h5
  have s1 := Heap.SameBut.update s.heap a (Obj.mapSeq fun _ => (#[] : Array Value))
  obtain ⟨e1, ho1⟩ : ∃ e1, (s.heap.update a (Obj.mapSeq fun _ => (#[] : Array Value))).get? a = some (seqObj "list" #[] e1) := ⟨_, get?_update_seq ho fun _ => #[]⟩
  obtain ⟨hm, ehm⟩ : ∃ hm, hm = (((s.heap.update a (Obj.mapSeq fun _ => (#[] : Array Value))).push (seqObj "tuple" vs.toArray 0)).push (seqObj "list" #[] 0)) := ⟨_, rfl⟩
  have keep : ∀ b o, b ≠ a → s.heap.get? b = some o → hm.get? b = some o := fun b o hb e => by
    rw [ehm]
    exact Heap.get?_push_of_some _ (Heap.get?_push_of_some _ ((s1.2 b hb).trans e))
  have hoa : hm.get? a = some (seqObj "list" #[] e1) := by
    rw [ehm]; exact Heap.get?_push_of_some _ (Heap.get?_push_of_some _ ho1)
  have hpm : PairsAt hm vs ls := hp.same ho keep
  obtain ⟨fs, t1, t2, t3⟩ := hpm.tups
  rw [list_sort_plain]
  refine wpAny_bind (listItems_at ho rfl ?_)
  refine wpAny_bind (listUpdate_at ho rfl ?_ (by rw [List.size_toArray, sizeLine_eq]; omega) (Nat.zero_le _))
  refine wpAny_bind (seqEpoch_at ho1 rfl ?_)
  refine wpAny_bind (wpAny_newTuple ?_ (by show vs.length ≤ _; rw [sizeLine_eq]; omega))
  refine wpAny_bind (wpAny_newList ?_ (Nat.zero_le _))
  refine wpAny_holding ?_
  show wpAny (model PR w) A _ P E { s with heap := (((s.heap.update a (Obj.mapSeq fun _ => (#[] : Array Value))).push (seqObj "tuple" vs.toArray 0)).push (seqObj "list" #[] 0)) }
  rw [← ehm]
  dsimp only
  have hn2 : ¬ vs.toArray.size < 2 := by rw [List.size_toArray]; omega
  rw [if_neg hn2, if_neg hn2]
  refine wpAny_bind (kat_kind (T := .type "int") t1 (by omega) (fun f hf => ?_) rfl ?_)
  · obtain ⟨i, t, rfl⟩ := t3 f hf
    exact Looks.now
  · refine wpAny_bind (wpAny_mono (kat_run (Q := fun st' s' => ∃ p : Array Nat, p.toList = runTree (ltOf ls) (kas_sort 5) ∧ arrOf st' = p.map (kas_item (vs.toArray.zip vs.toArray)) ∧ failedOf st' = none ∧ s' = { s with heap := hm }) (G := fun p s' => p.toList = runTree (ltOf ls) (kas_sort 5) ∧ s' = { s with heap := hm }) rfl (by omega) (by omega)
      (fun p st' s' b1 b2 b3 b4 => ⟨p, b4.1, b2, b3, b4.2⟩) ?_) ?_ fun _ _ e => e)
    · rw [hv5]
      refine kasWp_run (lt := ltOf ls) (fun i j C hi hj hC => ?_) (fun p hp' => ⟨hp', rfl⟩)
      exact PairAt.lt (hpm.get (by omega)) (hpm.get (by omega)) hC
    · rintro ⟨⟨⟩, st'⟩ s' ⟨p, b1, b2, b3, rfl⟩
      dsimp only
      have hout := kat_snds (vs := vs) (ks := vs) rfl b2
      rw [b1] at hout
      have hln : ((runTree (ltOf ls) (kas_sort 5)).map fun i => vs.getD i Value.none).length = 5 := by rw [List.length_map, (sort5_ok ls).2.length_eq]; rfl
      rw [hout]
      have s2 := Heap.SameBut.update hm a (Obj.mapSeq fun _ => List.toArray ((runTree (ltOf ls) (kas_sort 5)).map fun i => vs.getD i Value.none))
      obtain ⟨c2, hc2⟩ : ∃ c2, (hm.update a (Obj.mapSeq fun _ => List.toArray ((runTree (ltOf ls) (kas_sort 5)).map fun i => vs.getD i Value.none))).get? a = some (seqObj "list" (List.toArray ((runTree (ltOf ls) (kas_sort 5)).map fun i => vs.getD i Value.none)) c2) := ⟨_, get?_update_seq hoa fun _ => _⟩
      refine wpAny_bind (seqEpoch_at hoa rfl ?_)
      refine wpAny_bind (listUpdate_at hoa rfl ?_ (Nat.zero_le _) (by rw [List.size_toArray, hln, sizeLine_eq]; omega))
      rw [b3]
      simp only [bne_self_eq_false, Bool.false_eq_true, if_false]
      exact wpAny_pure (h _ c2 (fun b o hb e => (s2.2 b hb).trans (keep b o hb e)) hc2)

theorem VRs.take5 {W : Addr → Obj → Prop} {ls : List Str} {vs : List Value} (h : VRs W (ls.map pairV) vs) : ∀ p : List Nat, (∀ i ∈ p, i < ls.length) → VRs W ((p.map fun i => ls.getD i Str.empty).map pairV) (p.map fun i => vs.getD i Value.none)
  | [], _ => .nil
  | i :: p, hp => by
    have hi := hp i (.head _)
    obtain ⟨v, hv, r⟩ := VRs.get h (i := i) (x := pairV (ls.getD i Str.empty)) (by rw [List.getElem?_map, List.getElem?_eq_getElem hi, List.getD_eq_getElem?_getD, List.getElem?_eq_getElem hi]; rfl)
    have e : vs.getD i Value.none = v := by rw [List.getD_eq_getElem?_getD, hv]; rfl
    refine .cons ?_ (VRs.take5 h p fun j hj => hp j (.tail _ hj))
    show VR W (pairV (ls.getD i Str.empty)) (vs.getD i Value.none)
    rw [e]; exact r

theorem o_sorted {w : World} {lo d : Nat} {ls : List Str} (h5 : ls.length = 5) : OPQ w lo (fun vs => call (.builtin "sorted") vs) [.list (ls.map pairV)] (.list ((sort5 ls).map pairV)) d := fun A E s H vs ok T tk low hv Q hQ => by
  cases hv with
  | cons h1 h2 =>
    cases h2
    cases h1 with
    | list ha hb =>
      rename_i l n vs
      have hp : PairsAt s.heap vs ls := PairsAt.of (fun a o x => x.1) hb
      have hv5 : vs.length = 5 := hp.len.trans h5
      have hl : s.heap.IsList l vs.toArray := ⟨_, ha.1, rfl, n, rfl⟩
      refine Calls.call_function_entry kind_sorted plain_sorted entry_sorted (args_sorted1 _) ?_
      unfold Builtin.«sorted»
      refine wpAny_bind (m := checkCount "sorted" 1 1 _) (wpAny_pure ?_)
      refine wpAny_bind (collect_list hl ?_ (by rw [sizeLine_eq]; omega))
      refine wpAny_bind (wpAny_newList ?_ (by rw [sizeLine_eq]; omega))
      obtain ⟨hm, ehm⟩ : ∃ hm, hm = ((s.heap.push (seqObj "list" #[] 0)).update s.heap.objs.size (Obj.mapSeq (· ++ vs.toArray))).push (seqObj "list" vs.toArray 0) := ⟨_, rfl⟩
      have hsz : ((s.heap.push (seqObj "list" #[] 0)).update s.heap.objs.size (Obj.mapSeq (· ++ vs.toArray))).objs.size = s.heap.objs.size + 1 := by
        rw [Heap.size_update, size_push']
      have hoL : hm.get? (s.heap.objs.size + 1) = some (seqObj "list" vs.toArray 0) := by
        rw [ehm, ← hsz]; exact Heap.get?_push_size _ rfl
      have keep : ∀ b o, s.heap.get? b = some o → hm.get? b = some o := fun b o q => by
        have hlt : b < s.heap.objs.size := Heap.lt_size q
        rw [ehm, Heap.get?_push_ne _ _ _ (by rw [hsz]; exact Nat.ne_of_lt (Nat.lt_succ_of_lt hlt)), Heap.get?_update_ne _ _ _ _ (Nat.ne_of_lt hlt), Heap.get?_push_ne _ _ _ (Nat.ne_of_lt hlt)]
        exact q
      have hpm : PairsAt hm vs ls := PairsAt.of (fun a o x => keep a o x.1) hb
      show wpAny _ _ _ _ _ { s with heap := ((s.heap.push (seqObj "list" #[] 0)).update s.heap.objs.size (Obj.mapSeq (· ++ vs.toArray))).push (seqObj "list" vs.toArray 0) }
      rw [hsz, ← ehm]
      refine wpAny_bind (wpAny_holding (wpAny_call_entry slot_list_sort ⟨_, hoL, rfl⟩ entry_list_sort (list_sort5 (s := { s with heap := hm }) hoL hpm h5 fun h' c hk hc => ⟨_, rfl, wpAny_pure ⟨_, rfl, ?_⟩⟩) (args_list_sort _)))
      have hfin : ∀ b o, s.heap.get? b = some o → h'.get? b = some o := fun b o q => hk b o (fun e => by
        have h1 := Heap.lt_size q
        rw [e] at h1
        exact Nat.lt_irrefl _ (Nat.lt_of_succ_lt h1)) (keep b o q)
      have kp : Kp s { s with heap := h' } := ⟨⟨h', s.toks, rfl⟩, hfin, Nat.le_refl _⟩
      refine hQ _ _ kp (.list (n := c) ⟨hc, fun q => ?_⟩ ?_)
      · obtain ⟨o, e⟩ := low _ q
        exact Nat.lt_irrefl _ (Nat.lt_of_succ_lt (Heap.lt_size e))
      · exact (hb.take5 _ (fun i hi => by
          have := (sort5_ok ls).2.mem_iff.mp hi
          rw [List.mem_range] at this; omega)).mono (fun a o x => ⟨hfin a o x.1, x.2⟩)
end Mine

namespace Mine
open PySem PySem.W in
theorem fillF12 : (hd.heap_39 = hd.heap_39) ∧ (PySem.Challenge.rw_wj0033_01 = PySem.Challenge.rw_wj0033_01) := by k_fill; exact ⟨rfl, rfl⟩
open PySem PySem.Spec PySem.Calls PyProof.Rows PySem.W

section
variable {w : World}
theorem kf166 : keepIn (hd.heap_39 w.params) (.ref 166) = true := by k_is
end
noncomputable def starts : List Int := [1, 14, 9, 52, 53]
noncomputable def drawnI (ns : List Int) (k : Nat) (st : Int) : Int := (st + (pickV ns (some (k : Int)) none (some 5)).sum).fmod (10 ^ 6)
noncomputable def drawnL (ns : List Int) : List Int := [drawnI ns 0 1, drawnI ns 1 14, drawnI ns 2 9, drawnI ns 3 52, drawnI ns 4 53]
noncomputable def drawnN (ns : List Int) : List Nat := (drawnL ns).map Int.toNat
noncomputable def signB (b k : Nat) : Str := if b / 2 ^ k % 2 = 1 then "\t" else " "
noncomputable def leadB (m b : Nat) : Str := Txt.join Str.empty ((List.range m).map (signB b))
noncomputable def leadN (n : Nat) : Str := leadB (n % 6) (n / 6)
noncomputable def lawLeads (ns : List Int) : List Str := sort5 ((drawnN ns).map leadN)
noncomputable def lawBase (ns : List Int) : Nat := ((6 + ns.sum).fmod 7).toNat
theorem drawn_bd (ns : List Int) (k : Nat) (st : Int) : 0 ≤ drawnI ns k st ∧ drawnI ns k st < 1000000 := by
  unfold drawnI
  rw [Int.fmod_eq_emod_of_nonneg _ (by decide)]
  omega
theorem drawnL_bd (ns : List Int) : ∀ v ∈ drawnL ns, 0 ≤ v ∧ v < 1000000 := fun v hv => by
  unfold drawnL at hv
  simp only [List.mem_cons, List.not_mem_nil, or_false] at hv
  rcases hv with rfl | rfl | rfl | rfl | rfl <;> exact drawn_bd _ _ _
theorem drawn_get {ns : List Int} {i : Nat} {st : Int} (h : starts[i]? = some st) : (drawnL ns)[i]? = some (drawnI ns i st) := by
  rcases i with _ | _ | _ | _ | _ | i
  · cases h; rfl
  · cases h; rfl
  · cases h; rfl
  · cases h; rfl
  · cases h; rfl
  · cases h

noncomputable def rowText (row : List Int) : Str := Txt.join Str.empty (row.map fun s => Txt.mul " " s ++ "\t") ++ "x \t"
structure RowOk (row other : List Int) : Prop where
  len : row.length ≤ 10
  olen : other.length ≤ 10
  bd : ∀ s ∈ row, 0 ≤ s ∧ s ≤ 10
  txt : (rowText row).cps.toList.length ≤ 1000
  ind : ∀ k : Nat, k < 6 → (wsOf (rowText row).cps.toList).indent (1 + (k : Int)) = (1 + (k : Int)) * (5 + (pickV other (some (1 + (k : Int) - 1)) none (some (1 + (k : Int)))).sum)
structure LawOk (ls : List Str) : Prop where
  hlen : ∀ x ∈ ls, x.cps.toList.length ≤ 100
  hord : ∀ i j, i < 5 → j < 5 → relOf ls i j = true → i < j
  run : ∃ out, rRun (tiesOf (relOf ls) (colOfs ls)).1 (tiesOf (relOf ls) (colOfs ls)).2 31 1 ⟨[0], [0], [0, 0, 0, 0, 0, 0], [0, 0, 0, 0, 0, 0]⟩ = some out ∧ RowOk (diffs out.M) (diffs out.F) ∧ RowOk (diffs out.F) (diffs out.M)
theorem mul_len : ∀ s : Nat, s ≤ 10 → (Txt.mul " " (s : Int)).length ≤ 10 ∧ (Txt.mul " " (s : Int) ++ "\t").length ≤ 20 := by decide +kernel
theorem mul_lenI {s : Int} (h : 0 ≤ s ∧ s ≤ 10) : (Txt.mul " " s).length ≤ 10 ∧ (Txt.mul " " s ++ "\t").length ≤ 20 := by
  obtain ⟨n, rfl⟩ : ∃ n : Nat, s = (n : Int) := ⟨s.toNat, by omega⟩
  exact mul_len n (by omega)
theorem rowText_len (row : List Int) : (rowText row).cps.toList.length = (Txt.join Str.empty (row.map fun s => Txt.mul " " s ++ "\t")).length + 3 := by
  unfold rowText
  show (Array.append _ _).toList.length = _
  show (_ ++ _ : Array _).toList.length = _
  rw [Array.toList_append, List.length_append]; rfl
theorem joinE_ok {ts : List Str} (h : ∀ t ∈ ts, t.length ≤ 20) (hl : ts.length ≤ 10) : JoinOk Str.empty ts = true := by
  refine joinOk_of ?_
  have : ∀ (l : List Str), (∀ t ∈ l, t.length ≤ 20) → (l.map (·.length)).sum ≤ l.length * 20 := by
    intro l
    induction l with
    | nil => intro _; simp
    | cons j l ih =>
      intro h
      have a := h j (.head _)
      have b := ih fun i hi => h i (.tail _ hi)
      simp only [List.map_cons, List.sum_cons, List.length_cons]
      omega
  have h1 := this ts h
  have e : Str.empty.length = 0 := rfl
  rw [e]
  omega
theorem signB_len (b k : Nat) : (signB b k).length ≤ 20 := by unfold signB; split <;> decide
theorem fdiv_nat (n m : Nat) : ((n : Int)).fdiv (m : Int) = ((n / m : Nat) : Int) := by
  rw [Int.fdiv_eq_ediv_of_nonneg _ (by omega)]; rfl
theorem fmod_nat (n m : Nat) : ((n : Int)).fmod (m : Int) = ((n % m : Nat) : Int) := by
  rw [Int.fmod_eq_emod_of_nonneg _ (by omega)]; rfl

set_option maxHeartbeats 4000000 in
theorem fn_law {w : World} {lo d : Nat} {ns : List Int} (hlo : 430 ≤ lo) (hn : ns.length ≤ 1000) (hp : LawOk (lawLeads ns)) :
    OPQ w lo (fun vs => call (.ref 166) vs) [.list (intsV ns)] (.bool true) (d + 9) := by
  refine' OPQ.fnC (names := ["script"]) ?k1 ?k2 ?kb ?kl ?kn ?k3 ?k5 ?k6 ?k7 [] ?kr (fun L => [("script", L + 1, some (.list (intsV ns)))]) ?kc ?kd ?ke ?kx
  case k1 => k_is
  case k2 => k_is
  case kb => refine binds1 ?_; intros; rfl
  case kl => rfl
  case kn => decide
  case k3 => intro L; rfl
  case k5 => rfl
  case k6 => rfl
  case k7 => rfl
  case kr => intro x v e; cases e
  case kc => intro L; rfl
  case kd =>
    intro L x c v e
    obtain ⟨rfl, q⟩ := one_look e
    cases q
    exact ⟨rfl, rfl⟩
  case ke => intro L; simp
  intro H s₀ L
  have hsz : (intsV ns).length ≤ sizeLine := small (by rw [intsV_len]; omega)
  refine EX.of (ES.assignComp (xs := numbered (intsV starts)) (ys := intsV (drawnL ns)) (EI.enum (EV.glob g_enumerate rfl) (EV.new (EN.list (EVs.cons EV.int (EVs.cons EV.int (EVs.cons EV.int (EVs.cons EV.int (EVs.cons EV.int EVs.nil rfl) rfl) rfl) rfl) rfl) (by decide))) rfl) rfl (small (by decide)) (CompOk.to (fr := [("script", .list (intsV ns))]) rfl rfl rfl (by decide) (.inl rfl) ⟨⟨_, rfl, rfl⟩, trivial⟩ (fun _ => rfl)) (fun H' L' s' i x y hx hy O => ?_) rfl rfl ?_)
  · obtain ⟨z, hz, rfl⟩ := numbered_get hx
    unfold intsV at hz hy
    rw [List.getElem?_map] at hz hy
    obtain ⟨st, hst, rfl⟩ := Option.map_eq_some_iff.mp hz
    rw [drawn_get hst] at hy
    cases hy
    refine ⟨_, TG.tup ⟨_, TG.name rfl, _, TG.name rfl, rfl⟩ rfl, rfl, rfl, trivial, ?_⟩
    refine EV.bin (EV.bin (EV.name (v := .int st) rfl rfl) (EV.callB (EV.glob g_sum rfl) (EVs.cons (v := .list (intsV (pickV ns (some (i : Int)) none (some 5)))) (EV.cast (EV.new (EN.slice (lo := some (i : Int)) (hi := none) (stp := some 5) (EV.free (v := .list (intsV ns)) rfl rfl) (EV.name (v := .int i) rfl rfl) trivial EV.int (by decide) hsz (fun _ _ => ⟨_, rfl⟩))) (by rw [pickV_ints])) EVs.nil rfl) o_sum rfl rfl) o_add) (EV.bin EV.int EV.int (o_pow (by decide) (by decide) (by decide))) (o_mod (by decide))
  have hsz2 : (intsV (drawnL ns)).length ≤ sizeLine := small (by rw [intsV_len]; show 5 ≤ 1000000; decide)
  refine EX.of (ES.assignComp (xs := intsV (drawnL ns)) (ys := ((drawnN ns).map leadN).map .str) (EI.list (.inl ⟨_, _, rfl⟩) (EV.name (v := .list (intsV (drawnL ns))) rfl rfl)) (by unfold drawnN; rw [intsV_len, List.length_map, List.length_map, List.length_map]) hsz2 (CompOk.to (cl := []) (fr := []) rfl rfl rfl (by decide) (.inr ⟨rfl, rfl⟩) trivial (fun _ => rfl)) (fun H' L' s' i x y hx hy O => ?_) rfl rfl ?_)
  · unfold intsV at hx
    unfold drawnN at hy
    rw [List.getElem?_map] at hx
    rw [List.getElem?_map, List.getElem?_map, List.getElem?_map] at hy
    obtain ⟨z, hz, rfl⟩ := Option.map_eq_some_iff.mp hx
    rw [hz] at hy
    cases hy
    obtain ⟨z0, z1⟩ := drawnL_bd ns z (List.mem_of_getElem? hz)
    obtain ⟨n, en⟩ : ∃ n : Nat, z = (n : Int) := ⟨z.toNat, by omega⟩
    subst en
    rw [Int.toNat_natCast]
    refine ⟨_, TG.cell rfl rfl, rfl, rfl, ⟨rfl, rfl, .inl rfl, trivial⟩, ?_⟩
    refine EV.smeth EV.str rfl (EV.new (EN.comp (xs := upTo 0 (n % 6)) (ys := (List.range (n % 6)).map fun k => .str (signB (n / 6) k)) (EI.range (a := 0) (b := ((n % 6 : Nat) : Int)) (EV.callT (EV.glob g_range rfl) (EVs.cons (EV.cast (EV.bin (EV.cell (v := .int n) rfl rfl) EV.int (o_mod (by decide))) (by rw [← fmod_nat]; rfl)) EVs.nil rfl) o_range1 rfl rfl) (by decide) (by decide) (by omega) (by omega)) (by simp [upTo_len]) (small (by simp [upTo_len]; omega))
        (CompOk.to (fr := [("number", .int n)]) rfl rfl rfl (by decide) (.inl rfl) ⟨⟨_, rfl, rfl⟩, trivial⟩ (fun _ => rfl)) (fun H'' L'' s'' k x y hx hy O => ?_))) (fun A E s t Q => GM.join) ?_ rfl rfl
    · obtain ⟨hk, rfl⟩ := upTo_get hx
      rw [List.getElem?_map, List.getElem?_range hk] at hy
      cases hy
      have hk6 : k < 6 := by omega
      have e0 : (0 : Int) + (k : Int) = (k : Int) := Int.zero_add _
      rw [e0]
      have hp : ∀ j, j < 6 → 0 < 2 ^ j ∧ 2 ^ j < 1000000 := by decide
      obtain ⟨p1, p2⟩ := hp k hk6
      have e2 : (2 : Int) ^ ((k : Nat) : Int).toNat = ((2 ^ k : Nat) : Int) := by rw [Int.toNat_natCast]; simp
      have e3 : (((n : Int).fdiv 6).fdiv ((2 : Int) ^ ((k : Nat) : Int).toNat)).fmod 2 = ((n / 6 / 2 ^ k % 2 : Nat) : Int) := by
        rw [e2, ← fmod_nat, ← fdiv_nat, ← fdiv_nat]; rfl
      refine ⟨_, TG.name rfl, rfl, rfl, trivial, EV.ite (EB.cmp (EV.bin (EV.bin (EV.bin (EV.free (v := .int n) rfl rfl) EV.int (o_fdivS (by decide) (by decide))) (EV.bin EV.int (EV.name (v := .int k) rfl rfl) (o_pow (by omega) (by omega) (by decide))) (o_fdivS (by rw [e2]; omega) (by rw [e2]; omega))) EV.int (o_mod (by decide))) EV.int o_eq rfl) (fun h => ?_) (fun h => ?_)⟩
      · rw [e3] at h
        have q := eq_of_beq h
        exact EV.cast EV.str (congrArg V.str (show _ = signB (n / 6) k by unfold signB; rw [if_pos (by omega)]))
      · rw [e3] at h
        have q : ¬ n / 6 / 2 ^ k % 2 = 1 := fun q => by rw [q] at h; cases h
        exact EV.cast EV.str (congrArg V.str (show _ = signB (n / 6) k by unfold signB; rw [if_neg q]))
    · have := o_join (w := w) (lo := lo) (d := d + 8) (sep := Str.empty) (xs := (List.range (n % 6)).map fun k => .str (signB (n / 6) k)) (ts := (List.range (n % 6)).map (signB (n / 6))) (by
        generalize List.range (n % 6) = l
        induction l with
        | nil => trivial
        | cons a l ih => exact ⟨rfl, ih⟩) (joinE_ok (fun t ht => by obtain ⟨j, _, rfl⟩ := List.mem_map.mp ht; exact signB_len _ _) (by simp; omega))
      exact this
  obtain ⟨l0, el0⟩ : ∃ l0, l0 = (drawnN ns).map leadN := ⟨_, rfl⟩
  have h50 : l0.length = 5 := by rw [el0]; rfl
  rw [← el0]
  have hs0 : (l0.map V.str).length ≤ sizeLine := small (by rw [List.length_map]; omega)
  have hs5 : (sort5 l0).length = 5 := (sort5_perm h50).length_eq.trans h50
  have ell : lawLeads ns = sort5 l0 := by rw [el0]; rfl
  rw [ell] at hp
  have hlen6 : ∀ x ∈ l0, x.length ≤ 100 := fun x hx => by
    have := hp.hlen x ((sort5_perm h50).mem_iff.mpr hx)
    rw [Array.length_toList] at this
    exact this
  refine EX.of (ES.assignComp (xs := (sort5 l0).map pairV) (ys := (sort5 l0).map .str) (EI.list (.inr ⟨_, _, _, rfl⟩) (EV.callB (EV.glob g_sorted rfl) (EVs.cons (EV.new (EN.comp (xs := l0.map .str) (ys := l0.map pairV) (EI.list (.inl ⟨_, _, rfl⟩) (EV.name (v := .list (l0.map .str)) rfl rfl)) (by rw [List.length_map, List.length_map]) hs0 (CompOk.to (fr := []) rfl rfl rfl (by decide) (.inl rfl) trivial (fun _ => rfl)) (fun H' L' s' i x y hx hy O => ?_))) EVs.nil rfl) (o_sorted h50) rfl rfl)) (by rw [List.length_map, List.length_map]) (small (by rw [List.length_map]; omega)) (CompOk.to (fr := []) rfl rfl rfl (by decide) (.inl rfl) trivial (fun _ => rfl)) (fun H' L' s' i x y hx hy O => ?_) rfl rfl ?_)
  · rw [List.getElem?_map] at hx hy
    obtain ⟨z, hz, rfl⟩ := Option.map_eq_some_iff.mp hx
    rw [hz] at hy
    cases hy
    have := hlen6 z (List.mem_of_getElem? hz)
    exact ⟨_, TG.name rfl, rfl, rfl, trivial, EV.tuple (EVs.cons (EV.callB (EV.glob g_len rfl) (EVs.cons (EV.name (v := .str z) rfl rfl) EVs.nil rfl) (o_lenS (by omega)) rfl rfl) (EVs.cons (EV.name (v := .str z) rfl rfl) EVs.nil rfl) rfl) (small (by simp))⟩
  · rw [List.getElem?_map] at hx hy
    obtain ⟨z, hz, rfl⟩ := Option.map_eq_some_iff.mp hx
    rw [hz] at hy
    cases hy
    exact ⟨_, TG.tup ⟨_, TG.name rfl, _, TG.name rfl, rfl⟩ rfl, rfl, rfl, trivial, EV.name rfl rfl⟩
  obtain ⟨out, hrun, hr1, hr2⟩ := hp.run
  have hab : (tiesOf (relOf (sort5 l0)) (colOfs (sort5 l0))).1 ≠ [] := fun q => by
    have := (tRow_len (rel := relOf (sort5 l0)) (col := colOfs (sort5 l0)) (List.range 5) ([0, 0, 0, 0, 0], [31, 31, 31, 31, 31])).1
    unfold tiesOf at q
    rw [q] at this
    cases this
  have hb6 : lawBase ns ≤ 6 := by
    unfold lawBase
    rw [Int.fmod_eq_emod_of_nonneg _ (by decide)]; omega
  have hbase : (6 + ns.sum).fmod 7 = (lawBase ns : Int) := by
    unfold lawBase
    rw [Int.fmod_eq_emod_of_nonneg _ (by decide)]; omega
  refine EX.of (ES.assignT (EV.callK (EV.glob g_rows rfl) kf161 (EVs.cons (EV.name (v := .list ((sort5 l0).map .str)) rfl rfl) (EVs.cons (EV.cast (EV.bin (EV.bin EV.int (EV.callB (EV.glob g_sum rfl) (EVs.cons (EV.cell (v := .list (intsV ns)) rfl rfl) EVs.nil rfl) o_sum rfl rfl) o_add) EV.int (o_mod (by decide))) (congrArg V.int hbase)) EVs.nil rfl) rfl) (fn_rows (d := d) hlo hs5 hp.hlen hp.hord hb6 hrun hab) rfl rfl) (TG.tupL ⟨_, TG.name rfl, _, TG.name rfl, rfl⟩ rfl) rfl rfl ?_)
  obtain ⟨M, eM⟩ : ∃ M, diffs out.M = M := ⟨_, rfl⟩
  obtain ⟨G, eG⟩ : ∃ G, diffs out.F = G := ⟨_, rfl⟩
  rw [eM, eG] at hr1 hr2 ⊢
  refine EX.sub (σ₁ := ⟨[("crowds", .list (intsV M)), ("chains", .list (intsV G))], [("script", L + 1, some (.list (intsV ns)))], [], []⟩) (Sub.to ⟨rfl, rfl, trivial⟩ (ClSub.refl _) rfl rfl) ?_
  refine ES.then (fun fl σ' => fl = .next)
    (ES.for (xs := [.tup [.list (intsV M), .list (intsV G)], .tup [.list (intsV G), .list (intsV M)]]) (EI.list (.inr ⟨_, _, _, rfl⟩) (EV.new (EN.list (EVs.cons (EV.tuple (EVs.cons (EV.name rfl rfl) (EVs.cons (EV.name rfl rfl) EVs.nil rfl) rfl) (small (by simp))) (EVs.cons (EV.tuple (EVs.cons (EV.name rfl rfl) (EVs.cons (EV.name rfl rfl) EVs.nil rfl) rfl) (small (by simp))) EVs.nil rfl) rfl) (small (by simp)))))
      (fun i σ' => σ' = ⟨[("crowds", .list (intsV M)), ("chains", .list (intsV G))], [("script", L + 1, some (.list (intsV ns)))], [], []⟩) rfl (fun i x σ' hx e => ?_) (fun σ' e => ?_) (fun _ => rfl)) (fun fl σ' h => ?_)
  · subst e
    have key : ∃ row other, RowOk row other ∧ x = .tup [.list (intsV row), .list (intsV other)] := by
      rcases i with _ | _ | i
      · cases hx; exact ⟨_, _, hr1, rfl⟩
      · cases hx; exact ⟨_, _, hr2, rfl⟩
      · cases hx
    obtain ⟨row, other, hrow, rfl⟩ := key
    have hrl := hrow.len
    have hol := hrow.olen
    have htx := hrow.txt
    have hwb := wsOf_bd (rowText row).cps.toList
    refine ⟨_, TG.tup ⟨_, TG.name rfl, _, TG.name rfl, rfl⟩ rfl, EX.of (ES.assign (v := objV (rowText row) (wsOf (rowText row).cps.toList) (decide ((wsOf (rowText row).cps.toList).count.length ≤ 1))) (EV.cast (EV.callK (EV.glob g_Whitespace rfl) k_83 (EVs.cons (v := .str (rowText row)) (EV.bin (EV.smeth EV.str rfl (EV.new (EN.comp (xs := intsV row) (ys := (row.map fun s => Txt.mul " " s ++ "\t").map .str) (EI.list (.inl ⟨_, _, rfl⟩) (EV.name (v := .list (intsV row)) rfl rfl)) (by rw [intsV_len, List.length_map, List.length_map]) (small (by rw [intsV_len]; omega)) (CompOk.to (fr := []) rfl rfl rfl (by decide) (.inl rfl) trivial (fun _ => rfl)) (fun H' L' s' k x y hx hy O => ?_))) (fun A E s t Q => GM.join) (o_join (ts := row.map fun s => Txt.mul " " s ++ "\t") (areTxt.ofMap V.str (fun _ => rfl) _) (joinE_ok (fun t ht => ?_) (by rw [List.length_map]; omega))) rfl rfl) EV.str (o_addS (small ?_))) EVs.nil rfl) (fn_init (d := d + 6) htx) rfl rfl) (fields_objV _)) rfl ?_ rfl)⟩
    · unfold intsV at hx
      rw [List.getElem?_map] at hx
      rw [List.getElem?_map, List.getElem?_map] at hy
      obtain ⟨z, hz, rfl⟩ := Option.map_eq_some_iff.mp hx
      rw [hz] at hy
      cases hy
      have hzb := hrow.bd z (List.mem_of_getElem? hz)
      have hzl := (mul_lenI hzb).1
      exact ⟨_, TG.name rfl, rfl, rfl, trivial, EV.bin (EV.bin EV.str (EV.name (v := .int z) rfl rfl) (o_mulS hzb.1 (by omega) (by decide))) EV.str (o_addS (small (by show (Txt.mul " " z).length + 1 ≤ 1000000; omega)))⟩
    · obtain ⟨z, hz, rfl⟩ := List.mem_map.mp ht
      exact (mul_lenI (hrow.bd z hz)).2
    · have := rowText_len row
      show (Txt.join Str.empty _).length + 3 ≤ 1000000
      omega
    · refine EX.of (ES.for (xs := upTo 1 6) (EI.range (a := 1) (b := 7) (EV.callT (EV.glob g_range rfl) (EVs.cons EV.int (EVs.cons EV.int EVs.nil rfl) rfl) o_range2 rfl rfl) (by decide) (by decide) (by decide) (by decide))
        (fun k σ' => σ' = ⟨[("crowds", .list (intsV M)), ("chains", .list (intsV G)), ("row", .list (intsV row)), ("other", .list (intsV other)), ("white", objV (rowText row) (wsOf (rowText row).cps.toList) (decide ((wsOf (rowText row).cps.toList).count.length ≤ 1)))], [("script", L + 1, some (.list (intsV ns)))], [], []⟩) rfl (fun k x σ' hx e => ?_) (fun σ' e => ?_) (fun _ => rfl))
      · subst e
        obtain ⟨hk, rfl⟩ := upTo_get hx
        have hk6 : k < 6 := hk
        have hind := hrow.ind k hk6
        refine ⟨_, TG.name rfl, EX.of (ES.ife (EB.cmp (EV.meth1 (EV.name (v := objV (rowText row) (wsOf (rowText row).cps.toList) (decide ((wsOf (rowText row).cps.toList).count.length ≤ 1))) rfl rfl) (EV.name rfl rfl) c_indent c_f52 k_52 (by decide) (fn_indent (d := d + 7) (Nat.le_trans hwb.2.2 htx) (by omega) (by omega)) rfl rfl)
          (EV.callK (EV.glob g_mul rfl) kf123 (EVs.cons (EV.name rfl rfl) (EVs.cons (EV.callK (EV.glob g_add rfl) kf102 (EVs.cons EV.int (EVs.cons (EV.callB (EV.glob g_sum rfl) (EVs.cons (v := .list (intsV (pickV other (some (1 + (k : Int) - 1)) none (some (1 + (k : Int)))))) (EV.cast (EV.new (EN.slice (lo := some (1 + (k : Int) - 1)) (hi := none) (stp := some (1 + (k : Int))) (EV.name (v := .list (intsV other)) rfl rfl) (EV.bin (EV.name rfl rfl) EV.int o_sub) trivial (EV.name rfl rfl) (fun q => by have := Option.some.inj q; omega) (small (by rw [intsV_len]; omega)) (fun _ _ => ⟨_, rfl⟩))) (by rw [pickV_ints])) EVs.nil rfl) o_sum rfl rfl) EVs.nil rfl) rfl) (fn_add (d := d + 7)) rfl rfl) EVs.nil rfl) rfl) (fn_mul (d := d + 7) (mulOk (by omega))) rfl rfl) o_ne rfl) (fun h => ?_) (fun h => EX.done ?_))⟩
        · rw [hind] at h
          simp at h
        · exact EX.nil (Turn.to rfl ⟨rfl, rfl, rfl, rfl, rfl, trivial⟩ (ClSub.refl _) rfl rfl)
      · subst e
        exact EX.done (EX.nil (Turn.to rfl ⟨rfl, rfl, trivial⟩ (ClSub.refl _) rfl rfl))
  · subst e
    exact EX.nil rfl
  · subst h
    exact EX.ret EV.bool (.inl rfl)
end Mine

namespace Mine
open PySem PySem.Spec PySem.Calls PyProof.Rows PySem.W

noncomputable def leadC (m b : Nat) : List Nat := (List.range m).map fun k => if b / 2 ^ k % 2 = 1 then 9 else 32
noncomputable def allLeads : List (List Nat) := (List.range 6).flatMap fun m => (List.range (2 ^ m)).map (leadC m)
noncomputable def wsC (x : List Nat) : Ws := wsOf (x ++ [120, 32, 9])
noncomputable def relC (x y : List Nat) : Bool := lessW (wsC x) (wsC y) (decide ((wsC x).count.length ≤ 1)) (decide ((wsC y).count.length ≤ 1))
noncomputable def colC (x y : List Nat) : Bool := ((List.range 6).map fun k => decide ((colsOf x).getD k 0 < (colsOf y).getD k 0)).all id
noncomputable def chk2 (x y : List Nat) : Bool := (relC x y == colC x y) && (!relC x y || decide (x.length < y.length))
noncomputable def chkAt (i : Nat) : Bool := ((allLeads.drop i).take 8).all fun x => allLeads.all fun y => chk2 x y
theorem c0 : chkAt 0 = true := by decide +kernel
theorem c8 : chkAt 8 = true := by decide +kernel
theorem c16 : chkAt 16 = true := by decide +kernel
theorem c24 : chkAt 24 = true := by decide +kernel
theorem c32 : chkAt 32 = true := by decide +kernel
theorem c40 : chkAt 40 = true := by decide +kernel
theorem c48 : chkAt 48 = true := by decide +kernel
theorem c56 : chkAt 56 = true := by decide +kernel
end Mine

namespace Mine
open PySem PySem.Spec PySem.Calls PyProof.Rows PySem.W
noncomputable def mk (a b c d e f g h i j : Bool) (x y : Nat) : Bool :=
  match x, y with
  | 0, 1 => a | 0, 2 => b | 0, 3 => c | 0, 4 => d | 1, 2 => e | 1, 3 => f | 1, 4 => g | 2, 3 => h | 2, 4 => i | 3, 4 => j
  | _, _ => false
noncomputable def transB (a b c d e f g h i j : Bool) : Bool :=
  (!(a && e) || b) && (!(a && f) || c) && (!(a && g) || d) && (!(b && h) || c) && (!(b && i) || d) && (!(c && j) || d) && (!(e && h) || f) && (!(e && i) || g) && (!(f && j) || g) && (!(h && j) || i)
noncomputable def pairs : List (List Int × List Int) := [([5,0,0,0,0],[1,1,1,1,1]), ([4,1,0,0,0],[2,1,1,1,0]), ([3,2,0,0,0],[2,2,1,0,0]), ([3,1,1,0,0],[3,1,1,0,0]), ([2,2,1,0,0],[3,2,0,0,0]), ([2,1,1,1,0],[4,1,0,0,0]), ([1,1,1,1,1],[5,0,0,0,0])]
noncomputable def goodR (rel : Nat → Nat → Bool) : Bool :=
  match rRun (tiesOf rel rel).1 (tiesOf rel rel).2 31 1 ⟨[0], [0], [0, 0, 0, 0, 0, 0], [0, 0, 0, 0, 0, 0]⟩ with
  | some out => pairs.any fun p => (diffs out.M, diffs out.F) == p
  | none => false
noncomputable def chk (a b c d e f g h i j : Bool) : Bool := !transB a b c d e f g h i j || goodR (mk a b c d e f g h i j)

-- the same run, on packed numbers: figure i to the base 8 stands for the list's item i
structure NSt where
  L : Nat
  W : Nat
  M : List Nat
  F : List Nat
noncomputable def dig (p i : Nat) : Nat := Nat.mod (Nat.shiftRight p (Nat.mul 3 i)) 8
noncomputable def mx (a b : Nat) : Nat := bif Nat.ble a b then b else a
noncomputable def at6 {α : Type} (n : Nat) (K : Nat → Option α) : Option α :=
  match n with
  | 0 => K 0 | 1 => K 1 | 2 => K 2 | 3 => K 3 | 4 => K 4 | 5 => K 5
  | _ => none
noncomputable def nStep (A B : List Nat) (e : Nat × Nat × Nat × Nat) (st : NSt) : Option NSt :=
  match A[e.2.1]?, B[e.2.1]? with
  | some a, some b =>
    at6 (mx (dig st.L e.2.2.1) (Nat.succ (dig st.L (Nat.land e.2.2.1 a)))) fun l =>
    at6 (mx (dig st.W e.2.2.1) (Nat.succ (dig st.W (Nat.land e.2.2.1 b)))) fun w =>
    some ⟨Nat.add st.L (Nat.shiftLeft l (Nat.mul 3 e.1)), Nat.add st.W (Nat.shiftLeft w (Nat.mul 3 e.1)), st.M.set l (mx (st.M.getD l 0) e.2.2.2), st.F.set w (mx (st.F.getD w 0) e.2.2.2)⟩
  | _, _ => none
noncomputable def nRun (A B : List Nat) : List (Nat × Nat × Nat × Nat) → NSt → Option NSt
  | [], st => some st
  | e :: es, st => match nStep A B e st with
    | some st' => nRun A B es st'
    | none => none
noncomputable def tab : List (Nat × Nat × Nat × Nat) := [(1, 0, 0, 1), (2, 1, 0, 1), (3, 0, 2, 2), (4, 2, 0, 1), (5, 0, 4, 2), (6, 1, 4, 2), (7, 0, 6, 3), (8, 3, 0, 1), (9, 0, 8, 2), (10, 1, 8, 2), (11, 0, 10, 3), (12, 2, 8, 2), (13, 0, 12, 3), (14, 1, 12, 3), (15, 0, 14, 4), (16, 4, 0, 1), (17, 0, 16, 2), (18, 1, 16, 2), (19, 0, 18, 3), (20, 2, 16, 2), (21, 0, 20, 3), (22, 1, 20, 3), (23, 0, 22, 4), (24, 3, 16, 2), (25, 0, 24, 3), (26, 1, 24, 3), (27, 0, 26, 4), (28, 2, 24, 3), (29, 0, 28, 4), (30, 1, 28, 4), (31, 0, 30, 5)]
theorem mx_eq (a b : Nat) : mx a b = max a b := by
  unfold mx
  cases h : Nat.ble a b with
  | true => have := Nat.le_of_ble_eq_true h; simp; omega
  | false => have : ¬ a ≤ b := fun q => by rw [Nat.ble_eq_true_of_le q] at h; cases h
             simp; omega
theorem dig_eq (p i : Nat) : dig p i = p / 8 ^ i % 8 := by
  unfold dig
  show (p >>> (3 * i)) % 8 = _
  rw [Nat.shiftRight_eq_div_pow, Nat.pow_mul]
theorem dig_old {p n v i : Nat} (hi : i < n) : dig (Nat.add p (Nat.shiftLeft v (Nat.mul 3 n))) i = dig p i := by
  rw [dig_eq, dig_eq]
  show (p + v <<< (3 * n)) / 8 ^ i % 8 = _
  obtain ⟨c, rfl⟩ : ∃ c, n = i + 1 + c := ⟨n - (i + 1), by omega⟩
  rw [Nat.shiftLeft_eq, Nat.pow_mul]
  have e : v * (2 ^ 3) ^ (i + 1 + c) = 8 ^ i * (8 * (v * 8 ^ c)) := by
    show v * 8 ^ (i + 1 + c) = _
    rw [Nat.pow_add, Nat.pow_add]
    simp only [Nat.pow_one, Nat.mul_comm, Nat.mul_left_comm, Nat.mul_assoc]
  rw [e, Nat.add_mul_div_left _ _ (Nat.pow_pos (by decide)), Nat.add_mul_mod_self_left]
theorem dig_new {p n v : Nat} (hp : p < 8 ^ n) (hv : v < 8) : dig (Nat.add p (Nat.shiftLeft v (Nat.mul 3 n))) n = v := by
  rw [dig_eq]
  show (p + v <<< (3 * n)) / 8 ^ n % 8 = _
  rw [Nat.shiftLeft_eq, Nat.pow_mul]
  show (p + v * 8 ^ n) / 8 ^ n % 8 = _
  rw [Nat.add_mul_div_right _ _ (Nat.pow_pos (by decide)), Nat.div_eq_of_lt hp, Nat.zero_add, Nat.mod_eq_of_lt hv]
theorem add_lt {p n v : Nat} (hp : p < 8 ^ n) (hv : v < 8) : Nat.add p (Nat.shiftLeft v (Nat.mul 3 n)) < 8 ^ (n + 1) := by
  show p + v <<< (3 * n) < _
  rw [Nat.shiftLeft_eq, Nat.pow_mul]
  show p + v * 8 ^ n < _
  rw [Nat.pow_succ]
  have : v * 8 ^ n ≤ 7 * 8 ^ n := Nat.mul_le_mul_right _ (by omega)
  omega
theorem at6_some {α : Type} {n : Nat} {K : Nat → Option α} {r : α} (h : at6 n K = some r) : n < 6 ∧ K n = some r := by
  unfold at6 at h
  split at h
  · exact ⟨by decide, h⟩
  · exact ⟨by decide, h⟩
  · exact ⟨by decide, h⟩
  · exact ⟨by decide, h⟩
  · exact ⟨by decide, h⟩
  · exact ⟨by decide, h⟩
  · cases h
noncomputable def ofN (l : List Nat) : List Int := l.map Int.ofNat
/-- the list's items are the number's figures -/
noncomputable def Packs (l : List Int) (p n : Nat) : Prop := l.length = n ∧ p < 8 ^ n ∧ ∀ i, i < n → l[i]? = some (Int.ofNat (dig p i))
theorem Packs.snoc {l : List Int} {p n v : Nat} (h : Packs l p n) (hv : v < 8) : Packs (l ++ [Int.ofNat v]) (Nat.add p (Nat.shiftLeft v (Nat.mul 3 n))) (n + 1) := by
  obtain ⟨h1, h2, h3⟩ := h
  refine ⟨by rw [List.length_append, h1]; rfl, add_lt h2 hv, fun i hi => ?_⟩
  by_cases q : i < n
  · rw [List.getElem?_append_left (by omega), h3 i q, dig_old q]
  · have : i = n := by omega
    subst this
    rw [List.getElem?_append_right (by omega), h1, Nat.sub_self, dig_new h2 hv]; rfl
theorem Packs.get {l : List Int} {p n : Nat} (h : Packs l p n) {i : Nat} {x : Int} (e : x = Int.ofNat i) (hi : i < n) : rGet l x = some (Int.ofNat (dig p i)) := by
  subst e
  unfold rGet
  rw [if_pos (show (0 : Int) ≤ Int.ofNat i from Int.natCast_nonneg i)]
  exact h.2.2 i hi
theorem and_nat (a b : Nat) : Builtin.bitAnd (a : Int) (b : Int) = ((a &&& b : Nat) : Int) := by
  unfold Builtin.bitAnd
  rw [decide_eq_true (Int.natCast_nonneg a), decide_eq_true (Int.natCast_nonneg b)]
  rfl
noncomputable def entOk (e : Nat × Nat × Nat × Nat) : Bool := ((bitsOf e.1).head? == some e.2.1) && (Builtin.bitXor (e.1 : Int) (1 * 2 ^ e.2.1) == (e.2.2.1 : Int)) && ((bitsOf e.1).length == e.2.2.2) && decide (e.2.2.1 < e.1)
theorem tab_ok : tab.all entOk = true := by decide +kernel
theorem max_of (a b : Nat) : max (Int.ofNat a) (1 + Int.ofNat b) = Int.ofNat (mx a (Nat.succ b)) := by
  rw [mx_eq]
  show max (a : Int) (1 + (b : Int)) = ((max a (b + 1) : Nat) : Int)
  omega
theorem ofN_get {l : List Nat} {k : Nat} (h : k < l.length) {x : Int} (e : x = Int.ofNat k) : rGet (ofN l) x = some (Int.ofNat (l.getD k 0)) := by
  subst e
  unfold rGet ofN
  rw [if_pos (show (0 : Int) ≤ Int.ofNat k from Int.natCast_nonneg k)]
  show (l.map Int.ofNat)[k]? = _
  rw [List.getElem?_map, List.getElem?_eq_getElem h, List.getD_eq_getElem?_getD, List.getElem?_eq_getElem h]; rfl
theorem ofN_set (l : List Nat) (k v s : Nat) : (ofN l).set (Int.ofNat k).toNat (max (Int.ofNat v) (s : Int)) = ofN (l.set k (mx v s)) := by
  unfold ofN
  rw [List.map_set, mx_eq]
  congr 1
  show max (v : Int) (s : Int) = ((max v s : Nat) : Int)
  omega
theorem nStep_ok {A B : List Nat} {e : Nat × Nat × Nat × Nat} {n n' : NSt} {st : RSt} (he : entOk e = true) (hL : Packs st.L n.L e.1) (hW : Packs st.W n.W e.1) (hM : st.M = ofN n.M) (hF : st.F = ofN n.F) (lM : n.M.length = 6) (lF : n.F.length = 6) (h : nStep A B e n = some n') :
    ∃ st', rStep (ofN A) (ofN B) st e.1 = some st' ∧ Packs st'.L n'.L (e.1 + 1) ∧ Packs st'.W n'.W (e.1 + 1) ∧ st'.M = ofN n'.M ∧ st'.F = ofN n'.F ∧ n'.M.length = 6 ∧ n'.F.length = 6 := by
  obtain ⟨f, k, r, sz⟩ := e
  unfold entOk at he
  simp only [Bool.and_eq_true] at he
  obtain ⟨⟨⟨e1, e2⟩, e3⟩, e4⟩ := he
  have e1 := eq_of_beq e1
  have e2 := eq_of_beq e2
  have e3 := eq_of_beq e3
  have e4 := of_decide_eq_true e4
  dsimp only at e1 e2 e3 e4 hL hW h ⊢
  unfold nStep at h
  dsimp only at h
  split at h
  · rename_i a b ha hb
    obtain ⟨hl, h⟩ := at6_some h
    obtain ⟨hw, h⟩ := at6_some h
    cases h
    have gA : (ofN A)[k]? = some (Int.ofNat a) := by unfold ofN; rw [List.getElem?_map, ha]; rfl
    have gB : (ofN B)[k]? = some (Int.ofNat b) := by unfold ofN; rw [List.getElem?_map, hb]; rfl
    have le1 : Nat.land r a < f := Nat.lt_of_le_of_lt Nat.and_le_left e4
    have le2 : Nat.land r b < f := Nat.lt_of_le_of_lt Nat.and_le_left e4
    have g1 : rGet st.L (r : Int) = some (Int.ofNat (dig n.L r)) := hL.get rfl e4
    have g2 : rGet st.L (Builtin.bitAnd (r : Int) (Int.ofNat a)) = some (Int.ofNat (dig n.L (Nat.land r a))) := hL.get (and_nat r a) le1
    have g3 : rGet st.W (r : Int) = some (Int.ofNat (dig n.W r)) := hW.get rfl e4
    have g4 : rGet st.W (Builtin.bitAnd (r : Int) (Int.ofNat b)) = some (Int.ofNat (dig n.W (Nat.land r b))) := hW.get (and_nat r b) le2
    unfold rStep
    rw [e1]
    dsimp only
    rw [gA, gB]
    dsimp only
    rw [e2, g1, g2, g3, g4]
    dsimp only
    rw [max_of, max_of, hM, hF, ofN_get (by omega) rfl, ofN_get (by omega) rfl]
    dsimp only
    refine ⟨_, rfl, hL.snoc (by omega), hW.snoc (by omega), ?_, ?_, ?_, ?_⟩
    · show (ofN n.M).set _ _ = _
      rw [e3]; exact ofN_set _ _ _ _
    · show (ofN n.F).set _ _ = _
      rw [e3]; exact ofN_set _ _ _ _
    · show (n.M.set _ _).length = 6
      rw [List.length_set]; exact lM
    · show (n.F.set _ _).length = 6
      rw [List.length_set]; exact lF
  · cases h
theorem base0 : Packs [0] 0 1 := ⟨rfl, by decide, fun i hi => by
  have : i = 0 := by omega
  subst this; rfl⟩
theorem nRun_ok {A B : List Nat} : ∀ (es : List (Nat × Nat × Nat × Nat)) (f : Nat) (st : RSt) (n out : NSt), es.map (·.1) = List.range' f es.length → es.all entOk = true → Packs st.L n.L f → Packs st.W n.W f → st.M = ofN n.M → st.F = ofN n.F → n.M.length = 6 → n.F.length = 6 → nRun A B es n = some out →
    ∃ o, rRun (ofN A) (ofN B) es.length f st = some o ∧ o.M = ofN out.M ∧ o.F = ofN out.F
  | [], f, st, n, out, _, _, _, _, hM, hF, _, _, h => by
    cases h
    exact ⟨st, rfl, hM, hF⟩
  | e :: es, f, st, n, out, hs, ha, hL, hW, hM, hF, lM, lF, h => by
    rw [List.map_cons, List.length_cons, List.range'_succ] at hs
    obtain ⟨h1, h2⟩ := List.cons.inj hs
    subst h1
    rw [List.all_cons, Bool.and_eq_true] at ha
    unfold nRun at h
    split at h
    · rename_i n' hn
      obtain ⟨st', q, qL, qW, qM, qF, ql, qm⟩ := nStep_ok ha.1 hL hW hM hF lM lF hn
      obtain ⟨o, ho, r⟩ := nRun_ok es _ st' n' out h2 ha.2 qL qW qM qF ql qm h
      refine ⟨o, ?_, r⟩
      rw [List.length_cons, rRun, q]
      exact ho
    · cases h
-- each item is brought to its figure before the next step looks at it
noncomputable def at36 {α : Type} (n : Nat) (K : Nat → Option α) : Option α := at6 (Nat.div n 6) fun q => at6 (Nat.mod n 6) fun r => K (Nat.add (Nat.mul 6 q) r)
theorem at36_some {α : Type} {n : Nat} {K : Nat → Option α} {r : α} (h : at36 n K = some r) : K n = some r := by
  have h1 := (at6_some (at6_some h).2).2
  have e : Nat.add (Nat.mul 6 (Nat.div n 6)) (Nat.mod n 6) = n := Nat.div_add_mod n 6
  rw [e] at h1; exact h1
noncomputable def forceI {α : Type} : List Int → (List Nat → Option α) → Option α
  | [], K => K []
  | x :: l, K => match x with
    | .ofNat n => at36 n fun m => forceI l fun ms => K (m :: ms)
    | .negSucc _ => none
theorem forceI_some {α : Type} {r : α} : ∀ {l : List Int} {K : List Nat → Option α}, forceI l K = some r → ∃ A, l = ofN A ∧ K A = some r
  | [], K, h => ⟨[], rfl, h⟩
  | .ofNat n :: l, K, h => by
    obtain ⟨A, e, q⟩ := forceI_some (at36_some (K := fun m => forceI l fun ms => K (m :: ms)) h)
    exact ⟨n :: A, by rw [e]; rfl, q⟩
  | .negSucc n :: l, K, h => by cases h
noncomputable def forceN {α : Type} : List Nat → (List Nat → Option α) → Option α
  | [], K => K []
  | n :: l, K => at6 n fun m => forceN l fun ms => K (m :: ms)
theorem forceN_some {α : Type} {r : α} : ∀ {l : List Nat} {K : List Nat → Option α}, forceN l K = some r → K l = some r
  | [], K, h => h
  | n :: l, K, h => forceN_some (l := l) (K := fun ms => K (n :: ms)) (at6_some (K := fun m => forceN l fun ms => K (m :: ms)) h).2
noncomputable def fitsP (M F : List Nat) : Bool := pairs.any fun p => (diffs (ofN M), diffs (ofN F)) == p
noncomputable def goodN (T : List Int × List Int) : Option Bool :=
  forceI T.1 fun A => forceI T.2 fun B => match nRun A B tab ⟨0, 0, [0, 0, 0, 0, 0, 0], [0, 0, 0, 0, 0, 0]⟩ with
    | some o => forceN o.M fun M => forceN o.F fun F => some (fitsP M F)
    | none => none
theorem goodN_R {rel : Nat → Nat → Bool} (h : goodN (tiesOf rel rel) = some true) : goodR rel = true := by
  unfold goodN at h
  obtain ⟨A, h1, h⟩ := forceI_some h
  obtain ⟨B, h2, h⟩ := forceI_some h
  split at h
  · rename_i o ho
    have h3 := Option.some.inj (forceN_some (K := fun F => some (fitsP o.M F)) (forceN_some (K := fun M => forceN o.F fun F => some (fitsP M F)) h))
    obtain ⟨q, hq, qM, qF⟩ := nRun_ok tab 1 ⟨[0], [0], [0, 0, 0, 0, 0, 0], [0, 0, 0, 0, 0, 0]⟩ _ o rfl tab_ok base0 base0 rfl rfl rfl rfl ho
    unfold goodR
    rw [← h1, ← h2] at hq
    have hq' : rRun (tiesOf rel rel).1 (tiesOf rel rel).2 31 1 ⟨[0], [0], [0, 0, 0, 0, 0, 0], [0, 0, 0, 0, 0, 0]⟩ = some q := hq
    rw [hq']
    dsimp only
    rw [qM, qF]; exact h3
  · cases h
noncomputable def chkN (a b c d e f g h i j : Bool) : Bool := !transB a b c d e f g h i j || goodN (tiesOf (mk a b c d e f g h i j) (mk a b c d e f g h i j)) == some true
theorem chkN_chk {a b c d e f g h i j : Bool} (q : chkN a b c d e f g h i j = true) : chk a b c d e f g h i j = true := by
  unfold chkN at q
  unfold chk
  rw [Bool.or_eq_true] at q ⊢
  exact q.imp id fun q => goodN_R (eq_of_beq q)
theorem t000 : ∀ d e f g h i j : Bool, chkN false false false d e f g h i j = true := by decide +kernel
theorem t001 : ∀ d e f g h i j : Bool, chkN false false true d e f g h i j = true := by decide +kernel
theorem t010 : ∀ d e f g h i j : Bool, chkN false true false d e f g h i j = true := by decide +kernel
theorem t011 : ∀ d e f g h i j : Bool, chkN false true true d e f g h i j = true := by decide +kernel
theorem t100 : ∀ d e f g h i j : Bool, chkN true false false d e f g h i j = true := by decide +kernel
theorem t101 : ∀ d e f g h i j : Bool, chkN true false true d e f g h i j = true := by decide +kernel
theorem t110 : ∀ d e f g h i j : Bool, chkN true true false d e f g h i j = true := by decide +kernel
theorem t111 : ∀ d e f g h i j : Bool, chkN true true true d e f g h i j = true := by decide +kernel
end Mine

namespace Mine
open PySem PySem.Spec PySem.Calls PyProof.Rows PySem.W

theorem joinE_toList : ∀ l : List Str, (Str.join Str.empty l).cps.toList = l.flatMap (·.cps.toList)
  | [] => rfl
  | [x] => by show x.cps.toList = _; simp
  | x :: y :: r => by
    show (x ++ Str.empty ++ Str.join Str.empty (y :: r)).cps.toList = _
    have ih := joinE_toList (y :: r)
    show ((x.cps ++ Str.empty.cps) ++ (Str.join Str.empty (y :: r)).cps).toList = _
    rw [Array.toList_append, Array.toList_append, ih, List.flatMap_cons (x := x)]
    have : Str.empty.cps.toList = [] := rfl
    rw [this, List.append_nil]
theorem signB_cps (b k : Nat) : (signB b k).cps.toList = [if b / 2 ^ k % 2 = 1 then 9 else 32] := by
  unfold signB
  split
  · rfl
  · rfl
theorem flatOne (f : Nat → Nat) : ∀ l : List Nat, (l.flatMap fun k => [f k]) = l.map f
  | [] => rfl
  | x :: r => by rw [List.flatMap_cons, flatOne f r]; rfl
theorem leadB_cps (m b : Nat) : (leadB m b).cps.toList = leadC m b := by
  unfold leadB
  have ej : ∀ l, Txt.join Str.empty l = Str.join Str.empty l := fun l => StrLaws.glued_eq_join _ _
  rw [ej, joinE_toList, List.flatMap_map]
  unfold leadC
  rw [← flatOne]
  congr 1
  funext k
  exact signB_cps b k
theorem leadC_mod (m b : Nat) : leadC m b = leadC m (b % 2 ^ m) := by
  unfold leadC
  refine List.map_congr_left fun k hk => ?_
  have hk' := List.mem_range.mp hk
  have e := Nat.testBit_mod_two_pow b m k
  rw [Nat.testBit_eq_decide_div_mod_eq, Nat.testBit_eq_decide_div_mod_eq, decide_eq_true hk', Bool.true_and] at e
  by_cases h : b / 2 ^ k % 2 = 1
  · rw [if_pos h, if_pos (of_decide_eq_true (e.trans (decide_eq_true h)))]
  · rw [if_neg h, if_neg (of_decide_eq_false (e.trans (decide_eq_false h)))]
theorem lead_mem (n : Nat) : (leadN n).cps.toList ∈ allLeads := by
  unfold leadN
  rw [leadB_cps, leadC_mod]
  unfold allLeads
  exact List.mem_flatMap.mpr ⟨n % 6, List.mem_range.mpr (Nat.mod_lt _ (by decide)), List.mem_map.mpr ⟨_, List.mem_range.mpr (Nat.mod_lt _ (Nat.two_pow_pos _)), rfl⟩⟩
theorem all_len : ∀ x ∈ allLeads, x.length ≤ 5 := by decide +kernel

theorem chk_all : ∀ x ∈ allLeads, ∀ y ∈ allLeads, chk2 x y = true := by
  intro x hx y hy
  obtain ⟨i, hi, e⟩ := List.getElem_of_mem hx
  have h63 : allLeads.length = 63 := by decide +kernel
  have key : ∀ q : Nat, chkAt (8 * q) = true → i / 8 = q → chk2 x y = true := fun q h eq => by
    unfold chkAt at h
    refine List.all_eq_true.mp (List.all_eq_true.mp h x ?_) y hy
    refine List.mem_of_getElem? (i := i - 8 * q) ?_
    rw [List.getElem?_take_of_lt (by omega), List.getElem?_drop]
    have : 8 * q + (i - 8 * q) = i := by omega
    rw [this, List.getElem?_eq_getElem hi, e]
  have : i / 8 < 8 := by omega
  rcases (show i / 8 = 0 ∨ i / 8 = 1 ∨ i / 8 = 2 ∨ i / 8 = 3 ∨ i / 8 = 4 ∨ i / 8 = 5 ∨ i / 8 = 6 ∨ i / 8 = 7 by omega) with h | h | h | h | h | h | h | h
  · exact key 0 c0 h
  · exact key 1 c8 h
  · exact key 2 c16 h
  · exact key 3 c24 h
  · exact key 4 c32 h
  · exact key 5 c40 h
  · exact key 6 c48 h
  · exact key 7 c56 h
theorem rel_col {x y : List Nat} (hx : x ∈ allLeads) (hy : y ∈ allLeads) : relC x y = colC x y ∧ (relC x y = true → x.length < y.length) := by
  have h := chk_all x hx y hy
  unfold chk2 at h
  rw [Bool.and_eq_true] at h
  refine ⟨eq_of_beq h.1, fun q => ?_⟩
  have := h.2
  rw [q] at this
  simpa using this
theorem colC_iff {x y : List Nat} : colC x y = true ↔ ∀ k, k < 6 → (colsOf x).getD k 0 < (colsOf y).getD k 0 := by
  unfold colC
  rw [List.all_eq_true]
  refine ⟨fun h k hk => ?_, fun h b hb => ?_⟩
  · exact of_decide_eq_true (h _ (List.mem_map.mpr ⟨k, List.mem_range.mpr hk, rfl⟩))
  · obtain ⟨k, hk, rfl⟩ := List.mem_map.mp hb
    exact decide_eq_true (h k (List.mem_range.mp hk))
theorem colC_trans {x y z : List Nat} (h1 : colC x y = true) (h2 : colC y z = true) : colC x z = true :=
  colC_iff.mpr fun k hk => Int.lt_trans (colC_iff.mp h1 k hk) (colC_iff.mp h2 k hk)

noncomputable def cpsAt (ls : List Str) (i : Nat) : List Nat := (ls.getD i Str.empty).cps.toList
theorem leadText_cps (x : Str) : (leadText x).cps.toList = x.cps.toList ++ [120, 32, 9] := by
  unfold leadText
  show (x.cps ++ _).toList = _
  rw [Array.toList_append]; rfl
theorem leadW_cps (x : Str) : leadW x = wsC x.cps.toList := by unfold leadW wsC; rw [leadText_cps]
theorem relOf_eq (ls : List Str) (i j : Nat) : relOf ls i j = relC (cpsAt ls i) (cpsAt ls j) := by
  unfold relOf leadS relC cpsAt
  rw [leadW_cps, leadW_cps]
theorem colOf_eq (ls : List Str) (i j : Nat) : colOfs ls i j = colC (cpsAt ls i) (cpsAt ls j) := rfl

theorem mono_at : ∀ {ls : List Str}, ls.length = 5 → mono ls → ∀ i j, i < 5 → j ≤ i → (ls.getD j Str.empty).length ≤ (ls.getD i Str.empty).length := by
  intro ls h5 hm i j hi hj
  match ls, h5, hm with
  | [a, b, c, d, e], _, ⟨h1, h2, h3, h4, _⟩ =>
    match i, j, hi, hj with
    | 0, 0, _, _ => exact Nat.le_refl _
    | 1, 0, _, _ => exact h1
    | 1, 1, _, _ => exact Nat.le_refl _
    | 2, 0, _, _ => exact Nat.le_trans h1 h2
    | 2, 1, _, _ => exact h2
    | 2, 2, _, _ => exact Nat.le_refl _
    | 3, 0, _, _ => exact Nat.le_trans (Nat.le_trans h1 h2) h3
    | 3, 1, _, _ => exact Nat.le_trans h2 h3
    | 3, 2, _, _ => exact h3
    | 3, 3, _, _ => exact Nat.le_refl _
    | 4, 0, _, _ => exact Nat.le_trans (Nat.le_trans (Nat.le_trans h1 h2) h3) h4
    | 4, 1, _, _ => exact Nat.le_trans (Nat.le_trans h2 h3) h4
    | 4, 2, _, _ => exact Nat.le_trans h3 h4
    | 4, 3, _, _ => exact h4
    | 4, 4, _, _ => exact Nat.le_refl _
    | i + 5, _, hi, _ => omega
    | 0, j + 1, _, hj => omega
    | 1, j + 2, _, hj => omega
    | 2, j + 3, _, hj => omega
    | 3, j + 4, _, hj => omega
    | 4, j + 5, _, hj => omega

theorem foldl_cong {α β : Type} {f g : β → α → β} : ∀ (l : List α) (b : β), (∀ a ∈ l, ∀ b, f b a = g b a) → l.foldl f b = l.foldl g b
  | [], _, _ => rfl
  | a :: l, b, h => by
    rw [List.foldl_cons, List.foldl_cons, h a (.head _)]
    exact foldl_cong l _ fun c hc => h c (.tail _ hc)
theorem ties_cong {rel col R : Nat → Nat → Bool} (h1 : ∀ i j, i < 5 → j < 5 → rel i j = R i j) (h2 : ∀ i j, i < 5 → j < 5 → col i j = R i j) : tiesOf rel col = tiesOf R R := by
  unfold tiesOf
  refine foldl_cong _ _ fun i hi st => ?_
  unfold tRow
  refine foldl_cong _ _ fun j hj st => ?_
  unfold tStep
  have hi' := List.mem_range.mp hi
  have hj' := List.mem_range.mp hj
  rw [h1 i j hi' hj', h2 i j hi' hj']

theorem chk_bits (a b c d e f g h i j : Bool) : chk a b c d e f g h i j = true := by
  cases a <;> cases b <;> cases c
  · exact chkN_chk (t000 ..)
  · exact chkN_chk (t001 ..)
  · exact chkN_chk (t010 ..)
  · exact chkN_chk (t011 ..)
  · exact chkN_chk (t100 ..)
  · exact chkN_chk (t101 ..)
  · exact chkN_chk (t110 ..)
  · exact chkN_chk (t111 ..)
noncomputable abbrev fits (row other : List Int) : Prop := row.length ≤ 10 ∧ other.length ≤ 10 ∧ (∀ s ∈ row, 0 ≤ s ∧ s ≤ 10) ∧ (rowText row).cps.toList.length ≤ 1000 ∧
  ∀ k : Nat, k < 6 → (wsOf (rowText row).cps.toList).indent (1 + (k : Int)) = (1 + (k : Int)) * (5 + (pickV other (some (1 + (k : Int) - 1)) none (some (1 + (k : Int)))).sum)
theorem pairs_ok : ∀ p ∈ pairs, fits p.1 p.2 ∧ fits p.2 p.1 := by decide +kernel
theorem RowOk.of {row other : List Int} (h : fits row other) : RowOk row other := ⟨h.1, h.2.1, h.2.2.1, h.2.2.2.1, h.2.2.2.2⟩

theorem law_ok (ns : List Int) : LawOk (lawLeads ns) := by
  obtain ⟨l0, el0⟩ : ∃ l0, l0 = (drawnN ns).map leadN := ⟨_, rfl⟩
  have h50 : l0.length = 5 := by rw [el0]; rfl
  have ell : lawLeads ns = sort5 l0 := by rw [el0]; rfl
  have hmem0 : ∀ x ∈ l0, x.cps.toList ∈ allLeads := fun x hx => by
    rw [el0] at hx
    obtain ⟨n, _, rfl⟩ := List.mem_map.mp hx
    exact lead_mem n
  rw [ell]
  obtain ⟨ls, els⟩ : ∃ ls, ls = sort5 l0 := ⟨_, rfl⟩
  have h5 : ls.length = 5 := by rw [els]; exact (sort5_perm h50).length_eq.trans h50
  have hmem : ∀ x ∈ ls, x.cps.toList ∈ allLeads := fun x hx => hmem0 x (by rw [els] at hx; exact (sort5_perm h50).mem_iff.mp hx)
  have hmono : mono ls := by rw [els]; exact sort5_mono l0
  rw [← els]
  clear els ell el0 hmem0 h50
  have hat : ∀ i, i < 5 → cpsAt ls i ∈ allLeads := fun i hi => by
    refine hmem _ ?_
    rw [List.getD_eq_getElem?_getD, List.getElem?_eq_getElem (by omega)]; exact List.getElem_mem _
  have hlenc : ∀ i, (cpsAt ls i).length = (ls.getD i Str.empty).length := fun i => by unfold cpsAt; rw [Array.length_toList]; rfl
  have hord : ∀ i j, i < 5 → j < 5 → relOf ls i j = true → i < j := fun i j hi hj h => by
    rw [relOf_eq] at h
    have h1 := (rel_col (hat i hi) (hat j hj)).2 h
    rw [hlenc, hlenc] at h1
    by_cases q : i < j
    · exact q
    · have := mono_at h5 hmono i j hi (Nat.not_lt.mp q)
      omega
  have hrc : ∀ i j, i < 5 → j < 5 → relOf ls i j = colOfs ls i j := fun i j hi hj => by
    rw [relOf_eq, colOf_eq]; exact (rel_col (hat i hi) (hat j hj)).1
  have htr : ∀ i j k, colOfs ls i j = true → colOfs ls j k = true → colOfs ls i k = true := fun i j k h1 h2 => by
    rw [colOf_eq] at *
    exact colC_trans h1 h2
  have hlow : ∀ i j, i < 5 → j < 5 → j ≤ i → colOfs ls i j = false := fun i j hi hj q => by
    cases e : colOfs ls i j with
    | false => rfl
    | true =>
      have := hord i j hi hj ((hrc i j hi hj).trans e)
      omega
  refine ⟨fun x hx => Nat.le_trans (all_len _ (hmem x hx)) (by decide), hord, ?_⟩
  obtain ⟨c, ec⟩ : ∃ c, c = colOfs ls := ⟨_, rfl⟩
  rw [← ec] at hrc htr hlow ⊢
  have hR : ∀ i j, i < 5 → j < 5 → c i j = mk (c 0 1) (c 0 2) (c 0 3) (c 0 4) (c 1 2) (c 1 3) (c 1 4) (c 2 3) (c 2 4) (c 3 4) i j := fun i j hi hj => by
    match i, j, hi, hj with
    | 0, 1, _, _ => rfl
    | 0, 2, _, _ => rfl
    | 0, 3, _, _ => rfl
    | 0, 4, _, _ => rfl
    | 1, 2, _, _ => rfl
    | 1, 3, _, _ => rfl
    | 1, 4, _, _ => rfl
    | 2, 3, _, _ => rfl
    | 2, 4, _, _ => rfl
    | 3, 4, _, _ => rfl
    | 0, 0, _, _ => exact hlow 0 0 (by decide) (by decide) (by decide)
    | 1, 0, _, _ => exact hlow 1 0 (by decide) (by decide) (by decide)
    | 1, 1, _, _ => exact hlow 1 1 (by decide) (by decide) (by decide)
    | 2, 0, _, _ => exact hlow 2 0 (by decide) (by decide) (by decide)
    | 2, 1, _, _ => exact hlow 2 1 (by decide) (by decide) (by decide)
    | 2, 2, _, _ => exact hlow 2 2 (by decide) (by decide) (by decide)
    | 3, 0, _, _ => exact hlow 3 0 (by decide) (by decide) (by decide)
    | 3, 1, _, _ => exact hlow 3 1 (by decide) (by decide) (by decide)
    | 3, 2, _, _ => exact hlow 3 2 (by decide) (by decide) (by decide)
    | 3, 3, _, _ => exact hlow 3 3 (by decide) (by decide) (by decide)
    | 4, 0, _, _ => exact hlow 4 0 (by decide) (by decide) (by decide)
    | 4, 1, _, _ => exact hlow 4 1 (by decide) (by decide) (by decide)
    | 4, 2, _, _ => exact hlow 4 2 (by decide) (by decide) (by decide)
    | 4, 3, _, _ => exact hlow 4 3 (by decide) (by decide) (by decide)
    | 4, 4, _, _ => exact hlow 4 4 (by decide) (by decide) (by decide)
    | i + 5, _, hi, _ => omega
    | 0, j + 5, _, hj => omega
    | 1, j + 5, _, hj => omega
    | 2, j + 5, _, hj => omega
    | 3, j + 5, _, hj => omega
    | 4, j + 5, _, hj => omega
  have imp : ∀ i j k, (!(c i j && c j k) || c i k) = true := fun i j k => by
    cases h1 : c i j <;> cases h2 : c j k
    · rfl
    · rfl
    · rfl
    · rw [htr i j k h1 h2]; rfl
  have hT : transB (c 0 1) (c 0 2) (c 0 3) (c 0 4) (c 1 2) (c 1 3) (c 1 4) (c 2 3) (c 2 4) (c 3 4) = true := by
    unfold transB
    rw [imp 0 1 2, imp 0 1 3, imp 0 1 4, imp 0 2 3, imp 0 2 4, imp 0 3 4, imp 1 2 3, imp 1 2 4, imp 1 3 4, imp 2 3 4]
    rfl
  have hchk := chk_bits (c 0 1) (c 0 2) (c 0 3) (c 0 4) (c 1 2) (c 1 3) (c 1 4) (c 2 3) (c 2 4) (c 3 4)
  unfold chk at hchk
  rw [hT] at hchk
  have hgood : goodR (mk (c 0 1) (c 0 2) (c 0 3) (c 0 4) (c 1 2) (c 1 3) (c 1 4) (c 2 3) (c 2 4) (c 3 4)) = true := by simpa using hchk
  rw [ties_cong (fun i j hi hj => (hrc i j hi hj).trans (hR i j hi hj)) hR]
  unfold goodR at hgood
  split at hgood
  · rename_i out e
    obtain ⟨p, hp, hq⟩ := List.any_eq_true.mp hgood
    have q := eq_of_beq hq
    obtain ⟨f1, f2⟩ := pairs_ok p hp
    refine ⟨out, e, ?_, ?_⟩
    · rw [← q] at f1; exact .of f1
    · rw [← q] at f2; exact .of f2
  · cases hgood
end Mine

namespace Mine
open PySem PySem.Spec PySem.Calls PyProof.Rows PySem.W
theorem bridge {K K' : Frag} {h : Heap} (x : K.In h) (e : (K'.map fun p => K.lookup p.1) = K'.map fun p => some p.2) : K'.In h := by
  intro a o q
  refine x a o ?_
  have key : ∀ p ∈ K', K.lookup p.1 = some p.2 := List.map_inj_left.mp e
  clear e
  induction K' with
  | nil => cases q
  | cons p r ih =>
    rw [List.lookup] at q
    split at q
    · rename_i q'
      cases q
      rw [eq_of_beq q']
      exact key p (.head _)
    · exact ih q fun p hp => key p (.tail _ hp)
theorem ints_are {W : Addr → Obj → Prop} : ∀ {vs : List Value} {ns : List Int}, IntsAre vs ns → VRs W (intsV ns) vs := by
  intro vs ns h
  induction h with
  | nil => exact .nil
  | cons _ _ _ ih => exact .cons (.int _ _) ih
theorem law_end {w : World} {A : Around} {E : Value → Shared → Prop} {s : Shared} {vs : List Value} {ns : List Int} {Q : Value → Shared → Prop} (ok : AOk A 9) (T : TopF w s.heap) (tk : 430 ≤ s.toks) (ho : s.heap.get? 167 = some { cls := .type "list", data := .seq vs.toArray }) (hI : IntsAre vs ns) (hn : ns.length ≤ 1000)
    (hQ : ∀ s', Kp s s' → Q (.bool true) s') : wpAny (model PR w) A (call (.ref 166) [.ref 167]) Q E s :=
  fn_law (w := w) (d := 0) (lo := 430) (Nat.le_refl _) hn (law_ok ns) A E s (fun _ => False) [.ref 167] ok T ⟨Nat.le_refl _, tk⟩ (fun _ h => h.elim) (.cons (.list (n := 0) ⟨ho, fun h => h⟩ (ints_are hI)) .nil) Q (fun v' s' k r => by cases r; exact hQ s' k)
theorem caller_ok : AOk callerA 9 := ⟨rfl, by decide, by decide⟩
theorem law_good {c : ClaimW} {cl : Str → Option Addr} {mean : ExcName → Option Value} {args : List WData} {s s' : Shared} (k : Kp s s') (hg : s.gens = #[]) (hr : ∀ cls, c.raises args cls = false) (hp : c.post args (.bool true) args = true) : GoodWG c cl mean args s (.ok (.ret (.bool true))) s' := by
  obtain ⟨⟨h, t, rfl⟩, e, q⟩ := k
  exact ⟨.inl ⟨_, _, [], rfl, hr, ReadsW.bool true, hp, fun _ => ⟨List.nodup_nil, fun _ hm => (nomatch hm)⟩⟩, OldK.of_keep e, rfl, .of_eq hg⟩
end Mine
open PySem PySem.W PyProof.Rows
open PySem.W.X PySem.W.ZRun
set_option maxRecDepth 100000 in
set_option maxHeartbeats 8000000 in
theorem PySem.Challenge.cw_wj0033_01_holds : PySem.Challenge.rw_wj0033_01.Holds := by
  w_on
  o_law
  z_head
  (case hw => w_witness2)
  k_fill
  intro w s₀ s₁ mg mb G y fa o pm cd doc dV kV ho hd hcd hD hmg hg args vals as L hpre hlay hrd hwl hlo
  z_open y L KX ZH ZN ZT
  refine Ground.open G ?_
  intro T B D TE TW
  wrow_args hpre hlay hrd hwl hlo
  obtain ⟨hat, hsz⟩ := script_at L
  have htk := script_toks L ZT
  rw [ZN] at hat hsz
  subst hat
  x_fa T KX hmg
  clear hmg hD hcd hd
  rename_i hI hr hc1 hc2 hL w1 r0
  have X39 : (Mine.hd.heap_39 w.params).In s₁.heap := Mine.bridge KX (by kernel_rfl)
  have nb : NoneBooked s₁.heap := by
    obtain ⟨mc, hn, _⟩ := T.nodigits
    exact ⟨mc, hn, ns_none_of KX hn (by kernel_rfl)⟩
  have TF : Mine.TopF w s₁.heap := ⟨X39, ⟨_, _, _, _, _, T⟩, nb⟩
  refine Mine.law_end Mine.caller_ok TF htk (script_obj L hL) hI (by omega) fun s' k => ?_
  exact Mine.law_good k hg (fun _ => rfl) (by first | rfl | wrow_post)
