import PyProof.Rows.All
import Wide.All
import OpenK.AllK
import Wide.FinOn
import PySem.Challenge.RW_ft5038_01
open PySem PySem.W PyProof.Rows PySem.Calls
set_option Elab.async false
set_option linter.unusedVariables false

namespace Mine
set_option maxRecDepth 100000 in
set_option maxHeartbeats 8000000 in
open_top hd for PySem.Challenge.rw_ft5038_01
end Mine

namespace Mine

noncomputable abbrev pw : Program := PySem.Challenge.pw_ft5038_01
noncomputable abbrev lo : List Str := looseW hd.view_39 [Str.ofString "_ESCAPES", Str.ofString "_ESCAPED", Str.ofString "json_text"]

/-- what a value reads as -/
inductive AV where
  | none
  | bool (b : Bool)
  | int (i : Int)
  | str (s : Str)
  | bytes (b : Array UInt8)
  | list (xs : List AV)
  | tuple (xs : List AV)
  | dict (es : List (Str × AV))
  | idict (es : List (Int × AV))
  | draw
  | cells
  | typ (T : String)
  | range (n : Nat)
  | types (Ts : List String)
  | raw (ns : List Int)

inductive ERes where
  | ok (v : AV)
  | exc (cls : String)

structure Draw where
  cells : List Int
  seed : Int
  bud : Int

noncomputable abbrev DA := Option (Addr × Addr)
noncomputable def Dl : DA → List Addr
  | none => []
  | some p => [p.1, p.2]

/-- the heap without the law's draw list -/
noncomputable def V (D : DA) (h : Heap) : Heap := hideAll h (Dl D)

noncomputable def Gl (w : World) (h : Heap) : Prop :=
  (hd.heap_39 w.params).In h ∧ ∃ mean mg mb, Top hd.view_39 lo mean mg mb h

mutual
inductive Rd (w : World) (D : DA) (h : Heap) (H : List Addr) : Value → AV → Prop
  | none : Rd w D h H .none .none
  | bool (b) : Rd w D h H (.bool b) (.bool b)
  | int (i t) : Rd w D h H (.int i t) (.int i)
  | str (x t) : Rd w D h H (.str x t) (.str x)
  | bytes (x t) : Rd w D h H (.bytes x t) (.bytes x)
  | list {a items xs} : h.IsList a items → a ∉ H → a ≠ sysModules → RdL w D h H items.toList xs → Rd w D h H (.ref a) (.list xs)
  | tuple {a items xs} : h.IsTuple a items → a ∉ H → RdL w D h H items.toList xs → Rd w D h H (.ref a) (.tuple xs)
  | dict {a kvs es} : h.DictOf (strKind pw w) a kvs → a ∉ H → a ≠ sysModules → kvs.map (·.1) = es.map (·.1) →
      RdL w D h H (kvs.map (·.2)) (es.map (·.2)) → Rd w D h H (.ref a) (.dict es)
  | idict {a kvs es} : h.DictOf (intKind pw w) a kvs → a ∉ H → a ≠ sysModules → kvs.map (·.1) = es.map (·.1) →
      RdL w D h H (kvs.map (·.2)) (es.map (·.2)) → Rd w D h H (.ref a) (.idict es)
  | draw {d c} : D = some (d, c) → Rd w D h H (.ref d) .draw
  | cells {d c} : D = some (d, c) → Rd w D h H (.ref c) .cells
  | typ (T) : Rd w D h H (.type T) (.typ T)
  | range {a t u v} {n : Nat} : IsRange h a 0 n 1 t u v → a ∉ H → Rd w D h H (.ref a) (.range n)
  | types {a} {Ts : List String} : h.get? a = some { cls := .type "tuple", data := .seq (Ts.map Value.type).toArray } → a ∉ H → Rd w D h H (.ref a) (.types Ts)
  | raw {a items ns} : h.IsList a items → a ∉ H → IntsAre items.toList ns → Rd w D h H (.ref a) (.raw ns)
inductive RdL (w : World) (D : DA) (h : Heap) (H : List Addr) : List Value → List AV → Prop
  | nil : RdL w D h H [] []
  | cons {v vs a as} : Rd w D h H v a → RdL w D h H vs as → RdL w D h H (v :: vs) (a :: as)
end

/-- all objects of h that are not hidden stand in h' -/
noncomputable def Keep (H : List Addr) (h h' : Heap) : Prop := ∀ b o, b ∉ H → h.get? b = some o → h'.get? b = some o

theorem Keep.isList {H h h' a items} (k : Keep H h h') (ha : a ∉ H) (x : h.IsList a items) : h'.IsList a items :=
  let ⟨o, ho, r⟩ := x; ⟨o, k _ _ ha ho, r⟩
theorem Keep.isTuple {H h h' a items} (k : Keep H h h') (ha : a ∉ H) (x : h.IsTuple a items) : h'.IsTuple a items :=
  let ⟨o, ho, r⟩ := x; ⟨o, k _ _ ha ho, r⟩
theorem Keep.dictOf {H h h' a} {prog : Program} {w : World} {K : Type} [DecidableEq K] {knd : KeyKind prog w K} {kvs : List (K × Value)}
    (k : Keep H h h') (ha : a ∉ H) (x : h.DictOf knd a kvs) : h'.DictOf knd a kvs :=
  let ⟨o, es, ep, ho, r⟩ := x; ⟨o, es, ep, k _ _ ha ho, r⟩

mutual
theorem Rd.keep {w D h h' H v a} (k : Keep H h h') : Rd w D h H v a → Rd w D h' H v a
  | .none => .none
  | .bool b => .bool b
  | .int i t => .int i t
  | .str i t => .str i t
  | .bytes i t => .bytes i t
  | .list h1 h2 hs h3 => .list (k.isList h2 h1) h2 hs (RdL.keep k h3)
  | .tuple h1 h2 h3 => .tuple (k.isTuple h2 h1) h2 (RdL.keep k h3)
  | .dict h1 h2 h3 h4 h5 => .dict (k.dictOf h2 h1) h2 h3 h4 (RdL.keep k h5)
  | .idict h1 h2 h3 h4 h5 => .idict (k.dictOf h2 h1) h2 h3 h4 (RdL.keep k h5)
  | .draw e => .draw e
  | .cells e => .cells e
  | .typ T => .typ T
  | .range h1 h2 => .range (k _ _ h2 h1) h2
  | .types h1 h2 => .types (k _ _ h2 h1) h2
  | .raw h1 h2 h3 => .raw (k.isList h2 h1) h2 h3
theorem RdL.keep {w D h h' H vs as} (k : Keep H h h') : RdL w D h H vs as → RdL w D h' H vs as
  | .nil => .nil
  | .cons h1 h2 => .cons (Rd.keep k h1) (RdL.keep k h2)
end

mutual
theorem Rd.weak {w D h H H' v a} (k : ∀ b, b ∈ H' → b ∈ H) : Rd w D h H v a → Rd w D h H' v a
  | .none => .none
  | .bool b => .bool b
  | .int i t => .int i t
  | .str i t => .str i t
  | .bytes i t => .bytes i t
  | .list h1 h2 hs h3 => .list h1 (fun q => h2 (k _ q)) hs (RdL.weak k h3)
  | .tuple h1 h2 h3 => .tuple h1 (fun q => h2 (k _ q)) (RdL.weak k h3)
  | .dict h1 h2 h3 h4 h5 => .dict h1 (fun q => h2 (k _ q)) h3 h4 (RdL.weak k h5)
  | .idict h1 h2 h3 h4 h5 => .idict h1 (fun q => h2 (k _ q)) h3 h4 (RdL.weak k h5)
  | .draw e => .draw e
  | .cells e => .cells e
  | .typ T => .typ T
  | .range h1 h2 => .range h1 (fun q => h2 (k _ q))
  | .types h1 h2 => .types h1 (fun q => h2 (k _ q))
  | .raw h1 h2 h3 => .raw h1 (fun q => h2 (k _ q)) h3
theorem RdL.weak {w D h H H' vs as} (k : ∀ b, b ∈ H' → b ∈ H) : RdL w D h H vs as → RdL w D h H' vs as
  | .nil => .nil
  | .cons h1 h2 => .cons (Rd.weak k h1) (RdL.weak k h2)
end

theorem RdL.length {w D h H} : ∀ {vs as}, RdL w D h H vs as → vs.length = as.length
  | _, _, .nil => rfl
  | _, _, .cons _ h => by simp [RdL.length h]

theorem RdL.append {w D h H} : ∀ {vs as us bs}, RdL w D h H vs as → RdL w D h H us bs → RdL w D h H (vs ++ us) (as ++ bs)
  | _, _, _, _, .nil, h => h
  | _, _, _, _, .cons h1 h2, h => .cons h1 (RdL.append h2 h)

theorem RdL.get {w D h H} : ∀ {vs as}, RdL w D h H vs as → ∀ {i : Nat} {a}, as[i]? = some a → ∃ v, vs[i]? = some v ∧ Rd w D h H v a
  | _, _, .nil, _, _, e => by simp at e
  | _, _, .cons h1 _, 0, _, e => by simp at e; exact ⟨_, rfl, e ▸ h1⟩
  | _, _, .cons _ h2, i + 1, _, e => by simpa using RdL.get h2 (i := i) (by simpa using e)

/-- the law's draw list stands so -/
noncomputable def DrawAt (w : World) (D : DA) (h : Heap) (δ : Draw) : Prop :=
  ∀ d c, D = some (d, c) → d ≠ c ∧ ∃ t1 t2 its, h.IsList d #[.ref c, .int δ.seed t1, .int δ.bud t2] ∧ PlainL h c its ∧ RdL w none h [] its.toList (δ.cells.map AV.int)

theorem rdl_ints {w D D' h h' H H' vs} : ∀ {ns : List Int}, RdL w D h H vs (ns.map AV.int) → RdL w D' h' H' vs (ns.map AV.int) := by
  intro ns
  induction ns generalizing vs with
  | nil => intro x; cases x; exact .nil
  | cons n r ih => intro x; cases x with | cons h1 h2 => cases h1; exact .cons (.int _ _) (ih h2)

theorem DrawAt.of_eq {w D h h' δ} (x : DrawAt w D h δ) (k : ∀ a ∈ Dl D, ∀ o, h.get? a = some o → ∃ sl, h'.get? a = some { o with slots := sl }) : DrawAt w D h' δ := by
  intro d c e
  obtain ⟨hne, t1, t2, its, ⟨o1, g1, c1, n1, d1⟩, ⟨o2, n2, g2, c2, p2, d2⟩, h3⟩ := x d c e
  subst e
  obtain ⟨s1, q1⟩ := k d (by simp [Dl]) _ g1
  obtain ⟨s2, q2⟩ := k c (by simp [Dl]) _ g2
  exact ⟨hne, t1, t2, its, ⟨_, q1, c1, n1, d1⟩, ⟨_, n2, q2, c2, p2, d2⟩, rdl_ints h3⟩

theorem DrawAt.keep {w D h h' δ} (x : DrawAt w D h δ) (k : ∀ b o, h.get? b = some o → h'.get? b = some o) : DrawAt w D h' δ :=
  x.of_eq fun _ _ o e => ⟨o.slots, k _ o e⟩

theorem DrawAt.lt {w D h δ} (x : DrawAt w D h δ) : ∀ a ∈ Dl D, a < h.objs.size := by
  intro a ha
  match D, ha with
  | some (d, c), ha =>
    obtain ⟨_, _, _, _, ⟨o1, g1, _⟩, ⟨o2, _, g2, _⟩, _⟩ := x d c rfl
    simp [Dl] at ha
    rcases ha with rfl | rfl
    · exact Heap.lt_size g1
    · exact Heap.lt_size g2

/-- where an expression stands -/
structure Cx where
  w : World
  D : DA
  A : Around
  base : Heap
  outer : List Env
  fenv : Env
  env : Env
  Lf : Addr
  H : List Addr

structure Room (k : Nat) (A : Around) : Prop where
  handled : A.handled = none
  guards : A.guards = some []
  depth : A.depth + k < 900
  units : A.units + 20 * k < 9000

structure Cx.Ok (C : Cx) (k : Nat) (nm : List (Str × NameKind)) : Prop where
  room : Room k C.A
  fr : C.A.frames = some (C.fenv :: C.outer)
  ff : C.fenv.frame = some C.Lf
  ef : C.env.frame = some C.Lf
  kind : C.env.scope.kind = .function
  names : C.env.scope.names = nm
  gl : C.env.globals = mainGlobals
  bl : C.env.builtins = builtinsNs
  dsub : ∀ a ∈ Dl C.D, a ∈ C.H

noncomputable abbrev Cx.v (C : Cx) (s : Shared) : Heap := V C.D s.heap

noncomputable def NameIs (env : Env) (h : Heap) (x : Str) (v : Value) : Prop :=
  (env.kindOf x = some .local ∧ ∃ m, h.Ns env.locals m ∧ m x = some v) ∨
  ((env.kindOf x = some .cell ∨ (env.kindOf x = some .free ∧ x ≠ "__classdict__")) ∧ ∃ c, env.cells.lookup x = some c ∧ h.IsCell c (some v))

structure EvSt (C : Cx) (σ : List (Str × AV)) (δ : Draw) (s : Shared) : Prop where
  gl : Gl C.w (C.v s)
  base : C.base.StaysIn (C.v s)
  ff : (C.v s).FunFrames C.base (C.fenv :: C.outer)
  dr : DrawAt C.w C.D s.heap δ
  hid : ∀ a ∈ C.H, 154 < a ∧ a < s.heap.objs.size
  names : ∀ x av, σ.lookup x = some av → ∃ v, NameIs C.env (C.v s) x v ∧ Rd C.w C.D s.heap C.H v av

/-- s' comes behind s: only heap and tokens are others -/
noncomputable def Same (s s' : Shared) : Prop := s'.gens = s.gens ∧ s'.drawn = s.drawn ∧ s'.os = s.os
theorem Same.refl (s : Shared) : Same s s := ⟨rfl, rfl, rfl⟩
theorem Same.trans {s s1 s2 : Shared} (x : Same s s1) (y : Same s1 s2) : Same s s2 := ⟨y.1.trans x.1, y.2.1.trans x.2.1, y.2.2.trans x.2.2⟩

structure Aft (C : Cx) (s s' : Shared) (δ' : Draw) : Prop where
  same : Same s s'
  keep : (C.v s).StaysIn (C.v s')
  dr : DrawAt C.w C.D s'.heap δ'
  sz : s.heap.objs.size ≤ s'.heap.objs.size

noncomputable def ExcAt (C : Cx) (X : String) (e : Addr) (h : Heap) : Prop :=
  ∃ a0, Heap.FlyingW C.base (C.fenv :: C.outer) e (.type X) a0 h ∨ Heap.HeldW C.base (C.fenv :: C.outer) e (.type X) a0 C.Lf h ∨
    ∃ fl, C.base.StaysIn h ∧ C.base.get? e = none ∧ h.FunFrames C.base (C.fenv :: C.outer) ∧ h.TracedAtW C.base e (.type X) a0 fl

structure ExcAft (C : Cx) (s s' : Shared) (X : String) (e : Addr) (δ' : Draw) : Prop where
  same : Same s s'
  upto : (C.v s).UpToSlots (C.v s')
  dr : DrawAt C.w C.D s'.heap δ'
  exc : ExcAt C X e s'.heap

noncomputable abbrev MM (w : World) : Model := model pw w

structure EvOk (k : Nat) (nm : List (Str × NameKind)) (σ : List (Str × AV)) (δ : Draw) (e : Expr) (r : ERes) (δ' : Draw) : Prop where
  run : ∀ (C : Cx) (s : Shared) (Q : Value → Shared → Prop) (E : Value → Shared → Prop), C.Ok k nm → EvSt C σ δ s →
    (∀ v av s', r = .ok av → Aft C s s' δ' → Rd C.w C.D s'.heap C.H v av → Q v s') →
    (∀ e X s', r = .exc X → ExcAft C s s' X e δ' → E (.ref e) s') →
    wpAny (MM C.w) C.A (eval e C.env) Q E s

/-- the call of a def -/
structure CallOk (k : Nat) (f : Addr) (args : List AV) (δ : Draw) (r : ERes) (δ' : Draw) : Prop where
  run : ∀ (w : World) (D : DA) (A : Around) (base : Heap) (outer : List Env) (s : Shared) (H : List Addr) (vals : List Value) (R : Result → Shared → Prop),
    Room k A → A.frames = some outer → Gl w (V D s.heap) → base.StaysIn (V D s.heap) → (V D s.heap).FunFrames base outer →
    DrawAt w D s.heap δ → (∀ a ∈ H, 154 < a ∧ a < s.heap.objs.size) → (∀ a ∈ Dl D, a ∈ H) → RdL w D s.heap H vals args →
    (∀ v av s', r = .ok av → Same s s' → (V D s.heap).StaysIn (V D s'.heap) → DrawAt w D s'.heap δ' → s.heap.objs.size ≤ s'.heap.objs.size → Rd w D s'.heap H v av → R (.ok (.ret v)) s') →
    (∀ e X s', r = .exc X → Same s s' → (V D s.heap).UpToSlots (V D s'.heap) → DrawAt w D s'.heap δ' →
      (∃ a0, Heap.FlyingW base outer e (.type X) a0 s'.heap) → R (.error (.ref e)) s') →
    codeAny (MM w) A (.call (.ref f) ⟨vals, []⟩) R s

/-! ### small facts -/
theorem v_get {D : DA} {h : Heap} {b : Addr} {o : Obj} (e : (V D h).get? b = some o) : h.get? b = some o := of_hideAll _ e
theorem v_notin {D : DA} {h : Heap} {b : Addr} {o : Obj} (e : (V D h).get? b = some o) : b ∉ Dl D := fun q => by
  rw [V, hideAll_none _ q] at e; cases e
theorem get_v {D : DA} {h : Heap} {b : Addr} {o : Obj} (e : h.get? b = some o) (n : b ∉ Dl D) : (V D h).get? b = some o := hideAll_get _ e n
theorem v_size {D : DA} {h : Heap} : (V D h).objs.size = h.objs.size := hideAll_size _ _

theorem v_stays {D : DA} {h h' : Heap} (k : ∀ b o, b ∉ Dl D → h.get? b = some o → h'.get? b = some o) : (V D h).StaysIn (V D h') :=
  fun b o e => get_v (k b o (v_notin e) (v_get e)) (v_notin e)
theorem v_keep {D : DA} {h h' : Heap} (k : (V D h).StaysIn (V D h')) : Keep (Dl D) h h' := fun b o hb e => v_get (k b o (get_v e hb))
theorem Keep.mono {H H' : List Addr} {h h' : Heap} (k : Keep H h h') (hs : ∀ a ∈ H, a ∈ H') : Keep H' h h' := fun b o hb e => k b o (fun q => hb (hs b q)) e
theorem stays_trans {a b c : Heap} (x : a.StaysIn b) (y : b.StaysIn c) : a.StaysIn c := fun p o e => y p o (x p o e)
theorem stays_refl (a : Heap) : a.StaysIn a := fun _ _ e => e

theorem Gl.keeps {w h h'} (g : Gl w h) (k : h.StaysIn h') : Gl w h' :=
  ⟨g.1.keeps k, let ⟨a, b, c, t⟩ := g.2; ⟨a, b, c, t.keeps k⟩⟩

theorem NameIs.keeps {env h h' x v} (n : NameIs env h x v) (k : h.StaysIn h') : NameIs env h' x v := by
  rcases n with ⟨a, m, hn, hm⟩ | ⟨a, c, hc, hi⟩
  · exact .inl ⟨a, m, hn.keeps k, hm⟩
  · exact .inr ⟨a, c, hc, hi.keeps k⟩

theorem funFrames_keeps {h h' base : Heap} (k : h.StaysIn h') : ∀ {l : List Env}, h.FunFrames base l → h'.FunFrames base l :=
  fun x => x.of_keeps fun b o ho _ => ⟨o, k b o ho, rfl⟩

section
variable {C : Cx} {σ : List (Str × AV)} {δ δ' : Draw} {s s' : Shared}
theorem EvSt.aft {k nm} (O : C.Ok k nm) (x : EvSt C σ δ s) (a : Aft C s s' δ') : EvSt C σ δ' s' where
  gl := x.gl.keeps a.keep
  base := stays_trans x.base a.keep
  ff := funFrames_keeps a.keep x.ff
  dr := a.dr
  hid := fun b hb => ⟨(x.hid b hb).1, Nat.lt_of_lt_of_le (x.hid b hb).2 a.sz⟩
  names := fun y av e => let ⟨v, n, r⟩ := x.names y av e; ⟨v, n.keeps a.keep, r.keep ((v_keep a.keep).mono O.dsub)⟩

theorem Aft.rd {k nm v av} (O : C.Ok k nm) (a : Aft C s s' δ') (r : Rd C.w C.D s.heap C.H v av) : Rd C.w C.D s'.heap C.H v av := r.keep ((v_keep a.keep).mono O.dsub)
theorem Aft.rdl {k nm v av} (O : C.Ok k nm) (a : Aft C s s' δ') (r : RdL C.w C.D s.heap C.H v av) : RdL C.w C.D s'.heap C.H v av := r.keep ((v_keep a.keep).mono O.dsub)
theorem Aft.trans {s'' δ''} (a : Aft C s s' δ') (b : Aft C s' s'' δ'') : Aft C s s'' δ'' := ⟨a.same.trans b.same, stays_trans a.keep b.keep, b.dr, Nat.le_trans a.sz b.sz⟩
theorem Aft.refl (x : EvSt C σ δ s) : Aft C s s δ := ⟨Same.refl _, stays_refl _, x.dr, Nat.le_refl _⟩

/-- whatever keeps the whole heap -/
theorem Aft.of_keep (x : EvSt C σ δ s) {h' : Heap} {t : Nat} (k : ∀ b o, s.heap.get? b = some o → h'.get? b = some o) (hz : s.heap.objs.size ≤ h'.objs.size) : Aft C s { s with heap := h', toks := t } δ :=
  ⟨⟨rfl, rfl, rfl⟩, v_stays fun b o _ e => k b o e, x.dr.keep k, hz⟩
theorem Aft.of_tok (x : EvSt C σ δ s) {t : Nat} : Aft C s { s with toks := t } δ := Aft.of_keep x (fun _ _ e => e) (Nat.le_refl _)

theorem ExcAft.after {s'' δ'' X e} (a : Aft C s s' δ') (b : ExcAft C s' s'' X e δ'') : ExcAft C s s'' X e δ'' :=
  ⟨a.same.trans b.same, (Heap.UpToSlots.of_keeps a.keep).trans b.upto, b.dr, b.exc⟩
end

theorem Room.mono {k k' A} (r : Room k A) (h : k' ≤ k) : Room k' A := ⟨r.handled, r.guards, by have := r.depth; omega, by have := r.units; omega⟩
theorem Cx.Ok.mono {C : Cx} {k k' nm} (O : C.Ok k nm) (h : k' ≤ k) : C.Ok k' nm := { O with room := O.room.mono h }
theorem EvOk.mono {k k' nm σ δ e r δ'} (x : EvOk k nm σ δ e r δ') (h : k ≤ k') : EvOk k' nm σ δ e r δ' :=
  ⟨fun C s Q E O S hq he => x.run C s Q E (O.mono h) S hq he⟩
theorem CallOk.mono {k k' f args δ r δ'} (x : CallOk k f args δ r δ') (h : k ≤ k') : CallOk k' f args δ r δ' :=
  ⟨fun w D A base outer s H vals R r1 => x.run w D A base outer s H vals R (r1.mono h)⟩

theorem gl_big {w : World} {D : DA} {h : Heap} (g : Gl w (V D h)) : 154 < h.objs.size := by
  have e : ∃ o, (hd.heap_39 w.params).lookup 154 = some o := ⟨_, rfl⟩
  obtain ⟨o, e⟩ := e
  exact Heap.lt_size (v_get (g.1 _ _ e))

theorem ne_sys_size {w : World} {D : DA} {h : Heap} (g : Gl w (V D h)) : h.objs.size ≠ sysModules := fun q => absurd (gl_big g) (by rw [q]; decide)
theorem ne_sys_of {a : Addr} (h : 154 < a) : a ≠ sysModules := fun q => absurd h (by rw [q]; decide)

end Mine

namespace Mine
set_option maxRecDepth 100000

/-! ## names -/
noncomputable def GName (x : Str) (v : World → Value) : Prop := (∀ w : World, nsIn (hd.heap_39 w.params) mainGlobals x = some (some (v w))) ∧ (x == ("__debug__" : Str)) = false
noncomputable def BName (x : Str) (v : Value) : Prop :=
  (∀ w : World, nsIn (hd.heap_39 w.params) mainGlobals x = some none) ∧ bootBuiltins x = some v ∧ x ≠ "__name__" ∧ (x == ("__debug__" : Str)) = false

section
variable {w : World} {A : Around} {E : Value → Shared → Prop} {s : Shared} {env : Env}
theorem gname_eval {x : Str} {v : World → Value} {pos : Pos} {Q : Value → Shared → Prop} {h : Heap} (g : Gl w h) (hk : h.StaysIn s.heap) (n : GName x v) (kind : env.scope.kind = .function) (gl : env.globals = mainGlobals)
    (hx : env.kindOf x = some .globalImplicit) (hq : Q (v w) s) : wpAny (MM w) A (eval (.Name x pos) env) Q E s := by
  obtain ⟨X, _, mg, mb, T⟩ := g
  refine Name_function_global kind hx (loadGlobal_global (mg := mg) ?_ (mg_of X T.g (n.1 w)) hq) n.2
  rw [gl]; exact T.g.keeps hk
theorem bname_eval {x : Str} {v : Value} {pos : Pos} {Q : Value → Shared → Prop} {h : Heap} (g : Gl w h) (hk : h.StaysIn s.heap) (n : BName x v) (kind : env.scope.kind = .function) (gl : env.globals = mainGlobals) (bl : env.builtins = builtinsNs)
    (hx : env.kindOf x = some .globalImplicit) (hq : Q v s) : wpAny (MM w) A (eval (.Name x pos) env) Q E s := by
  obtain ⟨X, _, mg, mb, T⟩ := g
  refine Name_function_global kind hx (loadGlobal_builtin (mg := mg) (mb := mb) ?_ (mg_none_of X T.g (n.1 w)) ?_ ((T.builtins x n.2.2.1).trans n.2.1) hq) n.2.2.2
  · rw [gl]; exact T.g.keeps hk
  · rw [bl]; exact T.b.keeps hk
end

theorem v_stays_real {D : DA} {h : Heap} : (V D h).StaysIn h := fun _ _ e => v_get e
theorem Cx.Ok.kindOf {C : Cx} {k nm} (O : C.Ok k nm) (x : Str) : C.env.kindOf x = nm.lookup x := by
  show C.env.scope.names.lookup x = _
  rw [O.names]

/-! ## lists of expressions -/
inductive LRes where
  | ok (vs : List AV)
  | exc (cls : String)

structure EvLOk (k : Nat) (nm : List (Str × NameKind)) (σ : List (Str × AV)) (δ : Draw) (es : List Expr) (r : LRes) (δ' : Draw) : Prop where
  plain : ∀ env, (starEach es env).any (·.1) = false
  run : ∀ (C : Cx) (s : Shared) (pos : Pos) (Q : List Value → Shared → Prop) (E : Value → Shared → Prop), C.Ok k nm → EvSt C σ δ s →
    (∀ vs avs s', r = .ok avs → Aft C s s' δ' → RdL C.w C.D s'.heap C.H vs avs → Q vs s') →
    (∀ e X s', r = .exc X → ExcAft C s s' X e δ' → E (.ref e) s') →
    wpAny (MM C.w) C.A (spliced (backTo pos (starEach es C.env))) Q E s

structure BOk (k : Nat) (op : Operator) (a b c : AV) : Prop where
  run : ∀ (C : Cx) (σ : List (Str × AV)) (δ : Draw) (s : Shared) (va vb : Value) (Q : Value → Shared → Prop) (E : Value → Shared → Prop) (nm : List (Str × NameKind)), C.Ok k nm → EvSt C σ δ s →
    Rd C.w C.D s.heap C.H va a → Rd C.w C.D s.heap C.H vb b → (∀ v s', Aft C s s' δ → Rd C.w C.D s'.heap C.H v c → Q v s') →
    wpAny (MM C.w) C.A (binaryOp op va vb) Q E s
structure POk (k : Nat) (op : CmpOp) (a b : AV) (c : Bool) : Prop where
  run : ∀ (C : Cx) (σ : List (Str × AV)) (δ : Draw) (s : Shared) (va vb : Value) (Q : Value → Shared → Prop) (E : Value → Shared → Prop) (nm : List (Str × NameKind)), C.Ok k nm → EvSt C σ δ s →
    Rd C.w C.D s.heap C.H va a → Rd C.w C.D s.heap C.H vb b → (∀ s', Aft C s s' δ → Q (.bool c) s') →
    wpAny (MM C.w) C.A (compareOp op va vb) Q E s
structure FOk (k : Nat) (f : Value) (vs : List AV) (r : AV) : Prop where
  run : ∀ (C : Cx) (σ : List (Str × AV)) (δ : Draw) (s : Shared) (vals : List Value) (Q : Value → Shared → Prop) (E : Value → Shared → Prop) (nm : List (Str × NameKind)), C.Ok k nm → EvSt C σ δ s →
    RdL C.w C.D s.heap C.H vals vs → (∀ v s', Aft C s s' δ → Rd C.w C.D s'.heap C.H v r → Q v s') →
    wpAny (MM C.w) C.A (call f vals) Q E s

section
variable {k : Nat} {nm : List (Str × NameKind)} {σ : List (Str × AV)} {δ δ1 δ2 δ3 : Draw}

theorem EvOk.none {kd pos} : EvOk k nm σ δ (.Constant .none kd pos) (.ok .none) δ := ⟨fun _ _ _ _ _ S hq _ => wpAny_Constant_none (hq _ _ _ rfl (Aft.refl S) .none)⟩
theorem EvOk.bool {b kd pos} : EvOk k nm σ δ (.Constant (.bool b) kd pos) (.ok (.bool b)) δ := ⟨fun _ _ _ _ _ S hq _ => wpAny_Constant_bool (hq _ _ _ rfl (Aft.refl S) (.bool b))⟩
theorem EvOk.int {i kd pos} : EvOk k nm σ δ (.Constant (.int i) kd pos) (.ok (.int i)) δ := ⟨fun _ _ _ _ _ S hq _ => wpAny_Constant_int (hq _ _ _ rfl (Aft.of_tok S) (.int _ _))⟩
theorem EvOk.str {i kd pos} : EvOk k nm σ δ (.Constant (.str i) kd pos) (.ok (.str i)) δ := ⟨fun _ _ _ _ _ S hq _ => wpAny_Constant_str (hq _ _ _ rfl (Aft.of_tok S) (.str _ _))⟩
theorem EvOk.bytes {i kd pos} : EvOk k nm σ δ (.Constant (.bytes i) kd pos) (.ok (.bytes i.toArray)) δ := ⟨fun _ _ _ _ _ S hq _ =>
  fun _ _ _ => hq _ _ _ rfl (Aft.of_tok S) (.bytes _ _)⟩

theorem EvOk.name {x pos av} (h : σ.lookup x = some av) (hd : (x == ("__debug__" : Str)) = false := by decide) : EvOk k nm σ δ (.Name x pos) (.ok av) δ := by
  constructor; intro C s Q E O S hq _
  obtain ⟨v, hn, hr⟩ := S.names x av h
  refine wpAny_Name ?_ hd
  have done : Q v s := hq _ _ _ rfl (Aft.refl S) hr
  rcases hn with ⟨hk, m, hns, hm⟩ | ⟨hk, c, hc, hi⟩
  · exact wpAny_loadName_local O.kind hk (hns.keeps v_stays_real) hm done
  · have hi' : s.heap.IsCell c (some v) := hi.keeps v_stays_real
    rcases hk with hk | ⟨hk, hne⟩
    · exact wpAny_loadName_cell O.kind hk hc hi' done
    · exact wpAny_loadName_free O.kind hk hc hi' done (by simpa using hne)

theorem EvOk.gname {x pos av} {v : World → Value} (n : GName x v) (hx : nm.lookup x = some .globalImplicit) (hr : ∀ (w : World) (D : DA) (h : Heap) (H : List Addr), Gl w (V D h) → (∀ a ∈ H, 154 < a) → Rd w D h H (v w) av) : EvOk k nm σ δ (.Name x pos) (.ok av) δ := by
  constructor; intro C s Q E O S hq _
  exact gname_eval S.gl v_stays_real n O.kind O.gl ((O.kindOf x).trans hx) (hq _ _ _ rfl (Aft.refl S) (hr _ _ _ _ S.gl fun a ha => (S.hid a ha).1))

theorem EvOk.bin {l op r pos a b c} (h1 : EvOk k nm σ δ l (.ok a) δ1) (h2 : EvOk k nm σ δ1 r (.ok b) δ2) (h3 : BOk k op a b c) : EvOk k nm σ δ (.BinOp l op r pos) (.ok c) δ2 := by
  constructor; intro C s Q E O S hq he
  refine wpAny_BinOp (h1.run C s _ _ O S (fun va av s1 e1 a1 r1 => ?_) fun e X s1 e1 _ => nomatch e1)
  cases e1
  refine h2.run C s1 _ _ O (S.aft O a1) (fun vb bv s2 e2 a2 r2 => ?_) fun e X s1 e1 _ => nomatch e1
  cases e2
  exact h3.run C σ _ s2 va vb _ _ nm O ((S.aft O a1).aft O a2) (a2.rd O r1) r2 fun v s3 a3 r3 => hq _ _ _ rfl ((a1.trans a2).trans a3) r3
theorem EvOk.binL {l op r pos X} (h1 : EvOk k nm σ δ l (.exc X) δ1) : EvOk k nm σ δ (.BinOp l op r pos) (.exc X) δ1 := by
  constructor; intro C s Q E O S hq he
  exact wpAny_BinOp (h1.run C s _ _ O S (fun va av s1 e1 a1 r1 => nomatch e1) fun e X s1 e1 x => he _ _ _ e1 x)
theorem EvOk.binR {l op r pos a X} (h1 : EvOk k nm σ δ l (.ok a) δ1) (h2 : EvOk k nm σ δ1 r (.exc X) δ2) : EvOk k nm σ δ (.BinOp l op r pos) (.exc X) δ2 := by
  constructor; intro C s Q E O S hq he
  refine wpAny_BinOp (h1.run C s _ _ O S (fun va av s1 e1 a1 r1 => ?_) fun e X s1 e1 _ => nomatch e1)
  exact h2.run C s1 _ _ O (S.aft O a1) (fun vb bv s2 e2 a2 r2 => nomatch e2) fun e X s1 e1 x => he _ _ _ e1 (ExcAft.after a1 x)

theorem EvOk.cmp {l op r pos a b c} (h1 : EvOk k nm σ δ l (.ok a) δ1) (h2 : EvOk k nm σ δ1 r (.ok b) δ2) (h3 : POk k op a b c) (hm : behindInMarks op r = false := by rfl) : EvOk k nm σ δ (.Compare l [op] [r] pos) (.ok (.bool c)) δ2 := by
  constructor; intro C s Q E O S hq he
  refine wpAny_Compare1 (h1.run C s _ _ O S (fun va av s1 e1 a1 r1 => ?_) fun e X s1 e1 _ => nomatch e1) hm
  cases e1
  refine h2.run C s1 _ _ O (S.aft O a1) (fun vb bv s2 e2 a2 r2 => ?_) fun e X s1 e1 _ => nomatch e1
  cases e2
  exact h3.run C σ _ s2 va vb _ _ nm O ((S.aft O a1).aft O a2) (a2.rd O r1) r2 fun s3 a3 => hq _ _ _ rfl ((a1.trans a2).trans a3) (.bool c)

theorem EvOk.ifT {t b o pos r} (h1 : ∀ C s Q E, C.Ok k nm → EvSt C σ δ s → (∀ s', Aft C s s' δ1 → Q true s') → wpAny (MM C.w) C.A (isTrue t C.env (eval t C.env)) Q E s) (h2 : EvOk k nm σ δ1 b r δ2) : EvOk k nm σ δ (.IfExp t b o pos) r δ2 := by
  constructor; intro C s Q E O S hq he
  refine wpAny_IfExp ?_
  refine h1 C s _ _ O S fun s1 a1 => ?_
  simp only [if_true]
  exact h2.run C s1 _ _ O (S.aft O a1) (fun v av s2 e2 a2 r2 => hq _ _ _ e2 (a1.trans a2) r2) fun e X s2 e2 x => he _ _ _ e2 (ExcAft.after a1 x)
theorem EvOk.ifF {t b o pos r} (h1 : ∀ C s Q E, C.Ok k nm → EvSt C σ δ s → (∀ s', Aft C s s' δ1 → Q false s') → wpAny (MM C.w) C.A (isTrue t C.env (eval t C.env)) Q E s) (h2 : EvOk k nm σ δ1 o r δ2) : EvOk k nm σ δ (.IfExp t b o pos) r δ2 := by
  constructor; intro C s Q E O S hq he
  refine wpAny_IfExp ?_
  refine h1 C s _ _ O S fun s1 a1 => ?_
  simp only [Bool.false_eq_true, if_false]
  exact h2.run C s1 _ _ O (S.aft O a1) (fun v av s2 e2 a2 r2 => hq _ _ _ e2 (a1.trans a2) r2) fun e X s2 e2 x => he _ _ _ e2 (ExcAft.after a1 x)
end
end Mine

namespace Mine
set_option maxRecDepth 100000

/-! ## tests -/
structure TOk (k : Nat) (nm : List (Str × NameKind)) (σ : List (Str × AV)) (δ : Draw) (t : Expr) (b : Bool) (δ' : Draw) : Prop where
  run : ∀ (C : Cx) (s : Shared) (Q : Bool → Shared → Prop) (E : Value → Shared → Prop), C.Ok k nm → EvSt C σ δ s →
    (∀ s', Aft C s s' δ' → Q b s') → wpAny (MM C.w) C.A (isTrue t C.env (eval t C.env)) Q E s

structure AllOk (k : Nat) (nm : List (Str × NameKind)) (op : BoolOp) (σ : List (Str × AV)) (δ : Draw) (ts : List Expr) (b : Bool) (δ' : Draw) : Prop where
  run : ∀ (C : Cx) (s : Shared) (Q : Bool → Shared → Prop) (E : Value → Shared → Prop), C.Ok k nm → EvSt C σ δ s →
    (∀ s', Aft C s s' δ' → Q b s') → wpAny (MM C.w) C.A (allTrue op ts C.env) Q E s

section
variable {k : Nat} {nm : List (Str × NameKind)} {σ : List (Str × AV)} {δ δ1 δ2 δ3 : Draw}

theorem TOk.cmp {l op r pos a b c} (h1 : EvOk k nm σ δ l (.ok a) δ1) (h2 : EvOk k nm σ δ1 r (.ok b) δ2) (h3 : POk k op a b c) (hm : behindInMarks op r = false := by rfl) : TOk k nm σ δ (.Compare l [op] [r] pos) c δ2 := by
  constructor; intro C s Q E O S hq
  refine wpAny_isTrue_Compare1 (h1.run C s _ _ O S (fun va av s1 e1 a1 r1 => ?_) fun e X s1 e1 _ => nomatch e1) hm
  cases e1
  refine h2.run C s1 _ _ O (S.aft O a1) (fun vb bv s2 e2 a2 r2 => ?_) fun e X s1 e1 _ => nomatch e1
  cases e2
  exact h3.run C σ _ s2 va vb _ _ nm O ((S.aft O a1).aft O a2) (a2.rd O r1) r2 fun s3 a3 => wpAny_truthy_bool (hq _ ((a1.trans a2).trans a3))

/-- a chain of two comparisons, the first one false -/
theorem TOk.chainF {l op1 op2 m r pos a b} (h1 : EvOk k nm σ δ l (.ok a) δ1) (h2 : EvOk k nm σ δ1 m (.ok b) δ2) (h3 : POk k op1 a b false) (hm : lastMarks [op1, op2] [m, r] = false := by rfl) :
    TOk k nm σ δ (.Compare l [op1, op2] [m, r] pos) false δ2 := by
  constructor; intro C s Q E O S hq
  refine isTrue_chain (h1.run C s _ _ O S (fun va av s1 e1 a1 r1 => ?_) fun e X s1 e1 _ => nomatch e1) hm
  cases e1
  refine test_link (h2.run C s1 _ _ O (S.aft O a1) (fun vb bv s2 e2 a2 r2 => ?_) fun e X s1 e1 _ => nomatch e1)
  cases e2
  exact h3.run C σ _ s2 va vb _ _ nm O ((S.aft O a1).aft O a2) (a2.rd O r1) r2 fun s3 a3 => wpAny_truthy_bool (hq _ ((a1.trans a2).trans a3))
theorem TOk.chainT {l op1 op2 m r pos a b c d} (h1 : EvOk k nm σ δ l (.ok a) δ1) (h2 : EvOk k nm σ δ1 m (.ok b) δ2) (h3 : POk k op1 a b true) (h4 : EvOk k nm σ δ2 r (.ok c) δ3) (h5 : POk k op2 b c d)
    (hm : lastMarks [op1, op2] [m, r] = false := by rfl) :
    TOk k nm σ δ (.Compare l [op1, op2] [m, r] pos) d δ3 := by
  constructor; intro C s Q E O S hq
  refine isTrue_chain (h1.run C s _ _ O S (fun va av s1 e1 a1 r1 => ?_) fun e X s1 e1 _ => nomatch e1) hm
  cases e1
  refine test_link (h2.run C s1 _ _ O (S.aft O a1) (fun vb bv s2 e2 a2 r2 => ?_) fun e X s1 e1 _ => nomatch e1)
  cases e2
  refine h3.run C σ _ s2 va vb _ _ nm O ((S.aft O a1).aft O a2) (a2.rd O r1) r2 fun s3 a3 => wpAny_truthy_bool ?_
  rw [if_pos rfl]
  have S3 := ((S.aft O a1).aft O a2).aft O a3
  refine test_last (h4.run C s3 _ _ O S3 (fun vc cv s4 e4 a4 r4 => ?_) fun e X s1 e1 _ => nomatch e1)
  cases e4
  exact h5.run C σ _ s4 vb vc _ _ nm O (S3.aft O a4) (a4.rd O (a3.rd O r2)) r4 fun s5 a5 => wpAny_truthy_bool (hq _ ((((a1.trans a2).trans a3).trans a4).trans a5))

theorem TOk.not {x pos b} (h : TOk k nm σ δ x b δ1) : TOk k nm σ δ (.UnaryOp .Not x pos) (!b) δ1 := by
  constructor; intro C s Q E O S hq
  exact wpAny_isTrue_Not (h.run C s _ _ O S fun s1 a1 => hq _ a1)

theorem TOk.val {t b} (h : EvOk k nm σ δ t (.ok (.bool b)) δ1) (he : ∀ env whole, isTrue t env whole = (do let v ← whole; standAt t.pos; holding [v] (truthy v)) := by intro _ _; rfl) : TOk k nm σ δ t b δ1 := by
  constructor; intro C s Q E O S hq
  refine wpAny_isTrue_value (h.run C s _ _ O S (fun va av s1 e1 a1 r1 => ?_) fun e X s1 e1 _ => nomatch e1) (he _ _)
  cases e1
  cases r1
  exact wpAny_truthy_bool (hq _ a1)

theorem AllOk.andNil : AllOk k nm .And σ δ [] true δ := ⟨fun _ _ _ _ _ S hq => wpAny_allTrue_And_nil (hq _ (Aft.refl S))⟩
theorem AllOk.orNil : AllOk k nm .Or σ δ [] false δ := ⟨fun _ _ _ _ _ S hq => wpAny_allTrue_Or_nil (hq _ (Aft.refl S))⟩
theorem AllOk.andF {t ts} (h : TOk k nm σ δ t false δ1) : AllOk k nm .And σ δ (t :: ts) false δ1 := ⟨fun C s Q E O S hq =>
  wpAny_allTrue_And_cons (h.run C s _ _ O S fun s1 a1 => by rw [if_neg Bool.false_ne_true]; exact hq _ a1)⟩
theorem AllOk.andT {t ts b} (h : TOk k nm σ δ t true δ1) (h2 : AllOk k nm .And σ δ1 ts b δ2) : AllOk k nm .And σ δ (t :: ts) b δ2 := ⟨fun C s Q E O S hq =>
  wpAny_allTrue_And_cons (h.run C s _ _ O S fun s1 a1 => by rw [if_pos rfl]; exact h2.run C s1 _ _ O (S.aft O a1) fun s2 a2 => hq _ (a1.trans a2))⟩
theorem AllOk.orT {t ts} (h : TOk k nm σ δ t true δ1) : AllOk k nm .Or σ δ (t :: ts) true δ1 := ⟨fun C s Q E O S hq =>
  wpAny_allTrue_Or_cons (h.run C s _ _ O S fun s1 a1 => by rw [if_pos rfl]; exact hq _ a1)⟩
theorem AllOk.orF {t ts b} (h : TOk k nm σ δ t false δ1) (h2 : AllOk k nm .Or σ δ1 ts b δ2) : AllOk k nm .Or σ δ (t :: ts) b δ2 := ⟨fun C s Q E O S hq =>
  wpAny_allTrue_Or_cons (h.run C s _ _ O S fun s1 a1 => by rw [if_neg Bool.false_ne_true]; exact h2.run C s1 _ _ O (S.aft O a1) fun s2 a2 => hq _ (a1.trans a2))⟩
theorem TOk.bool {op ts pos b} (h : AllOk k nm op σ δ ts b δ1) : TOk k nm σ δ (.BoolOp op ts pos) b δ1 := ⟨fun C s Q E O S hq => wpAny_isTrue_BoolOp (h.run C s _ _ O S hq)⟩

theorem EvOk.ifTrue {t b o pos r} (h1 : TOk k nm σ δ t true δ1) (h2 : EvOk k nm σ δ1 b r δ2) : EvOk k nm σ δ (.IfExp t b o pos) r δ2 := .ifT (fun C s Q E => h1.run C s Q E) h2
theorem EvOk.ifFalse {t b o pos r} (h1 : TOk k nm σ δ t false δ1) (h2 : EvOk k nm σ δ1 o r δ2) : EvOk k nm σ δ (.IfExp t b o pos) r δ2 := .ifF (fun C s Q E => h1.run C s Q E) h2

/-- the value of «a and b» where both are truths -/
theorem EvOk.and2T {x y pos r} (h1 : EvOk k nm σ δ x (.ok (.bool true)) δ1) (h2 : EvOk k nm σ δ1 y r δ2) : EvOk k nm σ δ (.BoolOp .And [x, y] pos) r δ2 := by
  constructor; intro C s Q E O S hq he
  refine wpAny_And2 (h1.run C s _ _ O S (fun va av s1 e1 a1 r1 => ?_) fun e X s1 e1 _ => nomatch e1)
  cases e1
  cases r1
  refine wpAny_truthy_bool ?_
  rw [if_pos rfl]
  exact h2.run C s1 _ _ O (S.aft O a1) (fun v av s2 e2 a2 r2 => hq _ _ _ e2 (a1.trans a2) r2) fun e X s2 e2 x => he _ _ _ e2 (ExcAft.after a1 x)
theorem EvOk.and2F {x y pos} (h1 : EvOk k nm σ δ x (.ok (.bool false)) δ1) : EvOk k nm σ δ (.BoolOp .And [x, y] pos) (.ok (.bool false)) δ1 := by
  constructor; intro C s Q E O S hq he
  refine wpAny_And2 (h1.run C s _ _ O S (fun va av s1 e1 a1 r1 => ?_) fun e X s1 e1 _ => nomatch e1)
  cases e1
  cases r1
  refine wpAny_truthy_bool ?_
  rw [if_neg Bool.false_ne_true]
  exact hq _ _ _ rfl a1 (.bool _)

theorem EvOk.notv {x pos b} (h : EvOk k nm σ δ x (.ok (.bool b)) δ1) : EvOk k nm σ δ (.UnaryOp .Not x pos) (.ok (.bool !b)) δ1 := by
  constructor; intro C s Q E O S hq he
  refine wpAny_UnaryOp (h.run C s _ _ O S (fun va av s1 e1 a1 r1 => ?_) fun e X s1 e1 _ => nomatch e1)
  cases e1
  cases r1
  exact not_value (wpAny_truthy_bool (hq _ _ _ rfl a1 (.bool _)))

/-! ## argument lists -/
theorem EvLOk.nil : EvLOk k nm σ δ [] (.ok []) δ :=
  ⟨fun _ => rfl, fun _ _ _ _ _ _ S hq _ => wpAny_items_nil (hq _ _ _ rfl (Aft.refl S) .nil)⟩
theorem EvLOk.cons {e es a as} (h1 : EvOk k nm σ δ e (.ok a) δ1) (h2 : EvLOk k nm σ δ1 es (.ok as) δ2) (hs : ∀ env, starEach (e :: es) env = (false, eval e env) :: starEach es env := by intro _; rfl) :
    EvLOk k nm σ δ (e :: es) (.ok (a :: as)) δ2 := by
  refine ⟨fun env => by rw [hs]; simpa using h2.plain env, fun C s pos Q E O S hq he => ?_⟩
  refine wpAny_items_cons (h1.run C s _ _ O S (fun va av s1 e1 a1 r1 => ?_) fun e X s1 e1 _ => nomatch e1) (hs _)
  cases e1
  refine h2.run C s1 pos _ _ O (S.aft O a1) (fun vs avs s2 e2 a2 r2 => ?_) fun e X s1 e1 _ => nomatch e1
  cases e2
  exact hq _ _ _ rfl (a1.trans a2) (.cons (a2.rd O r1) r2)
theorem EvLOk.excHere {e es X} (h1 : EvOk k nm σ δ e (.exc X) δ1) (h2 : ∀ env, (starEach es env).any (·.1) = false) (hs : ∀ env, starEach (e :: es) env = (false, eval e env) :: starEach es env := by intro _; rfl) :
    EvLOk k nm σ δ (e :: es) (.exc X) δ1 := by
  refine ⟨fun env => by rw [hs]; simpa using h2 env, fun C s pos Q E O S hq he => ?_⟩
  exact wpAny_items_cons (h1.run C s _ _ O S (fun va av s1 e1 a1 r1 => nomatch e1) fun e X s1 e1 x => by cases e1; exact he _ _ _ rfl x) (hs _)
theorem EvLOk.excLater {e es a X} (h1 : EvOk k nm σ δ e (.ok a) δ1) (h2 : EvLOk k nm σ δ1 es (.exc X) δ2) (hs : ∀ env, starEach (e :: es) env = (false, eval e env) :: starEach es env := by intro _; rfl) :
    EvLOk k nm σ δ (e :: es) (.exc X) δ2 := by
  refine ⟨fun env => by rw [hs]; simpa using h2.plain env, fun C s pos Q E O S hq he => ?_⟩
  refine wpAny_items_cons (h1.run C s _ _ O S (fun va av s1 e1 a1 r1 => ?_) fun e X s1 e1 _ => nomatch e1) (hs _)
  cases e1
  exact h2.run C s1 pos _ _ O (S.aft O a1) (fun vs avs s2 e2 a2 r2 => nomatch e2) fun e X s2 e2 x => by cases e2; exact he _ _ _ rfl (ExcAft.after a1 x)

theorem evalArgs_sp {M : Model} {A : Around} {E : Value → Shared → Prop} {s : Shared} {f : Value} {args : List (Bool × Sem Value)} {Q : Args → Shared → Prop} (hp : args.any (·.1) = false)
    (h : wpAny M A (spliced args) (fun vs s' => Q ⟨vs, []⟩ s') E s) : wpAny M A (evalArgs f true args []) Q E s := by
  match args, hp, h with
  | [], _, h =>
    unfold evalArgs
    show wpAny M A (spliced [] >>= _) Q E s
    refine wpAny_bind (wpAny_mono h (fun vs s' h' => ?_) fun _ _ x => x)
    refine wpAny_bind (wpAny_pure ?_)
    refine wpAny_holding ?_
    exact wpAny_bind (wpAny_pure (wpAny_bind (wpAny_pure (wpAny_pure h'))))
  | (false, x) :: rest, _, h => exact evalArgs_plain h
  | (true, x) :: rest, hp, _ => simp at hp

theorem any_backTo (pos : Pos) (l : List (Bool × Sem Value)) : (backTo pos l).any (·.1) = l.any (·.1) := by
  simp [backTo, Function.comp_def]

/-! ## calls -/
/-- the object of a def stands at f -/
noncomputable def IsFn (f : Addr) : Prop := ∀ w : World, ∃ o fd, (hd.heap_39 w.params).lookup f = some o ∧ o.data = .func fd

theorem EvOk.call {x np args pos f vs r} (hg : GName x fun _ => .ref f) (hx : nm.lookup x = some .globalImplicit) (hf : IsFn f) (ha : EvLOk k nm σ δ args (.ok vs) δ1) (hc : CallOk k f vs δ1 r δ2) :
    EvOk k nm σ δ (.Call (.Name x np) args [] pos) r δ2 := by
  constructor; intro C s Q E O S hq he
  refine wpAny_Call_ofName (gname_eval S.gl v_stays_real hg O.kind O.gl ((O.kindOf x).trans hx) ?_)
  obtain ⟨o, fd, ho, hfd⟩ := hf C.w
  refine callWith_function (o := o) (fd := fd) (evalArgs_sp (by rw [any_backTo]; exact ha.plain _) ?_)
  refine ha.run C s pos _ _ O S (fun vals avs s1 e1 a1 r1 => ?_) fun e X s1 e1 _ => nomatch e1
  cases e1
  have S1 := S.aft O a1
  refine ⟨⟨v_get (S1.gl.1 _ _ ho), hfd⟩, wpAny_call ?_⟩
  refine hc.run C.w C.D C.A C.base _ s1 C.H vals _ O.room O.fr S1.gl S1.base S1.ff S1.dr S1.hid O.dsub r1 (fun v av s2 e2 sm kp dr sz rr => ?_) fun e X s2 e2 sm up dr fl => ?_
  · exact hq _ _ _ e2 (a1.trans ⟨sm, kp, dr, sz⟩) rr
  · obtain ⟨a0, fl⟩ := fl
    exact he _ _ _ e2 (ExcAft.after a1 ⟨sm, up, dr, ⟨a0, .inl fl⟩⟩)
theorem EvOk.callArgs {x np args pos f X} (hg : GName x fun _ => .ref f) (hx : nm.lookup x = some .globalImplicit) (ha : EvLOk k nm σ δ args (.exc X) δ1) :
    EvOk k nm σ δ (.Call (.Name x np) args [] pos) (.exc X) δ1 := by
  constructor; intro C s Q E O S hq he
  refine wpAny_Call_ofName (gname_eval S.gl v_stays_real hg O.kind O.gl ((O.kindOf x).trans hx) ?_)
  refine callWith_function (o := default) (fd := default) (evalArgs_sp (by rw [any_backTo]; exact ha.plain _) ?_)
  exact ha.run C s pos _ _ O S (fun vals avs s1 e1 a1 r1 => nomatch e1) fun e X s1 e1 x => by cases e1; exact he _ _ _ rfl x

theorem callWith_any {M : Model} {A : Around} {E : Value → Shared → Prop} {s : Shared} {pos : Pos} {f : Value} {first : List Value} {args : List (Bool × Sem Value)} {Q : Value → Shared → Prop}
    (hk : ∀ a, f ≠ .ref a) (hplain : args.any (·.1) = false)
    (h : wpAny M A (spliced args) (fun vs s₁ => wpAny M A (call f (first ++ vs) []) Q E s₁) E s) :
    wpAny M A (callWith pos f first args []) Q E s := by
  unfold callWith
  refine wpAny_bind (wpAny_holding (evalArgs_sp hplain (wpAny_mono h (fun vs s₁ h₁ => wpAny_bind (wpAny_standAt ?_)) fun _ _ x => x)))
  have hk' : keeperOf f = pure .machine := by
    unfold keeperOf
    cases f <;> first | rfl | exact absurd rfl (hk _)
  rw [hk']
  simp only [hplain, List.any_nil, Bool.or_false]
  refine wpAny_bind (wpAny_pure ?_)
  exact wpAny_bind (wpAny_mono h₁ (fun r s₂ hr => wpAny_bind (wpAny_holding (wpAny_point (wpAny_pure hr)))) fun _ _ x => x)

theorem EvOk.bcall {x np args pos} {f : Value} {vs r} (hb : BName x f) (hx : nm.lookup x = some .globalImplicit) (hf : ∀ a, f ≠ .ref a) (ha : EvLOk k nm σ δ args (.ok vs) δ1) (hop : FOk k f vs r) :
    EvOk k nm σ δ (.Call (.Name x np) args [] pos) (.ok r) δ1 := by
  constructor; intro C s Q E O S hq he
  refine wpAny_Call_ofName (bname_eval S.gl v_stays_real hb O.kind O.gl O.bl ((O.kindOf x).trans hx) ?_)
  refine callWith_any hf (by rw [any_backTo]; exact ha.plain _) ?_
  refine ha.run C s pos _ _ O S (fun vals avs s1 e1 a1 r1 => ?_) fun e X s1 e1 _ => nomatch e1
  cases e1
  exact hop.run C σ _ s1 vals _ _ nm O (S.aft O a1) r1 fun v s2 a2 r2 => hq _ _ _ rfl (a1.trans a2) r2
theorem EvOk.bcallArgs {x np args pos} {f : Value} {X} (hb : BName x f) (hx : nm.lookup x = some .globalImplicit) (hf : ∀ a, f ≠ .ref a) (ha : EvLOk k nm σ δ args (.exc X) δ1) :
    EvOk k nm σ δ (.Call (.Name x np) args [] pos) (.exc X) δ1 := by
  constructor; intro C s Q E O S hq he
  refine wpAny_Call_ofName (bname_eval S.gl v_stays_real hb O.kind O.gl O.bl ((O.kindOf x).trans hx) ?_)
  refine callWith_any hf (by rw [any_backTo]; exact ha.plain _) ?_
  exact ha.run C s pos _ _ O S (fun vals avs s1 e1 a1 r1 => nomatch e1) fun e X s1 e1 x => by cases e1; exact he _ _ _ rfl x

/-- a method of a text or of octets -/
noncomputable def tyOf : AV → Option String
  | .str _ => some "str"
  | .bytes _ => some "bytes"
  | _ => none

theorem all_backTo (pos : Pos) (l : List (Bool × Sem Value)) (h : l.any (·.1) = false) : (backTo pos l).all (fun x => !x.1) = true := by
  rw [← Bool.not_eq_false', ← any_backTo pos] at *
  simpa [List.any_eq_false, Bool.not_eq_true] using h

theorem EvOk.meth {o name apos args pos a vs r T id} (ho : EvOk k nm σ δ o (.ok a) δ1) (ha : EvLOk k nm σ δ1 args (.ok vs) δ2) (hT : tyOf a = some T) (pa : PlainAttrs T) (slot : Slot T name id)
    (hty : typeOf (.builtin id) = pure (.type "method_descriptor")) (hop : FOk k (.builtin id) (a :: vs) r)
    (hbase : ∀ env, attributeBase o name env (eval o env) = eval o env := by intro _; rfl) (hline : (apos.endLine == pos.line) = true := by rfl) (hlen : args.length < 29 := by decide) :
    EvOk k nm σ δ (.Call (.Attribute o name apos) args [] pos) (.ok r) δ2 := by
  constructor; intro C s Q E O S hq he
  refine wpAny_Call_method_late (hbase _) ?_ hline rfl ?_
  · rw [all_backTo _ _ (ha.plain _)]
    simp [backToKw, keywordEach]
    omega
  refine ho.run C s _ _ O S (fun va av s1 e1 a1 r1 => ?_) fun e X s1 e1 _ => nomatch e1
  cases e1
  have hva : s1.TypeIs va T ∧ ∀ b, va ≠ .ref b := by
    cases r1 <;> simp [tyOf] at hT <;> subst hT <;> exact ⟨rfl, fun _ => nofun⟩
  refine ⟨T, id, pa, slot, hty, hva.1, fun b e => absurd e (hva.2 b), ?_⟩
  refine callWith_any (fun _ => nofun) (by rw [any_backTo]; exact ha.plain _) ?_
  refine ha.run C s1 pos _ _ O (S.aft O a1) (fun vals avs s2 e2 a2 r2 => ?_) fun e X s1 e1 _ => nomatch e1
  cases e2
  exact hop.run C σ _ s2 (va :: vals) _ _ nm O ((S.aft O a1).aft O a2) (.cons (a2.rd O r1) r2) fun v s3 a3 r3 => hq _ _ _ rfl ((a1.trans a2).trans a3) r3
end
end Mine

namespace Mine
set_option maxRecDepth 100000

section
variable {k : Nat}

/-! ## ints -/
theorem BOk.add {a b : Int} : BOk k .Add (.int a) (.int b) (.int (a + b)) := by
  constructor; intro C σ δ s va vb Q E nm O S ra rb hq; cases ra; cases rb
  exact PyProof.Rows.add_int (hq _ _ (Aft.of_tok S) (.int _ _))
theorem BOk.sub {a b : Int} : BOk k .Sub (.int a) (.int b) (.int (a - b)) := by
  constructor; intro C σ δ s va vb Q E nm O S ra rb hq; cases ra; cases rb
  exact PyProof.Rows.sub_int (hq _ _ (Aft.of_tok S) (.int _ _))
theorem BOk.mul {a b : Int} (h : IntMulOk a b) : BOk k .Mult (.int a) (.int b) (.int (a * b)) := by
  constructor; intro C σ δ s va vb Q E nm O S ra rb hq; cases ra; cases rb
  exact PyProof.Rows.mul_int (hq _ _ (Aft.of_tok S) (.int _ _)) h
theorem BOk.mod {a b : Int} (h : b ≠ 0) : BOk k .Mod (.int a) (.int b) (.int (a.fmod b)) := by
  constructor; intro C σ δ s va vb Q E nm O S ra rb hq; cases ra; cases rb
  exact PyProof.Rows.mod_int h (hq _ _ (Aft.of_tok S) (.int _ _))
theorem BOk.div {a b : Int} (h : b ≠ 0) (hp : Builtin.divisionGoesByPylong a b = false) : BOk k .FloorDiv (.int a) (.int b) (.int (a.fdiv b)) := by
  constructor; intro C σ δ s va vb Q E nm O S ra rb hq; cases ra; cases rb
  exact PyProof.Rows.floordiv_int h (hq _ _ (Aft.of_tok S) (.int _ _)) (.inl hp)
theorem BOk.pow {a b : Int} (h : 0 ≤ b) (h2 : b ≤ 1000000) (h3 : a.natAbs < 2 ^ 64) : BOk k .Pow (.int a) (.int b) (.int (a ^ b.toNat)) := by
  constructor; intro C σ δ s va vb Q E nm O S ra rb hq; cases ra; cases rb
  exact pow_int_small h h2 h3 (hq _ _ (Aft.of_tok S) (.int _ _))
theorem BOk.cat {a b : Str} (h : a.length + b.length ≤ sizeLine) : BOk k .Add (.str a) (.str b) (.str (a ++ b)) := by
  constructor; intro C σ δ s va vb Q E nm O S ra rb hq; cases ra; cases rb
  exact PyProof.Rows.add_str (fun t' tk => hq _ _ (Aft.of_tok S) (.str _ _)) h

/-! ## comparisons -/
theorem POk.eqI {a b : Int} : POk k .Eq (.int a) (.int b) (a == b) := by
  constructor; intro C σ δ s va vb Q E nm O S ra rb hq; cases ra; cases rb
  exact PyProof.Rows.eq_int (hq _ (Aft.refl S))
theorem POk.neI {a b : Int} : POk k .NotEq (.int a) (.int b) (a != b) := by
  constructor; intro C σ δ s va vb Q E nm O S ra rb hq; cases ra; cases rb
  exact PyProof.Rows.ne_int (hq _ (Aft.refl S))
theorem POk.ltI {a b : Int} : POk k .Lt (.int a) (.int b) (decide (a < b)) := by
  constructor; intro C σ δ s va vb Q E nm O S ra rb hq; cases ra; cases rb
  exact PyProof.Rows.lt_int (hq _ (Aft.refl S))
theorem POk.leI {a b : Int} : POk k .LtE (.int a) (.int b) (decide (a ≤ b)) := by
  constructor; intro C σ δ s va vb Q E nm O S ra rb hq; cases ra; cases rb
  exact PyProof.Rows.le_int (hq _ (Aft.refl S))
theorem POk.gtI {a b : Int} : POk k .Gt (.int a) (.int b) (decide (b < a)) := by
  constructor; intro C σ δ s va vb Q E nm O S ra rb hq; cases ra; cases rb
  exact PyProof.Rows.gt_int (hq _ (Aft.refl S))
theorem POk.geI {a b : Int} : POk k .GtE (.int a) (.int b) (decide (b ≤ a)) := by
  constructor; intro C σ δ s va vb Q E nm O S ra rb hq; cases ra; cases rb
  exact PyProof.Rows.ge_int (hq _ (Aft.refl S))
theorem POk.eqS {a b : Str} : POk k .Eq (.str a) (.str b) (a == b) := by
  constructor; intro C σ δ s va vb Q E nm O S ra rb hq; cases ra; cases rb
  exact PyProof.Rows.eq_str (hq _ (Aft.refl S))
theorem POk.neS {a b : Str} : POk k .NotEq (.str a) (.str b) (a != b) := by
  constructor; intro C σ δ s va vb Q E nm O S ra rb hq; cases ra; cases rb
  exact PyProof.Rows.ne_str (hq _ (Aft.refl S))
theorem POk.inS {c : Nat} {b : Str} : POk k .In (.str ⟨#[c]⟩) (.str b) (decide (c ∈ b.cps.toList)) := by
  constructor; intro C σ δ s va vb Q E nm O S ra rb hq; cases ra; cases rb
  exact PyProof.Rows.in_str (by rw [StrLaws.found_one]; exact hq _ (Aft.refl S))

noncomputable def AV.isNone : AV → Bool
  | .none => true
  | _ => false
noncomputable def AV.isB (b : Bool) : AV → Bool
  | .bool c => c == b
  | _ => false
theorem POk.isNone {a : AV} : POk k .Is a .none a.isNone := by
  constructor; intro C σ δ s va vb Q E nm O S ra rb hq; cases rb
  refine is_none_gen ?_
  cases ra <;> exact hq _ (Aft.refl S)
theorem POk.isB {a : AV} {b : Bool} : POk k .Is a (.bool b) (a.isB b) := by
  constructor; intro C σ δ s va vb Q E nm O S ra rb hq; cases rb
  cases ra with
  | bool c =>
    refine is_bool ?_
    exact hq _ (Aft.refl S)
  | _ => exact wpAny_is_other rfl (by intro x; cases x) (hq _ (Aft.refl S))

/-! ## looking into a dict -/
noncomputable def getE {K : Type} [DecidableEq K] (es : List (K × AV)) (x : K) : Option AV := (es.find? fun p => p.1 = x).map (·.2)

theorem valueAt_rd {w D h H} {K : Type} [DecidableEq K] : ∀ {kvs : List (K × Value)} {es : List (K × AV)}, kvs.map (·.1) = es.map (·.1) → RdL w D h H (kvs.map (·.2)) (es.map (·.2)) →
    ∀ x, (valueAt kvs x = none ∧ getE es x = none) ∨ ∃ v av, valueAt kvs x = some v ∧ getE es x = some av ∧ Rd w D h H v av
  | [], [], _, _, _ => .inl ⟨rfl, rfl⟩
  | [], _ :: _, e, _, _ => by simp at e
  | _ :: _, [], e, _, _ => by simp at e
  | (a, v) :: kvs, (b, av) :: es, e, r, x => by
    simp only [List.map_cons, List.cons.injEq] at e r
    obtain ⟨rfl, e⟩ := e
    cases r with | cons r1 r2 =>
    by_cases hx : a = x
    · exact .inr ⟨v, av, by simp [valueAt, hx], by simp [getE, hx], r1⟩
    · have := valueAt_rd e r2 x
      simpa [valueAt, getE, hx] using this

theorem ne_sys {a : Addr} (h : a ≠ sysModules) : (a == sysModules) = false := beq_eq_false_iff_ne.mpr h

theorem POk.inD {x : Str} {es : List (Str × AV)} : POk k .In (.str x) (.dict es) (getE es x).isSome := by
  constructor; intro C σ δ s va vb Q E nm O S ra rb hq; cases ra; cases rb with | dict h1 h2 h3 h4 h5 =>
  refine wpAny_in_of (knd := PySem.strKind pw C.w) (k := x) (by simp [PySem.strKind, Value.isStrOf]) (ne_sys h3) h1.mapOf ?_
  rcases valueAt_rd h4 h5 x with ⟨e1, e2⟩ | ⟨v, av, e1, e2, _⟩
  · rw [e1]; have := hq { s with toks := s.toks + 1 } (Aft.of_tok S); rw [e2] at this; exact this
  · rw [e1]; have := hq { s with toks := s.toks + 1 } (Aft.of_tok S); rw [e2] at this; exact this
theorem POk.inI {x : Int} {es : List (Int × AV)} : POk k .In (.int x) (.idict es) (getE es x).isSome := by
  constructor; intro C σ δ s va vb Q E nm O S ra rb hq; cases ra; cases rb with | idict h1 h2 h3 h4 h5 =>
  refine wpAny_in_of (knd := PySem.intKind pw C.w) (k := x) (by simp [PySem.intKind, Value.isInt]) (ne_sys h3) h1.mapOf ?_
  rcases valueAt_rd h4 h5 x with ⟨e1, e2⟩ | ⟨v, av, e1, e2, _⟩
  · rw [e1]; have := hq { s with toks := s.toks + 1 } (Aft.of_tok S); rw [e2] at this; exact this
  · rw [e1]; have := hq { s with toks := s.toks + 1 } (Aft.of_tok S); rw [e2] at this; exact this

/-! ## items -/
structure GOk (k : Nat) (a b c : AV) : Prop where
  run : ∀ (C : Cx) (σ : List (Str × AV)) (δ : Draw) (s : Shared) (va vb : Value) (Q : Value → Shared → Prop) (E : Value → Shared → Prop) (nm : List (Str × NameKind)), C.Ok k nm → EvSt C σ δ s →
    Rd C.w C.D s.heap C.H va a → Rd C.w C.D s.heap C.H vb b → (∀ v s', Aft C s s' δ → Rd C.w C.D s'.heap C.H v c → Q v s') →
    ItemOn (MM C.w) C.A E va vb Q s

theorem Sub_any {prog : Program} {w : World} {A : Around} {E : Value → Shared → Prop} {s : Shared} {env : Env} {value slice pos} {Q : Value → Shared → Prop}
    (h : wpAny (model prog w) A (eval value env) (fun o s₁ => wpAny (model prog w) A (eval slice env) (fun i s₂ => ItemOn (model prog w) A E o i Q s₂) E s₁) E s) :
    wpAny (model prog w) A (eval (.Subscript value slice pos) env) Q E s := by
  rw [eval_Subscript]
  refine wpAny_bind (wpAny_mono h (fun o s₁ h₁ => wpAny_bind (wpAny_holding (wpAny_mono h₁ (fun i s₂ h₂ => wpAny_bind (wpAny_standAt ?_)) fun _ _ x => x))) fun _ _ x => x)
  obtain ⟨T, id, hl, hT, hg⟩ := h₂
  refine wpAny_bind ?_
  rw [getitemInPython_of_ne hT.not_modules]
  refine wpAny_bind (wpAny_specialOf hT hl ?_)
  have fin : wpAny (model prog w) A (subscripted slice false o i) (fun r s₃ => wpAny (model prog w) A (letTemporaryGo value o r >>= fun _ => pure r) Q E s₃) E s₂ := by
    have e : ∃ ops, subscripted slice false o i = operate ops (getItem o i) := by
      unfold subscripted
      split <;> first | exact ⟨_, rfl⟩ | contradiction
    obtain ⟨ops, e⟩ := e
    rw [e]
    exact wpAny_operating (wpAny_mono hg (fun r s₃ h₃ => wpAny_bind (wpAny_letTemporaryGo (wpAny_pure h₃))) fun _ _ x => x)
  first
    | exact wpAny_pure (wpAny_bind fin)
    | exact wpAny_bind (wpAny_pure (wpAny_bind fin))
    | exact wpAny_bind fin

variable {nm : List (Str × NameKind)} {σ : List (Str × AV)} {δ δ1 δ2 δ3 : Draw}
theorem EvOk.sub {v i pos a b c} (h1 : EvOk k nm σ δ v (.ok a) δ1) (h2 : EvOk k nm σ δ1 i (.ok b) δ2) (h3 : GOk k a b c) : EvOk k nm σ δ (.Subscript v i pos) (.ok c) δ2 := by
  constructor; intro C s Q E O S hq he
  refine Sub_any (h1.run C s _ _ O S (fun va av s1 e1 a1 r1 => ?_) fun e X s1 e1 _ => nomatch e1)
  cases e1
  refine h2.run C s1 _ _ O (S.aft O a1) (fun vb bv s2 e2 a2 r2 => ?_) fun e X s1 e1 _ => nomatch e1
  cases e2
  exact h3.run C σ _ s2 va vb _ _ nm O ((S.aft O a1).aft O a2) (a2.rd O r1) r2 fun v s3 a3 r3 => hq _ _ _ rfl ((a1.trans a2).trans a3) r3

theorem GOk.str {x : Str} {i : Int} {c : Nat} (h0 : 0 ≤ i) (h1 : i < 2 ^ 63) (hc : x.cps[i.toNat]? = some c) : GOk k (.str x) (.int i) (.str ⟨#[c]⟩) := by
  constructor; intro C σ δ s va vb Q E nm O S ra rb hq; cases ra; cases rb
  have hlt : i.toNat < x.cps.size := (Array.getElem?_eq_some_iff.mp hc).1
  refine ⟨"str", _, F.slot_str_getitem.lookup, typeIs_str _ _ _, P.getItem_str (c := c) ?_ ?_ (hq _ _ (Aft.of_tok S) (.str _ _))⟩
  · have a1 : ¬ (i < -(2 ^ 63 : Int)) := by omega
    have a2 : ¬ (i ≥ (2 ^ 63 : Int)) := by omega
    rw [decide_eq_false a1, decide_eq_false a2]; rfl
  · have e : seqIndex? i x.length = some i.toNat := by
      have hn : ¬ i < 0 := by omega
      have hl : i.toNat < x.length := hlt
      unfold seqIndex?
      simp [hn]
      omega
    rw [e]; exact hc
theorem GOk.list {xs : List AV} {i : Int} {c : AV} (h0 : 0 ≤ i) (h1 : i < 2 ^ 63) (hc : xs[i.toNat]? = some c) : GOk k (.list xs) (.int i) c := by
  constructor; intro C σ δ s va vb Q E nm O S ra rb hq; cases rb; cases ra with | list g1 g2 gs g3 =>
  obtain ⟨v, hv, hr⟩ := g3.get hc
  exact ⟨"list", _, slot_list_getitem.lookup, g1.typeIs, wpAny_getItem_list g1 h0 h1 (by simpa using hv) (hq _ _ (Aft.refl S) hr)⟩
theorem GOk.dict {es : List (Str × AV)} {x : Str} {c : AV} (hc : getE es x = some c) : GOk k (.dict es) (.str x) c := by
  constructor; intro C σ δ s va vb Q E nm O S ra rb hq; cases rb; cases ra with | dict h1 h2 h3 h4 h5 =>
  rcases valueAt_rd h4 h5 x with ⟨e1, e2⟩ | ⟨v, av, e1, e2, hr⟩
  · rw [e2] at hc; cases hc
  · rw [e2] at hc; cases hc
    exact ⟨"dict", _, slot_dict_getitem.lookup, h1.mapOf.typeIs, wpAny_getItem_of (knd := PySem.strKind pw C.w) (k := x) (by simp [PySem.strKind, Value.isStrOf]) h1.mapOf e1 (hq _ _ (Aft.of_tok S) hr)⟩
theorem GOk.idict {es : List (Int × AV)} {x : Int} {c : AV} (hc : getE es x = some c) : GOk k (.idict es) (.int x) c := by
  constructor; intro C σ δ s va vb Q E nm O S ra rb hq; cases rb; cases ra with | idict h1 h2 h3 h4 h5 =>
  rcases valueAt_rd h4 h5 x with ⟨e1, e2⟩ | ⟨v, av, e1, e2, hr⟩
  · rw [e2] at hc; cases hc
  · rw [e2] at hc; cases hc
    exact ⟨"dict", _, slot_dict_getitem.lookup, h1.mapOf.typeIs, wpAny_getItem_of (knd := PySem.intKind pw C.w) (k := x) (by simp [PySem.intKind, Value.isInt]) h1.mapOf e1 (hq _ _ (Aft.of_tok S) hr)⟩
end
end Mine

namespace Mine
set_option maxRecDepth 100000

/-! ## exceptions on their way -/
noncomputable def ExcFresh (C : Cx) (X : String) (e : Addr) (h : Heap) : Prop :=
  C.base.StaysIn h ∧ C.base.get? e = none ∧ h.FunFrames C.base (C.fenv :: C.outer) ∧
    ∃ a0 oe vs, h.get? e = some oe ∧ oe.cls = .type X ∧ oe.data = .fields vs ∧ vs[0]? = some a0 ∧ vs[1]? = some .none
noncomputable def ExcAny (C : Cx) (X : String) (e : Addr) (h : Heap) : Prop := ExcAt C X e h ∨ ExcFresh C X e h
noncomputable def ExcHeld (C : Cx) (X : String) (e : Addr) (h : Heap) : Prop := ∃ a0, Heap.HeldW C.base (C.fenv :: C.outer) e (.type X) a0 C.Lf h

section
variable {C : Cx} {k : Nat} {nm : List (Str × NameKind)} {X : String} {e : Addr} {M : Model} {s : Shared} {E : Value → Shared → Prop}

theorem noteAny {Q : Unit → Shared → Prop} (fr : C.A.frames = some (C.fenv :: C.outer)) (ff : C.fenv.frame = some C.Lf) (x : ExcAny C X e s.heap)
    (hQ : ∀ h', ExcHeld C X e h' → s.heap.UpToSlots h' → Q () { s with heap := h' }) : wpAny M C.A (noteFrame (.ref e) C.fenv) Q E s := by
  rcases x with ⟨a0, x | x | ⟨fl, kb, en, ff', tr⟩⟩ | ⟨kb, en, fl, a0, oe, vs, he, hc, hd, h0, h1⟩
  · exact wpAny_looks_onW fr ff x fun h' hh u => hQ h' ⟨a0, hh⟩ u
  · exact wpAny_noteFrame_againW ff x.2.2.2 (hQ s.heap ⟨a0, x⟩ (Heap.UpToSlots.refl _))
  · obtain ⟨oe, vs, T, oT, ts, he, hcls, hd, h1, hnT, hTe, hT, hdT, h3⟩ := id tr
    by_cases hfl : fl = rawInt C.Lf
    · subst hfl
      exact wpAny_noteFrame_againW ff tr (hQ s.heap ⟨a0, kb, en, ff', tr⟩ (Heap.UpToSlots.refl _))
    · unfold noteFrame
      simp only [ff]
      refine wpAny_bind (wpAny_field he hd h1 ?_)
      rw [if_pos (show (Value.ref T != Value.none) = true from by simp)]
      refine wpAny_bind (wpAny_field hT hdT h3 ?_)
      rw [if_neg (show ¬ ((fl == rawInt C.Lf) = true) from fun q => hfl (eq_of_beq q))]
      refine wpAny_bind (wpAny_setField hT hdT (Array.getElem?_eq_some_iff.mp h3).1 ?_)
      have other : ∀ b, b ≠ T → (s.heap.update T (Obj.mapFields (·.setIfInBounds 3 Value.none))).get? b = s.heap.get? b := fun b hb => Heap.get?_update_other _ _ (Ne.symm hb)
      have plain : ∀ b o, s.heap.get? b = some o → (∀ vs, o.data ≠ .fields vs) → b ≠ T := fun b o hb hnf q => by
        rw [q, hT] at hb; cases hb; exact hnf ts hdT
      refine wpAny_entryW fr (ff'.of_keeps fun b o hb hnf => ⟨o, (other b (plain b o hb hnf)).trans hb, rfl⟩) ff ((other e (Ne.symm hTe)).trans he)
        (fun b o hbo => (other b fun q => by rw [q, hnT] at hbo; cases hbo).trans (kb b o hbo)) en hd (Array.getElem?_eq_some_iff.mp h1).1 hcls.2 fun h' hN => ?_
      obtain ⟨k1, k2, k3, k4⟩ := hN
      rw [hcls.1] at k3
      exact hQ h' ⟨a0, k1, en, k2, k3⟩ fun b o hb hnf => k4 b o ((other b (plain b o hb hnf)).trans hb) hnf
  · unfold noteFrame
    simp only [ff]
    refine wpAny_bind (wpAny_field he hd h1 ?_)
    rw [if_neg (by decide)]
    refine wpAny_entryW fr fl ff he kb en hd (Array.getElem?_eq_some_iff.mp h1).1 h0 fun h' hN => ?_
    obtain ⟨k1, k2, k3, k4⟩ := hN
    rw [hc] at k3
    exact hQ h' ⟨a0, k1, en, k2, k3⟩ k4

theorem leaveAny {Q : Unit → Shared → Prop} (fr : C.A.frames = some (C.fenv :: C.outer)) (ff : C.fenv.frame = some C.Lf) (x : ExcAny C X e s.heap)
    (hQ : ∀ h', (∃ a0, Heap.FlyingW C.base C.outer e (.type X) a0 h') → s.heap.UpToSlots h' → Q () { s with heap := h' }) : wpAny M C.A (leaving C.fenv (.ref e)) Q E s := by
  unfold leaving
  refine wpAny_bind (noteAny fr ff x fun h1 hh u => ?_)
  obtain ⟨a0, hh⟩ := hh
  refine wpAny_landsW hh fun h2 hfl u2 => ?_
  obtain ⟨k1, k2, ⟨_, _, k3⟩, k4⟩ := hfl
  exact hQ h2 ⟨a0, k1, k2, k3, k4⟩ (u.trans u2)

theorem cameBack (env : Env) {E : Value → Shared → Prop} {A : Around} (ef : env.frame = some C.Lf) (x : ExcHeld C X e s.heap) (hE : ∀ h', ExcHeld C X e h' → s.heap.UpToSlots h' → E (.ref e) { s with heap := h' }) :
    cameBackBy M A env E (.ref e) s := by
  obtain ⟨a0, kb, en, fl, oe, vs, T, oT, ts, he, hcls, hd, h1, hnT, hTe, hT, hdT, h3⟩ := x
  have hsz3 : 3 < ts.size := (Array.getElem?_eq_some_iff.mp h3).1
  have other : ∀ b, b ≠ T → (s.heap.update T (Obj.mapFields (·.setIfInBounds 3 ((some C.Lf : Option Addr).elim Value.none fun f => rawInt f)))).get? b = s.heap.get? b :=
    fun b hb => Heap.get?_update_other _ _ (Ne.symm hb)
  have noRecord : ∀ b o, s.heap.get? b = some o → (∀ vs, o.data ≠ .fields vs) → b ≠ T := fun b o hb hnf q => by
    rw [q, hT] at hb; injection hb with hb; subst hb; exact hnf ts hdT
  unfold cameBackBy
  rw [ef]
  refine wpAny_bind (wpAny_field he hd h1 ?_)
  rw [if_neg (show ¬ (Value.ref T == Value.none) = true from by simp)]
  unfold setFlight
  refine wpAny_bind (wpAny_field he hd h1 ?_)
  rw [if_pos (show (Value.ref T != Value.none) = true from by simp)]
  refine wpAny_setField hT hdT hsz3 (hE _ ⟨a0, fun b o hbo => (other b fun q => by rw [q, hnT] at hbo; cases hbo).trans (kb b o hbo), en,
    fl.of_keeps fun b o hb hnf => ⟨o, (other b (noRecord b o hb hnf)).trans hb, rfl⟩, ?_⟩ fun b o hb hnf => ⟨o.slots, (other b (noRecord b o hb hnf)).trans hb⟩)
  exact ⟨oe, vs, T, _, _, (other e (Ne.symm hTe)).trans he, hcls, hd, h1, hnT, hTe, Heap.get?_update_self _ hT (Obj.isFreed_of_fields (Obj.data_mapFields hdT _)), Obj.data_mapFields hdT _, by simp [hsz3]⟩
end

/-! ## statements -/
inductive LV where
  | val (v : AV)
  | own (xs : List AV)
  | ownD (es : List (Str × AV))
noncomputable abbrev Loc := List (Str × LV)

inductive Out where
  | next | cont
  | ret (v : AV)
  | exc (X : String)

structure FCx where
  C : Cx
  h0 : Heap
  s0 : Shared

structure FCx.Ok (F : FCx) (k : Nat) (nm : List (Str × NameKind)) : Prop where
  c : F.C.Ok k nm
  ee : F.C.env = F.C.fenv
  loc : F.C.env.locals = F.C.Lf
  h0n : F.h0.get? F.C.Lf = none
  cells : ∀ x c, F.C.env.cells.lookup x = some c → c ≠ F.C.Lf
  gl0 : Gl F.C.w F.h0
  base0 : F.C.base.StaysIn F.h0
  ff0 : F.h0.FunFrames F.C.base F.C.outer
  lfH : F.C.Lf ∈ F.C.H
  szL : F.s0.heap.objs.size ≤ F.C.Lf

/-- what a local name holds -/
noncomputable def LvIs (F : FCx) (O : List Addr) (m : Str → Option Value) (s : Shared) (x : Str) : LV → Prop
  | .val av => ∃ v, ((F.C.env.kindOf x = some .local ∧ m x = some v) ∨
      ((F.C.env.kindOf x = some .cell ∨ (F.C.env.kindOf x = some .free ∧ x ≠ "__classdict__")) ∧ ∃ c, F.C.env.cells.lookup x = some c ∧ (F.C.v s).IsCell c (some v))) ∧ Rd F.C.w F.C.D s.heap (F.C.H ++ O) v av
  | .own xs => F.C.env.kindOf x = some .local ∧ ∃ a items, m x = some (.ref a) ∧ a ∈ O ∧ PlainL s.heap a items ∧ RdL F.C.w F.C.D s.heap (F.C.H ++ O) items.toList xs
  | .ownD es => F.C.env.kindOf x = some .local ∧ ∃ a kvs, m x = some (.ref a) ∧ a ∈ O ∧ s.heap.DictOf (PySem.strKind pw F.C.w) a kvs ∧ a ≠ sysModules ∧ kvs.map (·.1) = es.map (·.1) ∧
      RdL F.C.w F.C.D s.heap (F.C.H ++ O) (kvs.map (·.2)) (es.map (·.2))

noncomputable def LV.owned : LV → Bool
  | .val _ => false
  | _ => true

structure StSt (F : FCx) (O : List Addr) (ℓ : Loc) (δ : Draw) (s : Shared) : Prop where
  same : Same F.s0 s
  dr : DrawAt F.C.w F.C.D s.heap δ
  h0 : F.h0.StaysIn (F.C.v s)
  hid : ∀ a ∈ F.C.H, 154 < a ∧ a < s.heap.objs.size
  cel : ∀ x c, F.C.env.cells.lookup x = some c → c < s.heap.objs.size
  own : ∀ a ∈ O, a ∉ F.C.H ∧ F.h0.get? a = none ∧ 154 < a ∧ a < s.heap.objs.size
  nml : ∃ m, (F.C.v s).Ns F.C.Lf m ∧ (∀ x lv, ℓ.lookup x = some lv → LvIs F O m s x lv) ∧
    (∀ x y lx ly a, ℓ.lookup x = some lx → ℓ.lookup y = some ly → lx.owned = true → ly.owned = true → m x = some (.ref a) → m y = some (.ref a) → x = y)

/-- what an expression may see: everything -/
noncomputable def peek : Loc → List (Str × AV)
  | [] => []
  | (x, .val v) :: r => (x, v) :: peek r
  | (x, .own xs) :: r => (x, .list xs) :: peek r
  | (x, .ownD es) :: r => (x, .dict es) :: peek r
/-- what an expression may see whose result is kept -/
noncomputable def vals : Loc → List (Str × AV)
  | [] => []
  | (x, .val v) :: r => (x, v) :: vals r
  | (x, _) :: r => (vals r).filter fun p => p.1 != x

theorem peek_lookup {x : Str} {v : AV} : ∀ {ℓ : Loc}, (peek ℓ).lookup x = some v → ∃ lv, ℓ.lookup x = some lv ∧ (lv = .val v ∨ (∃ xs, lv = .own xs ∧ v = .list xs) ∨ ∃ es, lv = .ownD es ∧ v = .dict es)
  | [], h => by simp [peek] at h
  | (y, lv) :: r, h => by
    by_cases hx : (x == y) = true
    · refine ⟨lv, by rw [List.lookup_cons, hx], ?_⟩
      cases lv <;> simp [peek, List.lookup_cons, hx] at h <;> subst h
      · exact .inl rfl
      · exact .inr (.inl ⟨_, rfl, rfl⟩)
      · exact .inr (.inr ⟨_, rfl, rfl⟩)
    · have hx' : (x == y) = false := by simpa using hx
      have : (peek r).lookup x = some v := by
        cases lv <;> simpa [peek, List.lookup_cons, hx'] using h
      obtain ⟨lv', e, r'⟩ := peek_lookup this
      exact ⟨lv', by rw [List.lookup_cons, hx']; exact e, r'⟩

theorem lookup_filter_ne {x y : Str} {v : AV} : ∀ {l : List (Str × AV)}, (l.filter fun p => p.1 != y).lookup x = some v → x ≠ y ∧ l.lookup x = some v
  | [], h => by simp at h
  | (z, u) :: r, h => by
    by_cases hz : z = y
    · subst hz
      have h' : (r.filter fun p => p.1 != z).lookup x = some v := by simpa using h
      obtain ⟨h1, h2⟩ := lookup_filter_ne h'
      exact ⟨h1, by rw [List.lookup_cons, beq_eq_false_iff_ne.mpr h1]; exact h2⟩
    · have hz' : (z != y) = true := by simpa using hz
      rw [List.filter_cons, if_pos hz', List.lookup_cons] at h
      rw [List.lookup_cons]
      cases hx : x == z with
      | true =>
        rw [hx] at h
        have : x = z := by simpa using hx
        exact ⟨this ▸ hz, h⟩
      | false => rw [hx] at h; exact lookup_filter_ne h

theorem vals_lookup {x : Str} {v : AV} : ∀ {ℓ : Loc}, (vals ℓ).lookup x = some v → ℓ.lookup x = some (.val v)
  | [], h => by simp [vals] at h
  | (y, lv) :: r, h => by
    cases lv with
    | val u =>
      rw [vals, List.lookup_cons] at h
      rw [List.lookup_cons]
      cases hx : x == y with
      | true => rw [hx] at h; simpa using h
      | false => rw [hx] at h; exact vals_lookup h
    | own xs =>
      obtain ⟨h1, h2⟩ := lookup_filter_ne (l := vals r) h
      rw [List.lookup_cons, beq_eq_false_iff_ne.mpr h1]; exact vals_lookup h2
    | ownD es =>
      obtain ⟨h1, h2⟩ := lookup_filter_ne (l := vals r) h
      rw [List.lookup_cons, beq_eq_false_iff_ne.mpr h1]; exact vals_lookup h2

/-- the context with the owned lists hidden -/
noncomputable def Cx.hide (C : Cx) (O : List Addr) : Cx := { C with H := C.H ++ O }
theorem Cx.Ok.hide {C : Cx} {k nm} (O : C.Ok k nm) (l : List Addr) : (C.hide l).Ok k nm :=
  ⟨O.room, O.fr, O.ff, O.ef, O.kind, O.names, O.gl, O.bl, fun a ha => List.mem_append_left _ (O.dsub a ha)⟩

section
variable {F : FCx} {O : List Addr} {ℓ : Loc} {δ δ' : Draw} {s s' : Shared} {k : Nat} {nm : List (Str × NameKind)}

/-- an expression whose result is kept -/
theorem StSt.gl (K : F.Ok k nm) (S : StSt F O ℓ δ s) : Gl F.C.w (F.C.v s) := K.gl0.keeps S.h0
theorem StSt.base (K : F.Ok k nm) (S : StSt F O ℓ δ s) : F.C.base.StaysIn (F.C.v s) := stays_trans K.base0 S.h0
theorem base_lf (K : F.Ok k nm) : F.C.base.get? F.C.Lf = none := by
  cases q : F.C.base.get? F.C.Lf with
  | none => rfl
  | some o => have := K.base0 _ _ q; rw [K.h0n] at this; cases this
theorem ff_of (K : F.Ok k nm) {h : Heap} (h0 : F.h0.StaysIn h) {m} (hn : h.Ns F.C.Lf m) : h.FunFrames F.C.base (F.C.fenv :: F.C.outer) := by
  obtain ⟨o, es, ep, ho, hd, _⟩ := hn
  refine ⟨by rw [← K.ee, K.c.kind]; decide, ⟨F.C.Lf, o, K.c.ff, base_lf K, ho, fun vs q => by rw [hd] at q; cases q⟩, funFrames_keeps h0 K.ff0⟩
theorem StSt.ff (K : F.Ok k nm) (S : StSt F O ℓ δ s) : (F.C.v s).FunFrames F.C.base (F.C.fenv :: F.C.outer) :=
  let ⟨_, hn, _⟩ := S.nml; ff_of K S.h0 hn
theorem StSt.ownD (K : F.Ok k nm) (S : StSt F O ℓ δ s) : ∀ a ∈ O, a ∉ Dl F.C.D := fun a ha q => (S.own a ha).1 (K.c.dsub a q)

theorem StSt.lfLt (S : StSt F O ℓ δ s) : F.C.Lf < s.heap.objs.size := by
  obtain ⟨m, hn, _⟩ := S.nml
  have := hn.lt
  rwa [v_size] at this
theorem StSt.sz (K : F.Ok k nm) (S : StSt F O ℓ δ s) : F.s0.heap.objs.size ≤ s.heap.objs.size := Nat.le_trans K.szL (Nat.le_of_lt S.lfLt)

theorem StSt.evVals (K : F.Ok k nm) (S : StSt F O ℓ δ s) : EvSt (F.C.hide O) (vals ℓ) δ s where
  gl := S.gl K
  base := S.base K
  ff := S.ff K
  dr := S.dr
  hid := fun a ha => (List.mem_append.mp ha).elim (S.hid a) fun h => (S.own a h).2.2
  names := fun x av e => by
    obtain ⟨m, hn, hl, _⟩ := S.nml
    obtain ⟨v, hv, hr⟩ := hl x _ (vals_lookup e)
    refine ⟨v, ?_, hr⟩
    rcases hv with ⟨hk, hm⟩ | ⟨hk, c, hc, hi⟩
    · exact .inl ⟨hk, m, by show (F.C.v s).Ns F.C.env.locals m; rw [K.loc]; exact hn, hm⟩
    · exact .inr ⟨hk, c, hc, hi⟩
/-- an expression that may look at everything -/
theorem StSt.evPeek (K : F.Ok k nm) (S : StSt F O ℓ δ s) : EvSt F.C (peek ℓ) δ s where
  gl := S.gl K
  base := S.base K
  ff := S.ff K
  dr := S.dr
  hid := S.hid
  names := fun x av e => by
    obtain ⟨m, hn, hl, _⟩ := S.nml
    have wk : ∀ b, b ∈ F.C.H → b ∈ F.C.H ++ O := fun b hb => List.mem_append_left _ hb
    obtain ⟨lv, e1, rfl | ⟨xs, rfl, rfl⟩ | ⟨es, rfl, rfl⟩⟩ := peek_lookup e
    · obtain ⟨v, hv, hr⟩ := hl x _ e1
      refine ⟨v, ?_, hr.weak wk⟩
      rcases hv with ⟨hk, hm⟩ | ⟨hk, c, hc, hi⟩
      · exact .inl ⟨hk, m, by show (F.C.v s).Ns F.C.env.locals m; rw [K.loc]; exact hn, hm⟩
      · exact .inr ⟨hk, c, hc, hi⟩
    · obtain ⟨hk, a, items, hm, ha, hl', hr⟩ := hl x _ e1
      exact ⟨_, .inl ⟨hk, m, by show (F.C.v s).Ns F.C.env.locals m; rw [K.loc]; exact hn, hm⟩, .list hl'.isList (S.own a ha).1 (ne_sys_of (S.own a ha).2.2.1) (hr.weak wk)⟩
    · obtain ⟨hk, a, kvs, hm, ha, hd, hs, e, hr⟩ := hl x _ e1
      exact ⟨_, .inl ⟨hk, m, by show (F.C.v s).Ns F.C.env.locals m; rw [K.loc]; exact hn, hm⟩, .dict hd (S.own a ha).1 hs e (hr.weak wk)⟩

theorem LvIs.keep {m : Str → Option Value} {x : Str} {lv : LV} (hk : (F.C.v s).StaysIn (F.C.v s')) (hd : ∀ a ∈ Dl F.C.D, a ∈ F.C.H) (ho : ∀ a ∈ O, a ∉ Dl F.C.D) (h : LvIs F O m s x lv) : LvIs F O m s' x lv := by
  have kp := v_keep hk
  have kp' : Keep (F.C.H ++ O) s.heap s'.heap := kp.mono fun a ha => List.mem_append_left _ (hd a ha)
  cases lv with
  | val av =>
    obtain ⟨v, hv, hr⟩ := h
    refine ⟨v, hv.imp id fun ⟨hk', c, hc, hi⟩ => ⟨hk', c, hc, hi.keeps hk⟩, hr.keep kp'⟩
  | own xs =>
    obtain ⟨h1, a, items, hm, ha, hl, hr⟩ := h
    exact ⟨h1, a, items, hm, ha, (let ⟨o, n, ho', r⟩ := hl; ⟨o, n, kp _ _ (ho a ha) ho', r⟩), hr.keep kp'⟩
  | ownD es =>
    obtain ⟨h1, a, kvs, hm, ha, hd', hs, e, hr⟩ := h
    exact ⟨h1, a, kvs, hm, ha, kp.dictOf (ho a ha) hd', hs, e, hr.keep kp'⟩

/-- behind an expression -/
theorem StSt.aft (K : F.Ok k nm) (S : StSt F O ℓ δ s) (same : Same s s') (kp : (F.C.v s).StaysIn (F.C.v s')) (dr : DrawAt F.C.w F.C.D s'.heap δ') (sz : s.heap.objs.size ≤ s'.heap.objs.size) : StSt F O ℓ δ' s' where
  same := S.same.trans same
  dr := dr
  h0 := stays_trans S.h0 kp
  hid := fun a ha => ⟨(S.hid a ha).1, Nat.lt_of_lt_of_le (S.hid a ha).2 sz⟩
  cel := fun x c e => Nat.lt_of_lt_of_le (S.cel x c e) sz
  own := fun a ha => let ⟨h1, h2, h3, h4⟩ := S.own a ha; ⟨h1, h2, h3, Nat.lt_of_lt_of_le h4 sz⟩
  nml := let ⟨m, hn, hl, hi⟩ := S.nml; ⟨m, hn.keeps kp, fun x lv e => (hl x lv e).keep kp K.c.dsub (S.ownD K), hi⟩

theorem v_hide : (F.C.hide O).v s = F.C.v s := rfl
end

/-- the list of locals with x set to lv -/
noncomputable def setL (x : Str) (lv : LV) : Loc → Loc
  | [] => [(x, lv)]
  | (y, l) :: r => if x = y then (y, lv) :: r else (y, l) :: setL x lv r
theorem setL_lookup (x y : Str) (lv : LV) : ∀ ℓ : Loc, (setL x lv ℓ).lookup y = if y = x then some lv else ℓ.lookup y
  | [] => by
    by_cases h : y = x
    · subst h; simp [setL]
    · simp [setL, h, List.lookup_cons, beq_eq_false_iff_ne.mpr h]
  | (z, l) :: r => by
    unfold setL
    by_cases hx : x = z
    · rw [if_pos hx]; subst hx
      by_cases h : y = x
      · subst h; simp
      · simp [h, List.lookup_cons, beq_eq_false_iff_ne.mpr h]
    · rw [if_neg hx, List.lookup_cons, List.lookup_cons, setL_lookup x y lv r]
      cases hz : y == z with
      | true =>
        have : y = z := by simpa using hz
        have hne : ¬ y = x := fun q => hx (q ▸ this)
        simp [hne]
      | false => rfl
end Mine

namespace Mine
set_option maxRecDepth 100000

theorem size_of_sameBut {a : Addr} {h h' : Heap} (hs : Heap.SameBut a h h') : h'.objs.size = h.objs.size := hs.1

mutual
theorem Rd.fresh {w D h H H' v av} {n : Nat} (ha : h.objs.size ≤ n) (hh : ∀ b ∈ H', n ≤ b ∨ b ∈ H) : Rd w D h H v av → Rd w D h H' v av
  | .none => .none
  | .bool b => .bool b
  | .int i t => .int i t
  | .str i t => .str i t
  | .bytes i t => .bytes i t
  | .list h1 h2 hs h3 => .list h1 (fun q => (hh _ q).elim (fun e => by
      obtain ⟨o, ho, _⟩ := h1; exact Nat.lt_irrefl _ (Nat.lt_of_lt_of_le (Heap.lt_size ho) (Nat.le_trans ha e))) h2) hs (RdL.fresh ha hh h3)
  | .tuple h1 h2 h3 => .tuple h1 (fun q => (hh _ q).elim (fun e => by
      obtain ⟨o, ho, _⟩ := h1; exact Nat.lt_irrefl _ (Nat.lt_of_lt_of_le (Heap.lt_size ho) (Nat.le_trans ha e))) h2) (RdL.fresh ha hh h3)
  | .dict h1 h2 h3 h4 h5 => .dict h1 (fun q => (hh _ q).elim (fun e => by
      obtain ⟨o, _, _, ho, _⟩ := h1; exact Nat.lt_irrefl _ (Nat.lt_of_lt_of_le (Heap.lt_size ho) (Nat.le_trans ha e))) h2) h3 h4 (RdL.fresh ha hh h5)
  | .idict h1 h2 h3 h4 h5 => .idict h1 (fun q => (hh _ q).elim (fun e => by
      obtain ⟨o, _, _, ho, _⟩ := h1; exact Nat.lt_irrefl _ (Nat.lt_of_lt_of_le (Heap.lt_size ho) (Nat.le_trans ha e))) h2) h3 h4 (RdL.fresh ha hh h5)
  | .draw e => .draw e
  | .cells e => .cells e
  | .typ T => .typ T
  | .range h1 h2 => .range h1 (fun q => (hh _ q).elim (fun e => by
      exact Nat.lt_irrefl _ (Nat.lt_of_lt_of_le (Heap.lt_size h1) (Nat.le_trans ha e))) h2)
  | .types h1 h2 => .types h1 (fun q => (hh _ q).elim (fun e => by
      exact Nat.lt_irrefl _ (Nat.lt_of_lt_of_le (Heap.lt_size h1) (Nat.le_trans ha e))) h2)
  | .raw h1 h2 h3 => .raw h1 (fun q => (hh _ q).elim (fun e => by
      obtain ⟨o, ho, _⟩ := h1; exact Nat.lt_irrefl _ (Nat.lt_of_lt_of_le (Heap.lt_size ho) (Nat.le_trans ha e))) h2) h3
theorem RdL.fresh {w D h H H' vs as} {n : Nat} (ha : h.objs.size ≤ n) (hh : ∀ b ∈ H', n ≤ b ∨ b ∈ H) : RdL w D h H vs as → RdL w D h H' vs as
  | .nil => .nil
  | .cons h1 h2 => .cons (Rd.fresh ha hh h1) (RdL.fresh ha hh h2)
end

section
variable {F : FCx} {O : List Addr} {ℓ : Loc} {δ δ' : Draw} {s s' : Shared} {k : Nat} {nm : List (Str × NameKind)}

theorem v_push_stays {D : DA} {h : Heap} {o : Obj} : (V D h).StaysIn (V D (h.push o)) := v_stays fun b o' _ e => Heap.get?_push_of_some _ e

theorem StSt.alloc (K : F.Ok k nm) (S : StSt F O ℓ δ s) (o : Obj) {t : Nat} : StSt F (s.heap.objs.size :: O) ℓ δ { s with heap := s.heap.push o, toks := t } := by
  have kp : (F.C.v s).StaysIn (F.C.v { s with heap := s.heap.push o, toks := t }) := v_push_stays
  have kr : ∀ b o', s.heap.get? b = some o' → (s.heap.push o).get? b = some o' := fun b o' e => Heap.get?_push_of_some _ e
  have hfr : ∀ b ∈ F.C.H ++ s.heap.objs.size :: O, s.heap.objs.size ≤ b ∨ b ∈ F.C.H ++ O := fun b hb => by
    rcases List.mem_append.mp hb with h | h
    · exact .inr (List.mem_append_left _ h)
    · rcases List.mem_cons.mp h with h | h
      · exact .inl (Nat.le_of_eq h.symm)
      · exact .inr (List.mem_append_right _ h)
  have S' := S.aft (s' := { s with heap := s.heap.push o, toks := t }) K ⟨rfl, rfl, rfl⟩ kp (S.dr.keep kr) (by show s.heap.objs.size ≤ (s.heap.push o).objs.size; rw [Heap.size_push]; omega)
  refine ⟨S'.same, S'.dr, S'.h0, S'.hid, S'.cel, fun a ha => ?_, ?_⟩
  · rcases List.mem_cons.mp ha with rfl | ha
    · refine ⟨fun q => Nat.lt_irrefl _ (S.hid _ q).2, ?_, gl_big (S.gl K), by show _ < (s.heap.push o).objs.size; rw [Heap.size_push]; omega⟩
      cases q : F.h0.get? s.heap.objs.size with
      | none => rfl
      | some o' => exact absurd (Heap.lt_size (v_get (S.h0 _ _ q))) (Nat.lt_irrefl _)
    · exact S'.own a ha
  · obtain ⟨m, hn, hl, hi⟩ := S.nml
    refine ⟨m, hn.keeps kp, fun x lv e => ?_, hi⟩
    have hx := hl x lv e
    cases lv with
    | val av =>
      obtain ⟨v, hv, hr⟩ := hx
      exact ⟨v, hv.imp id fun ⟨hk', c, hc, hi'⟩ => ⟨hk', c, hc, hi'.keeps kp⟩, (hr.fresh (Nat.le_refl _) hfr).keep fun b o' _ e => kr b o' e⟩
    | own xs =>
      obtain ⟨h1, a, items, hm, ha, hl, hr⟩ := hx
      exact ⟨h1, a, items, hm, List.mem_cons_of_mem _ ha, (let ⟨o', n, ho, r⟩ := hl; ⟨o', n, kr _ _ ho, r⟩), (hr.fresh (Nat.le_refl _) hfr).keep fun b o' _ e => kr b o' e⟩
    | ownD es =>
      obtain ⟨h1, a, kvs, hm, ha, hd, hs, e, hr⟩ := hx
      exact ⟨h1, a, kvs, hm, List.mem_cons_of_mem _ ha, (let ⟨o', es', ep, ho, r⟩ := hd; ⟨o', es', ep, kr _ _ ho, r⟩), hs, e, (hr.fresh (Nat.le_refl _) hfr).keep fun b o' _ e => kr b o' e⟩

theorem StSt.lfD (S : StSt F O ℓ δ s) : F.C.Lf ∉ Dl F.C.D := by
  obtain ⟨m, ⟨o, es, ep, ho, _⟩, _⟩ := S.nml
  exact v_notin ho

/-- one object other than a hidden one is as it was -/
theorem keep_sameBut {H : List Addr} {a : Addr} {h h' : Heap} (hs : Heap.SameBut a h h') (ha : a ∈ H) : Keep H h h' := fun b o hb e =>
  (hs.2 b fun q => hb (q ▸ ha)).trans e

theorem h0_sameBut {a : Addr} {h h' g : Heap} {D : DA} (h0 : g.StaysIn (V D h)) (ha : g.get? a = none) (hs : Heap.SameBut a h h') : g.StaysIn (V D h') := fun b o e => by
  have e' := h0 b o e
  have hne : b ≠ a := fun q => by rw [q, ha] at e; cases e
  exact get_v ((hs.2 b hne).trans (v_get e')) (v_notin e')

theorem LvIs.swap {m m' : Str → Option Value} {x : Str} {lv : LV} {a : Addr} (hs : Heap.SameBut a s.heap s'.heap) (ha : a ∈ F.C.H) (hc : ∀ x c, F.C.env.cells.lookup x = some c → c ≠ a)
    (ho : ∀ b ∈ O, b ∉ F.C.H) (e : m' x = m x) (h : LvIs F O m s x lv) : LvIs F O m' s' x lv := by
  have kp : Keep (F.C.H ++ O) s.heap s'.heap := keep_sameBut hs (List.mem_append_left _ ha)
  cases lv with
  | val av =>
    obtain ⟨v, hv, hr⟩ := h
    refine ⟨v, hv.imp (fun ⟨h1, h2⟩ => ⟨h1, e.trans h2⟩) fun ⟨hk', c, hc', o, ho', hd⟩ => ⟨hk', c, hc', o, ?_, hd⟩, hr.keep kp⟩
    exact get_v ((hs.2 c (hc _ _ hc')).trans (v_get ho')) (v_notin ho')
  | own xs =>
    obtain ⟨h1, b, items, hm, hb, ⟨o, n, ho', r⟩, hr⟩ := h
    exact ⟨h1, b, items, e.trans hm, hb, ⟨o, n, (hs.2 b fun q => ho b hb (q ▸ ha)).trans ho', r⟩, hr.keep kp⟩
  | ownD es =>
    obtain ⟨h1, b, kvs, hm, hb, ⟨o, es', ep, ho', r⟩, hs', e', hr⟩ := h
    exact ⟨h1, b, kvs, e.trans hm, hb, ⟨o, es', ep, (hs.2 b fun q => ho b hb (q ▸ ha)).trans ho', r⟩, hs', e', hr.keep kp⟩

theorem StSt.stored (K : F.Ok k nm) (S : StSt F O ℓ δ s) {m : Str → Option Value} (hn : (F.C.v s).Ns F.C.Lf m) (hl : ∀ x lv, ℓ.lookup x = some lv → LvIs F O m s x lv)
    (hi : ∀ x y lx ly a, ℓ.lookup x = some lx → ℓ.lookup y = some ly → lx.owned = true → ly.owned = true → m x = some (.ref a) → m y = some (.ref a) → x = y)
    {x : Str} {lv : LV} {v : Value} {h' : Heap} {t : Nat} (hn' : h'.Ns F.C.Lf (fun y => if y = x then some v else m y)) (hs : Heap.SameBut F.C.Lf s.heap h')
    (hv : LvIs F O (fun y => if y = x then some v else m y) s x lv)
    (hu : lv.owned = true → ∀ y ly a, ℓ.lookup y = some ly → ly.owned = true → y ≠ x → m y = some (.ref a) → v ≠ .ref a) :
    StSt F O (setL x lv ℓ) δ { s with heap := h', toks := t } := by
  have hD := S.lfD
  have hself : ∀ y l, LvIs F O (fun y => if y = x then some v else m y) s y l → LvIs F O (fun y => if y = x then some v else m y) { s with heap := h', toks := t } y l :=
    fun y l q => q.swap (s' := { s with heap := h', toks := t }) hs K.lfH K.cells (fun b hb => (S.own b hb).1) rfl
  refine ⟨S.same, ?_, h0_sameBut S.h0 K.h0n hs, fun a ha => (by show 154 < a ∧ a < h'.objs.size; rw [hs.1]; exact S.hid a ha), fun x c e => (by show c < h'.objs.size; rw [hs.1]; exact S.cel x c e), fun a ha => ?_, fun y => if y = x then some v else m y, ?_, ?_, ?_⟩
  · exact S.dr.of_eq fun a ha o e => ⟨o.slots, (hs.2 a fun q => hD (q ▸ ha)).trans e⟩
  · obtain ⟨h1, h2, h3, h4⟩ := S.own a ha
    exact ⟨h1, h2, h3, by show a < h'.objs.size; rw [hs.1]; exact h4⟩
  · obtain ⟨o, es, ep, ho, r⟩ := hn'
    exact ⟨o, es, ep, get_v ho hD, r⟩
  · intro y l e
    rw [setL_lookup] at e
    by_cases hy : y = x
    · subst hy
      rw [if_pos rfl] at e; cases e
      exact hself _ _ hv
    · rw [if_neg hy] at e
      exact (hl y l e).swap (s' := { s with heap := h', toks := t }) hs K.lfH K.cells (fun b hb => (S.own b hb).1) (by simp [hy])
  · intro y z ly lz a ey ez oy oz my mz
    rw [setL_lookup] at ey ez
    dsimp only at my mz
    by_cases hy : y = x
    · by_cases hz : z = x
      · rw [hy, hz]
      · exfalso
        rw [if_pos hy] at ey my; rw [if_neg hz] at ez mz
        cases ey
        exact hu oy z lz a ez oz hz mz (Option.some.inj my)
    · by_cases hz : z = x
      · exfalso
        rw [if_pos hz] at ez mz; rw [if_neg hy] at ey my
        cases ez
        exact hu oz y ly a ey oy hy my (Option.some.inj mz)
      · rw [if_neg hy] at ey my; rw [if_neg hz] at ez mz
        exact hi y z ly lz a ey ez oy oz my mz
end

/-! ## what stands behind a statement -/
structure Nxt (F : FCx) (O : List Addr) (ℓ' : Loc) (δ' : Draw) (s s' : Shared) : Prop where
  ex : ∃ O', StSt F O' ℓ' δ' s' ∧ (∀ a ∈ O', a ∈ O ∨ s.heap.objs.size ≤ a)
  kp : Keep (Dl F.C.D ++ F.C.Lf :: O) s.heap s'.heap
  sz : s.heap.objs.size ≤ s'.heap.objs.size
structure RetAt (F : FCx) (v : Value) (av : AV) (δ' : Draw) (s' : Shared) : Prop where
  same : Same F.s0 s'
  h0 : F.h0.StaysIn (F.C.v s')
  dr : DrawAt F.C.w F.C.D s'.heap δ'
  sz : F.s0.heap.objs.size ≤ s'.heap.objs.size
  rd : Rd F.C.w F.C.D s'.heap F.C.H v av
structure ExcStat (F : FCx) (X : String) (e : Addr) (δ' : Draw) (s' : Shared) : Prop where
  same : Same F.s0 s'
  upto : F.h0.UpToSlots (F.C.v s')
  dr : DrawAt F.C.w F.C.D s'.heap δ'
  exc : ExcAny F.C X e s'.heap

structure SOk (k : Nat) (nm : List (Str × NameKind)) (ℓ : Loc) (δ : Draw) (t : Env → Sem Flow) (o : Out) (ℓ' : Loc) (δ' : Draw) : Prop where
  run : ∀ (F : FCx) (O : List Addr) (s : Shared) (Q : Flow → Shared → Prop) (E : Value → Shared → Prop), F.Ok k nm → StSt F O ℓ δ s →
    (∀ s', o = .next → Nxt F O ℓ' δ' s s' → Q .next s') → (∀ s', o = .cont → Nxt F O ℓ' δ' s s' → Q .cont s') →
    (∀ v av s', o = .ret av → RetAt F v av δ' s' → Q (.ret v) s') → (∀ e X s', o = .exc X → ExcStat F X e δ' s' → E (.ref e) s') →
    wpAny (MM F.C.w) F.C.A (t F.C.env) Q E s
noncomputable abbrev XOk (k : Nat) (nm : List (Str × NameKind)) (ℓ : Loc) (δ : Draw) (st : Stmt) (o : Out) (ℓ' : Loc) (δ' : Draw) : Prop := SOk k nm ℓ δ (exec st) o ℓ' δ'
noncomputable abbrev XsOk (k : Nat) (nm : List (Str × NameKind)) (ℓ : Loc) (δ : Draw) (sts : List Stmt) (o : Out) (ℓ' : Loc) (δ' : Draw) : Prop := SOk k nm ℓ δ (execs sts) o ℓ' δ'

section
variable {F : FCx} {O : List Addr} {ℓ ℓ1 ℓ2 ℓ' : Loc} {δ δ1 δ2 δ' : Draw} {s s1 s' : Shared} {k : Nat} {nm : List (Str × NameKind)}

theorem Nxt.refl (S : StSt F O ℓ δ s) : Nxt F O ℓ δ s s := ⟨⟨O, S, fun a ha => .inl ha⟩, fun _ _ _ e => e, Nat.le_refl _⟩
theorem Nxt.trans {O1 : List Addr} (hO : ∀ a ∈ O1, a ∈ O ∨ s.heap.objs.size ≤ a) (kp : Keep (Dl F.C.D ++ F.C.Lf :: O) s.heap s1.heap) (sz : s.heap.objs.size ≤ s1.heap.objs.size) (b : Nxt F O1 ℓ' δ' s1 s') : Nxt F O ℓ' δ' s s' := by
  obtain ⟨⟨O2, S2, h2⟩, k2, z2⟩ := b
  refine ⟨⟨O2, S2, fun a ha => (h2 a ha).elim (hO a) fun h => .inr (Nat.le_trans sz h)⟩, fun b o hb e => ?_, Nat.le_trans sz z2⟩
  refine k2 b o (fun q => ?_) (kp b o hb e)
  rcases List.mem_append.mp q with q | q
  · exact hb (List.mem_append_left _ q)
  · rcases List.mem_cons.mp q with q | q
    · exact hb (List.mem_append_right _ (List.mem_cons.mpr (.inl q)))
    · rcases hO b q with q | q
      · exact hb (List.mem_append_right _ (List.mem_cons_of_mem _ q))
      · exact absurd (Heap.lt_size e) (Nat.not_lt.mpr q)

theorem SOk.mono {k k' nm ℓ δ t o ℓ' δ'} (x : SOk k nm ℓ δ t o ℓ' δ') (h : k ≤ k') : SOk k' nm ℓ δ t o ℓ' δ' :=
  ⟨fun F O s Q E K S => x.run F O s Q E { K with c := K.c.mono h } S⟩

theorem XsOk.nil : XsOk k nm ℓ δ [] .next ℓ δ := ⟨fun F O s Q E K S hn hc hr he => wpAny_execs_nil (hn s rfl (Nxt.refl S))⟩
theorem XsOk.cons {st rest o} (h1 : XOk k nm ℓ δ st .next ℓ1 δ1) (h2 : XsOk k nm ℓ1 δ1 rest o ℓ' δ') : XsOk k nm ℓ δ (st :: rest) o ℓ' δ' := by
  constructor; intro F O s Q E K S hn hc hr he
  refine wpAny_execs_cons (h1.run F O s _ _ K S (fun s1 _ n1 => ?_) (fun _ e => nomatch e) (fun _ _ _ e => nomatch e) fun _ _ _ e => nomatch e)
  obtain ⟨⟨O1, S1, hO⟩, kp, sz⟩ := n1
  exact h2.run F O1 s1 Q E K S1 (fun s2 e n2 => hn s2 e (n2.trans hO kp sz)) (fun s2 e n2 => hc s2 e (n2.trans hO kp sz)) hr he
theorem XsOk.ret {st rest v} (h1 : XOk k nm ℓ δ st (.ret v) ℓ1 δ1) : XsOk k nm ℓ δ (st :: rest) (.ret v) ℓ1 δ1 := by
  constructor; intro F O s Q E K S hn hc hr he
  exact wpAny_execs_cons (h1.run F O s _ _ K S (fun _ e => nomatch e) (fun _ e => nomatch e) (fun v av s' e x => hr v av s' e x) fun e X s' h x => he e X s' h x)
theorem XsOk.exc {st rest X} (h1 : XOk k nm ℓ δ st (.exc X) ℓ1 δ1) : XsOk k nm ℓ δ (st :: rest) (.exc X) ℓ1 δ1 := by
  constructor; intro F O s Q E K S hn hc hr he
  exact wpAny_execs_cons (h1.run F O s _ _ K S (fun _ e => nomatch e) (fun _ e => nomatch e) (fun v av s' e x => nomatch e) fun e X s' h x => he e X s' h x)
theorem XsOk.cont {st rest} (h1 : XOk k nm ℓ δ st .cont ℓ1 δ1) : XsOk k nm ℓ δ (st :: rest) .cont ℓ1 δ1 := by
  constructor; intro F O s Q E K S hn hc hr he
  exact wpAny_execs_cons (h1.run F O s _ _ K S (fun _ e => nomatch e) (fun s' e x => hc s' rfl x) (fun v av s' e x => nomatch e) fun e X s' h x => nomatch h)

theorem XOk.cont {pos} : XOk k nm ℓ δ (.Continue pos) .cont ℓ δ := ⟨fun F O s Q E K S hn hc hr he => wpAny_Continue (hc s rfl (Nxt.refl S))⟩

/-- what an expression's end gives behind a statement -/
theorem aft_of (a : Aft F.C s s' δ') : Aft (F.C.hide O) s s' δ' := ⟨a.same, a.keep, a.dr, a.sz⟩
theorem aft_back (a : Aft (F.C.hide O) s s' δ') : Aft F.C s s' δ' := ⟨a.same, a.keep, a.dr, a.sz⟩
theorem StSt.aft' (K : F.Ok k nm) (S : StSt F O ℓ δ s) (a : Aft F.C s s' δ') : StSt F O ℓ δ' s' := S.aft K a.same a.keep a.dr a.sz
theorem keep_of_aft (a : Aft F.C s s' δ') : Keep (Dl F.C.D ++ F.C.Lf :: O) s.heap s'.heap := (v_keep a.keep).mono fun b hb => List.mem_append_left _ hb
theorem Nxt.of_aft (K : F.Ok k nm) (S : StSt F O ℓ δ s) (a : Aft F.C s s' δ') : Nxt F O ℓ δ' s s' := ⟨⟨O, S.aft' K a, fun _ h => .inl h⟩, keep_of_aft a, a.sz⟩
theorem ExcStat.of (K : F.Ok k nm) (S : StSt F O ℓ δ s) {X e} (x : ExcAft F.C s s' X e δ') : ExcStat F X e δ' s' :=
  ⟨S.same.trans x.same, (Heap.UpToSlots.of_keeps S.h0).trans x.upto, x.dr, .inl x.exc⟩
theorem excAft_back {X e} (x : ExcAft (F.C.hide O) s s' X e δ') : ExcAft F.C s s' X e δ' := ⟨x.same, x.upto, x.dr, x.exc⟩

/-- x := e, the value kept -/
theorem XOk.assign {x p' e p av} (h : EvOk k nm (vals ℓ) δ e (.ok av) δ') (hx : nm.lookup x = some .local)
    (hsw : ∀ env, swapsWith e (some (.Name x p')) p.line env = pure false := by intro _; rfl) : XOk k nm ℓ δ (.Assign [.Name x p'] e p) .next (setL x (.val av) ℓ) δ' := by
  constructor; intro F O s Q E K S hn hc hr he
  refine wpAny_Assign_Name (h.run (F.C.hide O) s _ _ (K.c.hide O) (S.evVals K) (fun v av1 s1 e1 a1 r1 => ?_) fun e X s1 e1 _ => nomatch e1) (hsw _)
  cases e1
  have a1 := aft_back a1
  have S1 := S.aft' K a1
  obtain ⟨m, hns, hl, hi⟩ := S1.nml
  have hkx : F.C.env.kindOf x = some .local := (K.c.kindOf x).trans hx
  refine wpAny_storeName_local hkx (m := m) (by rw [K.loc]; exact hns.keeps v_stays_real) (fun h' hn' hs => ?_) (by rw [K.c.kind]; rfl)
  rw [K.loc] at hn' hs
  refine hn _ rfl ⟨⟨O, S1.stored K hns hl hi hn' hs ?_ (fun q => nomatch q), fun _ h => .inl h⟩, ?_, ?_⟩
  · exact ⟨v, .inl ⟨hkx, by simp⟩, r1⟩
  · intro b o hb e'
    exact (hs.2 b fun q => hb (by subst q; simp)).trans (keep_of_aft (O := O) a1 b o hb e')
  · show s.heap.objs.size ≤ h'.objs.size
    rw [hs.1]; exact a1.sz
theorem XOk.assignExc {x p' e p X} (h : EvOk k nm (peek ℓ) δ e (.exc X) δ')
    (hsw : ∀ env, swapsWith e (some (.Name x p')) p.line env = pure false := by intro _; rfl) : XOk k nm ℓ δ (.Assign [.Name x p'] e p) (.exc X) ℓ δ' := by
  constructor; intro F O s Q E K S hn hc hr he
  exact wpAny_Assign_Name (h.run F.C s _ _ K.c (S.evPeek K) (fun v av1 s1 e1 a1 r1 => nomatch e1) fun e X s1 e1 x => he _ _ _ (by cases e1; rfl) (ExcStat.of K S x)) (hsw _)

noncomputable def AV.scalar : AV → Bool
  | .none | .bool _ | .int _ | .str _ | .bytes _ => true
  | _ => false
theorem Rd.scalar {w D h H h' H' v av} (r : Rd w D h H v av) (hs : av.scalar = true) : Rd w D h' H' v av := by
  cases r <;> first | (simp [AV.scalar] at hs; done) | skip
  · exact .none
  · exact .bool _
  · exact .int _ _
  · exact .str _ _
  · exact .bytes _ _

/-- x := e, a number, a truth or a text reckoned from whatever there is -/
theorem XOk.assignS {x p' e p av} (h : EvOk k nm (peek ℓ) δ e (.ok av) δ') (hsc : av.scalar = true) (hx : nm.lookup x = some .local)
    (hsw : ∀ env, swapsWith e (some (.Name x p')) p.line env = pure false := by intro _; rfl) : XOk k nm ℓ δ (.Assign [.Name x p'] e p) .next (setL x (.val av) ℓ) δ' := by
  constructor; intro F O s Q E K S hn hc hr he
  refine wpAny_Assign_Name (h.run F.C s _ _ K.c (S.evPeek K) (fun v av1 s1 e1 a1 r1 => ?_) fun e X s1 e1 _ => nomatch e1) (hsw _)
  cases e1
  have S1 := S.aft' K a1
  obtain ⟨m, hns, hl, hi⟩ := S1.nml
  have hkx : F.C.env.kindOf x = some .local := (K.c.kindOf x).trans hx
  refine wpAny_storeName_local hkx (m := m) (by rw [K.loc]; exact hns.keeps v_stays_real) (fun h' hn' hs => ?_) (by rw [K.c.kind]; rfl)
  rw [K.loc] at hn' hs
  refine hn _ rfl ⟨⟨O, S1.stored K hns hl hi hn' hs ?_ (fun q => nomatch q), fun _ h => .inl h⟩, ?_, ?_⟩
  · exact ⟨v, .inl ⟨hkx, by simp⟩, r1.scalar hsc⟩
  · intro b o hb e'
    exact (hs.2 b fun q => hb (by subst q; simp)).trans (keep_of_aft (O := O) a1 b o hb e')
  · show s.heap.objs.size ≤ h'.objs.size
    rw [hs.1]; exact a1.sz

theorem XOk.ret {e p av} (h : EvOk k nm (peek ℓ) δ e (.ok av) δ') : XOk k nm ℓ δ (.Return (some e) p) (.ret av) ℓ δ' := by
  constructor; intro F O s Q E K S hn hc hr he
  refine wpAny_Return_some (h.run F.C s _ _ K.c (S.evPeek K) (fun v av1 s1 e1 a1 r1 => ?_) fun e X s1 e1 _ => nomatch e1)
  cases e1
  have S1 := S.aft' K a1
  exact hr _ _ _ rfl ⟨S1.same, S1.h0, S1.dr, S1.sz K, r1⟩
theorem XOk.retExc {e p X} (h : EvOk k nm (peek ℓ) δ e (.exc X) δ') : XOk k nm ℓ δ (.Return (some e) p) (.exc X) ℓ δ' := by
  constructor; intro F O s Q E K S hn hc hr he
  exact wpAny_Return_some (h.run F.C s _ _ K.c (S.evPeek K) (fun v av1 s1 e1 a1 r1 => nomatch e1) fun e X s1 e1 x => he _ _ _ (by cases e1; rfl) (ExcStat.of K S x))

theorem XOk.ifT {t b o p out} (h : TOk k nm (peek ℓ) δ t true δ1) (h2 : XsOk k nm ℓ δ1 b out ℓ' δ') : XOk k nm ℓ δ (.If t b o p) out ℓ' δ' := by
  constructor; intro F O s Q E K S hn hc hr he
  refine wpAny_If (h.run F.C s _ _ K.c (S.evPeek K) fun s1 a1 => ?_)
  rw [if_pos rfl]
  have n1 := keep_of_aft (O := O) a1
  exact h2.run F O s1 Q E K (S.aft' K a1) (fun s2 e n2 => hn s2 e (n2.trans (fun _ h => .inl h) n1 a1.sz)) (fun s2 e n2 => hc s2 e (n2.trans (fun _ h => .inl h) n1 a1.sz)) hr he
theorem XOk.ifF {t b o p out} (h : TOk k nm (peek ℓ) δ t false δ1) (h2 : XsOk k nm ℓ δ1 o out ℓ' δ') : XOk k nm ℓ δ (.If t b o p) out ℓ' δ' := by
  constructor; intro F O s Q E K S hn hc hr he
  refine wpAny_If (h.run F.C s _ _ K.c (S.evPeek K) fun s1 a1 => ?_)
  rw [if_neg Bool.false_ne_true]
  have n1 := keep_of_aft (O := O) a1
  exact h2.run F O s1 Q E K (S.aft' K a1) (fun s2 e n2 => hn s2 e (n2.trans (fun _ h => .inl h) n1 a1.sz)) (fun s2 e n2 => hc s2 e (n2.trans (fun _ h => .inl h) n1 a1.sz)) hr he
end
end Mine

namespace Mine
set_option maxRecDepth 100000

theorem upto_v {D : DA} {h h' : Heap} (u : h.UpToSlots h') : (V D h).UpToSlots (V D h') := fun b o e hn =>
  let ⟨sl, e'⟩ := u b o (v_get e) hn; ⟨sl, get_v e' (v_notin e)⟩
theorem DrawAt.upto {w D h h' δ} (x : DrawAt w D h δ) (u : h.UpToSlots h') : DrawAt w D h' δ := by
  intro d c e
  obtain ⟨hne, t1, t2, its, ⟨o1, g1, c1, n1, d1⟩, ⟨o2, n2, g2, c2, p2, d2⟩, h3⟩ := x d c e
  obtain ⟨s1, q1⟩ := u d _ g1 (fun vs q => by rw [d1] at q; cases q)
  obtain ⟨s2, q2⟩ := u c _ g2 (fun vs q => by rw [d2] at q; cases q)
  exact ⟨hne, t1, t2, its, ⟨_, q1, c1, n1, d1⟩, ⟨_, n2, q2, c2, p2, d2⟩, rdl_ints h3⟩

/-! ## the call of a def without cells -/
theorem zip_names {w D h H} : ∀ {ps : List Str} {vals : List Value} {args : List AV}, ps.Nodup → ps.length = vals.length → RdL w D h H vals args → ∀ {x : Str} {lv : LV},
    (ps.zip (args.map LV.val)).lookup x = some lv → x ∈ ps ∧ ∃ av v, lv = .val av ∧ (ps.zip vals).reverse.lookup x = some v ∧ Rd w D h H v av
  | [], _, _, _, _, _, x, lv, e => by simp at e
  | p :: ps, [], _, _, hl, _, _, _, _ => by simp at hl
  | p :: ps, v :: vals, a :: args, hn, hl, .cons r1 r2, x, lv, e => by
    have hn' := List.nodup_cons.mp hn
    simp only [List.map_cons, List.zip_cons_cons, List.lookup_cons, List.reverse_cons, List.lookup_append] at e ⊢
    have none_of : ∀ {x : Str}, x ∉ ps → (ps.zip vals).reverse.lookup x = none := fun {x} hx => by
      rw [List.lookup_eq_none_iff]
      intro q hq
      have : q.1 ∈ ps := by
        have := List.mem_reverse.mp hq
        exact (List.of_mem_zip (a := q.1) (b := q.2) this).1
      rw [bne_iff_ne]
      exact fun z => hx (by rw [z]; exact this)
    cases hx : x == p with
    | true =>
      have hxp : x = p := by simpa using hx
      subst hxp
      rw [hx] at e
      cases e
      refine ⟨by simp, a, v, rfl, ?_, r1⟩
      rw [none_of hn'.1]
      simp
    | false =>
      rw [hx] at e
      obtain ⟨h1, av, u, h2, h3, h4⟩ := zip_names hn'.2 (by simpa using hl) r2 e
      refine ⟨List.mem_cons_of_mem _ h1, av, u, h2, ?_, h4⟩
      rw [h3]; rfl

noncomputable def Out.res : Out → Option ERes
  | .next => some (.ok .none)
  | .ret v => some (.ok v)
  | .exc X => some (.exc X)
  | .cont => none

theorem cLine_val : cLine = 9900 := rfl
theorem recursionLimit_val : recursionLimit = 1000 := rfl

/-- the fragment's def at f -/
structure DefAt (f : Addr) (fd : FuncData) (ps : List Str) (body : List Stmt) : Prop where
  obj : ∀ w : World, (hd.heap_39 w.params).lookup f = some ⟨.type "function", none, .func fd, #[]⟩
  code : ∀ w : World, codeIn (hd.heap_39 w.params) fd.code fd.qualname = true
  body : fd.body = .stmts body
  gl : fd.globals = mainGlobals
  bl : fd.builtins = builtinsNs
  clo : fd.closure = []
  kind : fd.scope.kind = .function
  coro : fd.scope.isCoroutine = false
  gen : fd.scope.isGenerator = false
  nodup : ps.Nodup

theorem CallOk.plain {k f fd ps body args δ o ℓ' δ' r} (d : DefAt f fd ps body) (hcell : ∀ x ∈ fd.scope.names, x.2 ≠ .cell) (hloc : ∀ p ∈ ps, fd.scope.names.lookup p = some .local) (hlen : ps.length = args.length)
    (hb : ∀ (s : Shared) (vals : List Value), vals.length = ps.length → BindsTo s fd ⟨vals, []⟩ (ps.zip vals))
    (hx : XsOk k fd.scope.names (ps.zip (args.map LV.val)) δ body o ℓ' δ') (hr : o.res = some r) : CallOk (k + 1) f args δ r δ' := by
  constructor; intro w D A base outer s H vals R room fr gl bs ff dr hid dsub rd hok hex
  have hvl := rd.length
  have ho := v_get (gl.1 _ _ (d.obj w))
  have hlim : s.heap.NoLimit := let ⟨_, _, _, T⟩ := gl.2; T.nolimit.keeps v_stays_real
  have hcd : s.heap.CodeRec fd.code fd.qualname := codeRec_of (gl.1.keeps v_stays_real) (d.code w)
  refine codeAny_call_def (fd := fd) (body := body) (binds := ps.zip vals) (by rw [recursionLimit_val]; have := room.depth; omega) ho rfl hlim hcd d.body (hb s vals (by omega)) hcell
    (fun x hx => hloc _ (List.of_mem_zip (a := x.1) (b := x.2) hx).1) (fun h₁ hns hk₁ => ?_) d.coro d.gen d.kind
  let env := callEnv fd s.heap.objs.size f
  let F : FCx := { C := { w := w, D := D, A := A.deeper env, base := base, outer := outer, fenv := env, env := env, Lf := s.heap.objs.size, H := s.heap.objs.size :: H }, h0 := V D s.heap, s0 := s }
  have hDlt := dr.lt
  have hLD : s.heap.objs.size ∉ Dl D := fun q => Nat.lt_irrefl _ (hDlt _ q)
  have K : F.Ok k fd.scope.names := {
    c := {
      room := ⟨room.handled, room.guards, by show A.depth + 1 + k < 900; have := room.depth; omega, by show A.units + 3 + 20 * k < 9000; have := room.units; omega⟩
      fr := by show A.frames.map (env :: ·) = _; rw [fr]; rfl
      ff := rfl
      ef := rfl
      kind := d.kind
      names := rfl
      gl := d.gl
      bl := d.bl
      dsub := fun a ha => List.mem_cons_of_mem _ (dsub a ha) }
    ee := rfl
    loc := rfl
    h0n := by
      cases q : (V D s.heap).get? s.heap.objs.size with
      | none => rfl
      | some o => exact absurd (Heap.lt_size (v_get q)) (Nat.lt_irrefl _)
    cells := fun x c e => by
      have : env.cells = [] := d.clo
      rw [show F.C.env.cells = [] from this] at e
      cases e
    gl0 := gl
    base0 := bs
    ff0 := ff
    lfH := List.mem_cons_self ..
    szL := Nat.le_refl _ }
  have kst : (V D s.heap).StaysIn (V D h₁) := v_stays fun b o _ e => hk₁ b o e
  have S : StSt F [] (ps.zip (args.map LV.val)) δ { s with heap := h₁, toks := s.toks + (ps.zip vals).length } := {
    same := ⟨rfl, rfl, rfl⟩
    dr := dr.keep hk₁
    h0 := kst
    hid := fun a ha => by
      have h1 : s.heap.objs.size < h₁.objs.size := hns.lt
      exact (List.mem_cons.mp ha).elim (fun e => e ▸ ⟨gl_big gl, h1⟩) fun h => ⟨(hid a h).1, Nat.lt_trans (hid a h).2 h1⟩
    cel := fun x c e => by
      have : env.cells = [] := d.clo
      rw [show F.C.env.cells = [] from this] at e
      cases e
    own := fun _ h => nomatch h
    nml := by
      refine ⟨fun x => (ps.zip vals).reverse.lookup x, ?_, fun x lv e => ?_, fun x y lx ly a ex ey ox oy _ _ => ?_⟩
      · obtain ⟨o, es, ep, ho', r'⟩ := hns
        exact ⟨o, es, ep, get_v ho' hLD, r'⟩
      · obtain ⟨hx', av, v, rfl, hv, hr'⟩ := zip_names d.nodup (by omega) rd e
        refine ⟨v, .inl ⟨hloc x hx', hv⟩, ?_⟩
        rw [List.append_nil]
        exact (hr'.fresh (n := s.heap.objs.size) (Nat.le_refl _) fun b hb => (List.mem_cons.mp hb).imp (fun e => Nat.le_of_eq e.symm) id).keep fun b o _ e => hk₁ b o e
      · obtain ⟨_, av, _, rfl, _⟩ := zip_names d.nodup (by omega) rd ex
        cases ox }
  have wk : ∀ b, b ∈ H → b ∈ F.C.H := fun b hb => List.mem_cons_of_mem _ hb
  refine hx.run F [] _ _ _ K S (fun s' e n => ?_) (fun s' e n => ?_) (fun v av s' e x => ?_) fun e X s' h x => ?_
  · subst e; cases hr
    obtain ⟨⟨O', S', _⟩, _, _⟩ := n
    exact hok .none .none s' rfl S'.same S'.h0 S'.dr (S'.sz K) .none
  · subst e; cases hr
  · subst e; cases hr
    exact hok v av s' rfl x.same x.h0 x.dr x.sz (x.rd.weak wk)
  · subst h; cases hr
    refine leaveAny (C := F.C) K.c.fr K.c.ff x.exc fun h' fl u => ?_
    exact hex e X _ rfl ⟨x.same.1, x.same.2.1, x.same.2.2⟩ (x.upto.trans (upto_v u)) (x.dr.upto u) fl

/-! ## while -/
structure ExcStatH (F : FCx) (X : String) (e : Addr) (δ' : Draw) (s' : Shared) : Prop where
  same : Same F.s0 s'
  upto : F.h0.UpToSlots (F.C.v s')
  dr : DrawAt F.C.w F.C.D s'.heap δ'
  exc : ExcHeld F.C X e s'.heap

structure WOk (k : Nat) (nm : List (Str × NameKind)) (ℓ : Loc) (δ : Draw) (code : Env → Code) (o : Out) (ℓ' : Loc) (δ' : Draw) : Prop where
  run : ∀ (F : FCx) (O : List Addr) (s : Shared) (R : Result → Shared → Prop), F.Ok k nm → StSt F O ℓ δ s →
    (∀ s', o = .next → Nxt F O ℓ' δ' s s' → R (.ok .next) s') →
    (∀ v av s', o = .ret av → RetAt F v av δ' s' → R (.ok (.ret v)) s') → (∀ e X s', o = .exc X → ExcStatH F X e δ' s' → R (.error (.ref e)) s') →
    codeAny (MM F.C.w) F.C.A (code F.C.env) R s

section
variable {F : FCx} {O : List Addr} {ℓ ℓ1 ℓ2 ℓ' : Loc} {δ δ1 δ2 δ' : Draw} {s s1 s' : Shared} {k : Nat} {nm : List (Str × NameKind)}

theorem noted_exc (K : F.Ok k nm) {R : Value → Shared → Prop} {X e} (x : ExcStat F X e δ' s) (h : ∀ s', ExcStatH F X e δ' s' → R (.ref e) s') : notedBy (MM F.C.w) F.C.A F.C.env R (.ref e) s := by
  unfold notedBy
  rw [K.ee]
  exact noteAny K.c.fr K.c.ff x.exc fun h' hh u => h _ ⟨⟨x.same.1, x.same.2.1, x.same.2.2⟩, x.upto.trans (upto_v u), x.dr.upto u, hh⟩

theorem whileTurn_code {test : Expr} {body : List Stmt} {w : World} {A : Around} {env : Env} {R : Result → Shared → Prop}
    (h : wpAny (MM w) A (isTrue test env (eval test env)) (fun b s₂ =>
        if b then wpAny (MM w) A (execs body env) (fun f s₃ => match f with
            | .next | .cont => codeAny (MM w) A (.whileLoop test body [] env) R s₃
            | .brk => R (.ok .next) s₃
            | .ret v => R (.ok (.ret v)) s₃) (notedBy (MM w) A env fun e s' => R (.error e) s') s₂
        else R (.ok .next) s₂) (notedBy (MM w) A env fun e s' => R (.error e) s') s) : codeAny (MM w) A (.whileLoop test body [] env) R s := by
  refine codeAny_of_tree ?_
  show wpAny _ A ((whileTurn test body [] env).onRaise (fun x => do noteFrame x env; theTreesLotGoes x)) _ _ s
  refine wpAny_noted ?_
  simp only [whileTurn]
  refine wpAny_bind (wpAny_mono h (fun b s₂ h₂ => ?_) fun _ _ h' => h')
  cases b with
  | false =>
    simp only [Bool.false_eq_true, if_false] at h₂ ⊢
    exact wpAny_bind (wpAny_execs_nil (wpAny_pure h₂))
  | true =>
    simp only [if_true] at h₂ ⊢
    refine wpAny_bind (wpAny_mono h₂ (fun f s₃ h₃ => ?_) fun _ _ h' => h')
    cases f with
    | next => exact wpAny_pure ⟨rfl, h₃⟩
    | cont => exact wpAny_pure ⟨rfl, h₃⟩
    | brk => exact wpAny_pure h₃
    | ret v => exact wpAny_pure h₃

theorem WOk.step {test body o b} (h1 : TOk k nm (peek ℓ) δ test true δ1) (h2 : XsOk k nm ℓ δ1 body b ℓ2 δ2) (hb : b = .next ∨ b = .cont) (h3 : WOk k nm ℓ2 δ2 (.whileLoop test body []) o ℓ' δ') :
    WOk k nm ℓ δ (.whileLoop test body []) o ℓ' δ' := by
  constructor; intro F O s R K S hn hr he
  refine whileTurn_code (h1.run F.C s _ _ K.c (S.evPeek K) fun s1 a1 => ?_)
  rw [if_pos rfl]
  have n1 := keep_of_aft (O := O) a1
  have go : ∀ s2, Nxt F O ℓ2 δ2 s1 s2 → codeAny (MM F.C.w) F.C.A (.whileLoop test body [] F.C.env) R s2 := fun s2 n2 => by
    obtain ⟨⟨O2, S2, hO⟩, kp, sz⟩ := n2.trans (O := O) (s := s) (fun _ h => .inl h) n1 a1.sz
    exact h3.run F O2 s2 R K S2 (fun s3 e n3 => hn s3 e (n3.trans hO kp sz)) hr he
  refine h2.run F O s1 _ _ K (S.aft' K a1) (fun s2 e n2 => go s2 n2) (fun s2 e n2 => go s2 n2) (fun v av s2 e x => ?_) fun e X s2 h x => ?_
  · rcases hb with rfl | rfl <;> cases e
  · rcases hb with rfl | rfl <;> cases h
theorem WOk.stop {test body} (h1 : TOk k nm (peek ℓ) δ test false δ1) : WOk k nm ℓ δ (.whileLoop test body []) .next ℓ δ1 := by
  constructor; intro F O s R K S hn hr he
  refine whileTurn_code (h1.run F.C s _ _ K.c (S.evPeek K) fun s1 a1 => ?_)
  rw [if_neg Bool.false_ne_true]
  exact hn s1 rfl (Nxt.of_aft K S a1)
theorem WOk.ret {test body v} (h1 : TOk k nm (peek ℓ) δ test true δ1) (h2 : XsOk k nm ℓ δ1 body (.ret v) ℓ2 δ2) : WOk k nm ℓ δ (.whileLoop test body []) (.ret v) ℓ2 δ2 := by
  constructor; intro F O s R K S hn hr he
  refine whileTurn_code (h1.run F.C s _ _ K.c (S.evPeek K) fun s1 a1 => ?_)
  rw [if_pos rfl]
  exact h2.run F O s1 _ _ K (S.aft' K a1) (fun s2 e n2 => nomatch e) (fun s2 e n2 => nomatch e) (fun v av s2 e x => hr v av s2 e x) fun e X s2 h x => nomatch h
theorem WOk.exc {test body X} (h1 : TOk k nm (peek ℓ) δ test true δ1) (h2 : XsOk k nm ℓ δ1 body (.exc X) ℓ2 δ2) : WOk k nm ℓ δ (.whileLoop test body []) (.exc X) ℓ2 δ2 := by
  constructor; intro F O s R K S hn hr he
  refine whileTurn_code (h1.run F.C s _ _ K.c (S.evPeek K) fun s1 a1 => ?_)
  rw [if_pos rfl]
  exact h2.run F O s1 _ _ K (S.aft' K a1) (fun s2 e n2 => nomatch e) (fun s2 e n2 => nomatch e) (fun v av s2 e x => nomatch e) fun e X s2 h x => noted_exc K x fun s3 x3 => he e X s3 h x3

theorem back_exc (K : F.Ok k nm) {E : Value → Shared → Prop} {X e} (x : ExcStatH F X e δ' s) (h : ∀ s', ExcStat F X e δ' s' → E (.ref e) s') : cameBackBy (MM F.C.w) F.C.A F.C.env E (.ref e) s :=
  cameBack _ K.c.ef x.exc fun h' hh u => h _ ⟨⟨x.same.1, x.same.2.1, x.same.2.2⟩, x.upto.trans (upto_v u), x.dr.upto u, .inl (let ⟨a0, q⟩ := hh; ⟨a0, .inr (.inl q)⟩)⟩

theorem XOk.while {test body p o} (h : WOk k nm ℓ δ (.whileLoop test body []) o ℓ' δ') : XOk k nm ℓ δ (.While test body [] p) o ℓ' δ' := by
  constructor; intro F O s Q E K S hn hc hr he
  exact wpAny_While (h.run F O s _ K S (fun s' e n => hn s' e n) (fun v av s' e x => hr v av s' e x) fun e X s' h x => back_exc K x fun s2 x2 => he e X s2 h x2)

/-- x += e for a number -/
theorem XOk.augAdd {x np e p} {a b : Int} (h0 : ℓ.lookup x = some (.val (.int a))) (h : EvOk k nm (peek ℓ) δ e (.ok (.int b)) δ') (hx : nm.lookup x = some .local) :
    XOk k nm ℓ δ (.AugAssign (.Name x np) .Add e p) .next (setL x (.val (.int (a + b))) ℓ) δ' := by
  constructor; intro F O s Q E K S hn hc hr he
  have hkx : F.C.env.kindOf x = some .local := (K.c.kindOf x).trans hx
  obtain ⟨m0, hns0, hl0, _⟩ := S.nml
  obtain ⟨v0, hv0, r0⟩ := hl0 x _ h0
  have hm0 : m0 x = some v0 := by
    rcases hv0 with ⟨_, e⟩ | ⟨hk, _⟩
    · exact e
    · rw [hkx] at hk; rcases hk with hk | ⟨hk, _⟩ <;> cases hk
  cases r0
  refine wpAny_AugAssign_Name (wpAny_loadName_local K.c.kind hkx (m := m0) (by rw [K.loc]; exact hns0.keeps v_stays_real) hm0 ?_)
  refine h.run F.C s _ _ K.c (S.evPeek K) (fun v av1 s1 e1 a1 r1 => ?_) fun e X s1 e1 _ => nomatch e1
  cases e1; cases r1
  refine wpAny_iadd_int ?_
  have a2 : Aft F.C s { s1 with toks := s1.toks + 1 } δ' := a1.trans (Aft.of_tok ((S.evPeek K).aft K.c a1))
  have S1 := S.aft' K a2
  obtain ⟨m, hns, hl, hi⟩ := S1.nml
  refine wpAny_storeName_local hkx (m := m) (by rw [K.loc]; exact hns.keeps v_stays_real) (fun h' hn' hs => ?_) (by rw [K.c.kind]; rfl)
  rw [K.loc] at hn' hs
  refine hn _ rfl ⟨⟨O, S1.stored K hns hl hi hn' hs ?_ (fun q => nomatch q), fun _ h => .inl h⟩, ?_, ?_⟩
  · exact ⟨.int (a + b) s1.toks, .inl ⟨hkx, by simp⟩, .int _ _⟩
  · intro b o hb e'
    exact (hs.2 b fun q => hb (by subst q; simp)).trans (keep_of_aft (O := O) a2 b o hb e')
  · show s.heap.objs.size ≤ h'.objs.size
    rw [hs.1]; exact a2.sz
end
end Mine

namespace Mine
set_option maxRecDepth 100000

theorem runs_size {M : Model} {Γ : Ctx} {p : Pos} {t : Sem Fin} {fs : List Frame} {s s' : Shared} {e : End} (h : Runs M Γ p t fs s e s') : s.heap.objs.size ≤ s'.heap.objs.size := by
  induction h <;> (try simp only [Shared.setGen, Heap.size_push, Heap.size_update] at *) <;> omega
theorem wakes_size {M : Model} {Γ : Ctx} {p : Pos} {g : Nat} {r : Resume} {s s' : Shared} {res : GenResult} (h : Wakes M Γ p g r s res s') : s.heap.objs.size ≤ s'.heap.objs.size := by
  unfold Wakes at h
  split at h
  · exact h.elim
  · split at h
    · obtain ⟨e₁, s₁, hr, _, _, rfl⟩ := h; exact (runs_size hr : (s.setGen g .running).heap.objs.size ≤ s₁.heap.objs.size)
    · rw [h.2]; exact Nat.le_refl _
    · rw [h.2]; exact Nat.le_refl _
  · obtain ⟨e₁, s₁, hr, _, _, rfl⟩ := h; exact (runs_size hr : (s.setGen g .running).heap.objs.size ≤ s₁.heap.objs.size)
  · rw [h.2]; exact Nat.le_refl _
  · rw [h.2]; exact Nat.le_refl _
theorem wp_size {α : Type} (M : Model) (Γ : Ctx) (n : Nat) (t : Sem α) : ∀ (Q : α → Pos → Shared → Prop) (E : Value → Pos → Shared → Prop) (p : Pos) (s : Shared), n ≤ s.heap.objs.size → Sem.wp M Γ t Q E p s →
    Sem.wp M Γ t (fun a p' s' => n ≤ s'.heap.objs.size ∧ Q a p' s') (fun e p' s' => n ≤ s'.heap.objs.size ∧ E e p' s') p s := by
  induction t with
  | pure a => intro Q E p s hn h; exact ⟨hn, h⟩
  | raise e => intro Q E p s hn h; exact ⟨hn, h⟩
  | unsupported _ => intro Q E p s _ h; exact h
  | finish _ => intro Q E p s _ h; exact h
  | rule _ k ih => intro Q E p s hn h; exact ih () Q E p s hn h
  | «at» p' k ih => intro Q E p s hn h; exact ih () Q E p' s hn h
  | load a _ k ih => intro Q E p s hn h; obtain ⟨o, ho, h⟩ := h; exact ⟨o, ho, ih o Q E p s hn h⟩
  | update a _ f k ih => intro Q E p s hn h; exact ⟨h.1, ih () Q E p _ (by simpa [Heap.size_update] using hn) h.2⟩
  | loadIfAlive a k ih => intro Q E p s hn h; exact ih _ Q E p s hn h
  | point _ k ih => intro Q E p s hn h; exact ih () Q E p s hn h
  | register _ _ => intro Q E p s _ h; exact h
  | alloc o k ih => intro Q E p s hn h; exact ih _ Q E p _ (by show n ≤ (s.heap.push o).objs.size; rw [Heap.size_push]; exact Nat.le_succ_of_le hn) h
  | fresh k ih => intro Q E p s hn h; exact ih _ Q E p _ hn h
  | ask k ih => intro Q E p s hn h; exact ih _ Q E p s hn h
  | choose src m k ih => intro Q E p s hn h; exact ⟨h.1, ih _ Q E p _ hn h.2⟩
  | os q _ k ih => intro Q E p s hn h; exact ih _ Q E p _ hn h
  | call c hd _ _ k ih => intro Q E p s hn h; obtain ⟨r, s', hr, h⟩ := h; exact ⟨r, s', hr, ih r Q E p s' (Nat.le_trans hn (runs_size hr)) h⟩
  | handled own k ih => intro Q E p s hn h; exact ih _ Q E p s hn h
  | genState g k ih => intro Q E p s hn h; obtain ⟨st, hs, h⟩ := h; exact ⟨st, hs, ih _ Q E p s hn h⟩
  | newGen c k ih => intro Q E p s hn h; exact ih _ Q E p _ hn h
  | resume g r _ k ih => intro Q E p s hn h; obtain ⟨res, s', hw, h⟩ := h; exact ⟨res, s', hw, ih res Q E p s' (Nat.le_trans hn (wakes_size hw)) h⟩
  | yield _ _ _ _ => intro Q E p s _ h; exact h
  | stack k ih => intro Q E p s hn h; exact ih _ Q E p s hn h
  | fork _ _ => intro Q E p s _ h; exact h
  | thread k ih => intro Q E p s hn h; exact ih _ Q E p s hn h
  | await _ _ _ _ _ => intro Q E p s _ h; exact h

theorem wpAny_size {α : Type} {M : Model} {A : Around} {s : Shared} {t : Sem α} {Q : α → Shared → Prop} {E : Value → Shared → Prop}
    (h : wpAny M A t (fun a s' => s.heap.objs.size ≤ s'.heap.objs.size → Q a s') E s) : wpAny M A t Q E s := by
  have h' : wpAny M A t (fun a s' => s.heap.objs.size ≤ s'.heap.objs.size ∧ (s.heap.objs.size ≤ s'.heap.objs.size → Q a s')) (fun e s' => s.heap.objs.size ≤ s'.heap.objs.size ∧ E e s') s :=
    fun Γ p hΓ => wp_size M Γ s.heap.objs.size t _ _ p s (Nat.le_refl _) (h Γ p hΓ)
  exact wpAny_mono h' (fun a s' h => h.2 h.1) fun e s' h => h.2

/-! ## walking over a value -/
noncomputable def ItOk (a : AV) (items : List AV) : Prop :=
  ∀ (w : World) (D : DA) (A : Around) (H : List Addr) (s : Shared) (va : Value) (Q : Value → Shared → Prop) (E : Value → Shared → Prop), A.handled = none → Rd w D s.heap H va a →
    (∀ (o : Obj) (fp : List Addr) (P : Nat → Value → Prop) (St : Nat → Heap → Prop), (∀ A' : Around, A'.handled = none → Walks pw w A' s.heap.objs.size fp [s.heap.objs.size] items.length P St) → St 0 (s.heap.push o) →
      (∀ b ∈ fp, b = s.heap.objs.size ∨ (b < s.heap.objs.size ∧ b ∉ H)) →
      (∀ i v, i < items.length → P i v → ∃ av, items[i]? = some av ∧ Rd w D s.heap H v av) → Q (.ref s.heap.objs.size) { s with heap := s.heap.push o }) →
    wpAny (MM w) A (pyIter va) Q E s

theorem walk_to {w A I fp P St} {m n : Nat} (e : m = n) (x : Walks pw w A I fp [I] m P St) : Walks pw w A I fp [I] n P St := e ▸ x

theorem RdL.pick {w D h H} : ∀ {vs as}, RdL w D h H vs as → ∀ {i : Nat} {v}, vs[i]? = some v → ∃ a, as[i]? = some a ∧ Rd w D h H v a
  | _, _, .nil, _, _, e => by simp at e
  | _, _, .cons h1 _, 0, _, e => by simp at e; exact ⟨_, rfl, e ▸ h1⟩
  | _, _, .cons _ h2, i + 1, _, e => by simpa using RdL.pick h2 (i := i) (by simpa using e)

theorem ItOk.list {xs} : ItOk (.list xs) xs := by
  intro w D A H s va Q E hh r hq
  cases r with | @list a items _ h1 h2 hs h3 =>
  have hlt : a < s.heap.objs.size := let ⟨_, ho, _⟩ := h1; Heap.lt_size ho
  have hn : items.size = xs.length := by rw [← h3.length]; simp
  refine wpAny_pyIter_list h1 (hq _ [s.heap.objs.size, a] (fun i v => items[i]? = some v) (fun i h => h.IsListIter s.heap.objs.size a i ∧ h.IsList a items)
    (fun A' hA => walk_to hn (Walks.list hA _ _ (Nat.ne_of_lt hlt) items)) ⟨⟨_, Heap.get?_push_size _ rfl, rfl, rfl⟩, h1.push _⟩ (fun b hb => ?_) fun i v hi e => ?_)
  · simp at hb
    exact hb.imp id fun e => by subst e; exact ⟨hlt, h2⟩
  · exact h3.pick (by simpa using e)
theorem ints_pick : ∀ {vs : List Value} {ns : List Int}, IntsAre vs ns → ∀ {i : Nat} {v}, vs[i]? = some v → ∃ n, ns[i]? = some n ∧ ∃ t, v = .int n t
  | _, _, .nil, _, _, e => by simp at e
  | _, _, .cons _ _ r, 0, _, e => by simp at e; exact ⟨_, rfl, _, e.symm⟩
  | _, _, .cons _ _ r, i + 1, _, e => by simpa using ints_pick r (i := i) (by simpa using e)
theorem ItOk.raw {ns} : ItOk (.raw ns) (ns.map AV.int) := by
  intro w D A H s va Q E hh r hq
  cases r with | @raw a items _ h1 h2 h3 =>
  have hlt : a < s.heap.objs.size := let ⟨_, ho, _⟩ := h1; Heap.lt_size ho
  have hn : items.size = (ns.map AV.int).length := by have := h3.length; simp at this ⊢; omega
  refine wpAny_pyIter_list h1 (hq _ [s.heap.objs.size, a] (fun i v => items[i]? = some v) (fun i h => h.IsListIter s.heap.objs.size a i ∧ h.IsList a items)
    (fun A' hA => walk_to hn (Walks.list hA _ _ (Nat.ne_of_lt hlt) items)) ⟨⟨_, Heap.get?_push_size _ rfl, rfl, rfl⟩, h1.push _⟩ (fun b hb => ?_) fun i v hi e => ?_)
  · simp at hb
    exact hb.imp id fun e => by subst e; exact ⟨hlt, h2⟩
  · obtain ⟨n, hn', t, rfl⟩ := ints_pick h3 (by simpa using e)
    exact ⟨.int n, by simp [hn'], .int _ _⟩
theorem ItOk.tuple {xs} : ItOk (.tuple xs) xs := by
  intro w D A H s va Q E hh r hq
  cases r with | @tuple a items _ h1 h2 h3 =>
  have hlt : a < s.heap.objs.size := let ⟨_, ho, _⟩ := h1; Heap.lt_size ho
  have hn : items.size = xs.length := by rw [← h3.length]; simp
  refine wpAny_pyIter_tuple h1 (hq _ [s.heap.objs.size, a] (fun i v => items[i]? = some v) (fun i h => h.IsTupleIter s.heap.objs.size a i ∧ h.IsTuple a items)
    (fun A' hA => walk_to hn (Walks.tuple hA _ _ (Nat.ne_of_lt hlt) items)) ⟨⟨_, Heap.get?_push_size _ rfl, rfl, rfl⟩, h1.push _⟩ (fun b hb => ?_) fun i v hi e => ?_)
  · simp at hb
    exact hb.imp id fun e => by subst e; exact ⟨hlt, h2⟩
  · exact h3.pick (by simpa using e)
theorem ItOk.str {x : Str} : ItOk (.str x) (x.cps.toList.map fun c => .str ⟨#[c]⟩) := by
  intro w D A H s va Q E hh r hq
  cases r with | str _ t =>
  refine wpAny_pyIter_str fun o St W hst => hq o [s.heap.objs.size] (SignAt x) St (fun A' hA => walk_to (by simp) (W A' hA)) hst (fun b hb => ?_) fun i v hi e => ?_
  · simp at hb; exact .inl hb
  · obtain ⟨c, u, hc, rfl⟩ := e
    exact ⟨_, by simp [hc], .str _ _⟩
theorem ItOk.dict {es} : ItOk (.dict es) (es.map fun e => .str e.1) := by
  intro w D A H s va Q E hh r hq
  cases r with | @dict a kvs _ h1 h2 hs h3 h4 =>
  have hlt : a < s.heap.objs.size := let ⟨_, _, _, ho, _⟩ := h1; Heap.lt_size ho
  obtain ⟨o, es', ep, ho, r⟩ := h1
  have hd : s.heap.DictAt (PySem.strKind pw w) a kvs ep := ⟨o, es', ho, r⟩
  have hn : kvs.length = (es.map fun e => AV.str e.1).length := by
    have := congrArg List.length h3
    simpa using this
  refine wpAny_pyIter_dict (ne_sys hs) hd (hq _ [s.heap.objs.size, a] (fun i v => ∃ k x, kvs[i]? = some (k, x) ∧ (PySem.strKind pw w).is k v = true)
    (fun i h => h.IsKeyIter s.heap.objs.size a i kvs.length ep ∧ h.DictAt (PySem.strKind pw w) a kvs ep)
    (fun A' hA => walk_to hn (Walks.dictKeys hA _ _ (Nat.ne_of_lt hlt) kvs ep)) ⟨⟨_, Heap.get?_push_size _ rfl, rfl, rfl⟩, hd.push _⟩ (fun b hb => ?_) fun i v hi e => ?_)
  · simp at hb
    exact hb.imp id fun e => by subst e; exact ⟨hlt, h2⟩
  · obtain ⟨k, x, hk, he⟩ := e
    have hk' : (kvs.map (·.1))[i]? = some k := by simp [hk]
    rw [h3] at hk'
    have hv : ∃ t, v = .str k t := by
      simp only [PySem.strKind, Value.isStrOf] at he
      cases v <;> simp_all
    obtain ⟨t, rfl⟩ := hv
    refine ⟨.str k, ?_, .str _ _⟩
    rw [List.getElem?_map] at hk' ⊢
    cases hq : es[i]? with
    | none => rw [hq] at hk'; cases hk'
    | some e => rw [hq] at hk'; simp at hk' ⊢; exact hk'
theorem ItOk.idict {es} : ItOk (.idict es) (es.map fun e => .int e.1) := by
  intro w D A H s va Q E hh r hq
  cases r with | @idict a kvs _ h1 h2 hs h3 h4 =>
  have hlt : a < s.heap.objs.size := let ⟨_, _, _, ho, _⟩ := h1; Heap.lt_size ho
  obtain ⟨o, es', ep, ho, r⟩ := h1
  have hd : s.heap.DictAt (PySem.intKind pw w) a kvs ep := ⟨o, es', ho, r⟩
  have hn : kvs.length = (es.map fun e => AV.int e.1).length := by
    have := congrArg List.length h3
    simpa using this
  refine wpAny_pyIter_dict (ne_sys hs) hd (hq _ [s.heap.objs.size, a] (fun i v => ∃ k x, kvs[i]? = some (k, x) ∧ (PySem.intKind pw w).is k v = true)
    (fun i h => h.IsKeyIter s.heap.objs.size a i kvs.length ep ∧ h.DictAt (PySem.intKind pw w) a kvs ep)
    (fun A' hA => walk_to hn (Walks.dictKeys hA _ _ (Nat.ne_of_lt hlt) kvs ep)) ⟨⟨_, Heap.get?_push_size _ rfl, rfl, rfl⟩, hd.push _⟩ (fun b hb => ?_) fun i v hi e => ?_)
  · simp at hb
    exact hb.imp id fun e => by subst e; exact ⟨hlt, h2⟩
  · obtain ⟨k, x, hk, he⟩ := e
    have hk' : (kvs.map (·.1))[i]? = some k := by simp [hk]
    rw [h3] at hk'
    have hv : ∃ t, v = .int k t := by
      simp only [PySem.intKind, Value.isInt] at he
      cases v <;> simp_all
    obtain ⟨t, rfl⟩ := hv
    refine ⟨.int k, ?_, .int _ _⟩
    rw [List.getElem?_map] at hk' ⊢
    cases hq : es[i]? with
    | none => rw [hq] at hk'; cases hk'
    | some e => rw [hq] at hk'; simp at hk' ⊢; exact hk'
theorem ItOk.range {n : Nat} (hn : n < 1000) : ItOk (.range n) ((List.range n).map fun i => .int (Int.ofNat i)) := by
  intro w D A H s va Q E hh r hq
  cases r with | @range a t u v _ h1 h2 =>
  have hsz : Builtin.Range.rangeSize 0 (n : Int) 1 = n := by
    unfold Builtin.Range.rangeSize
    simp
    omega
  have hsm : Builtin.Range.small 0 (n : Int) 1 = true := by
    unfold Builtin.Range.small
    rw [hsz]
    simp [Builtin.Range.rangeFitsLong]
    omega
  refine wpAny_pyIter_range h1 hsm (hq _ [s.heap.objs.size] (fun i v => ∃ t, v = .int (0 + i * 1) t) (fun i h => IsRangeIter h s.heap.objs.size (0 + (i : Nat) * 1) ((n : Int) - (i : Nat)) 1)
    (fun A' hA => walk_to (by simp) (Walks.range hA _ 0 1 n)) ?_ (fun b hb => ?_) fun i v hi e => ?_)
  · show IsRangeIter _ _ _ _ _
    rw [hsz]
    have e1 : (0 : Int) + ((0 : Nat) : Int) * 1 = 0 := by simp
    have e2 : (n : Int) - ((0 : Nat) : Int) = n := by simp
    rw [e1, e2]
    exact Heap.get?_push_size _ rfl
  · simp at hb; exact .inl hb
  · obtain ⟨t, rfl⟩ := e
    refine ⟨.int (Int.ofNat i), by simp at hi; simp [hi], ?_⟩
    have e1 : (0 : Int) + (i : Int) * 1 = Int.ofNat i := by simp
    rw [e1]
    exact .int _ _
end Mine

namespace Mine
set_option maxRecDepth 100000

theorem forTurn_code {x : Str} {px : Pos} {it : Value} {body : List Stmt} {w : World} {A : Around} {env : Env} {R : Result → Shared → Prop} {s : Shared}
    (h : wpAny (MM w) A (pyNext it) (fun r s₁ => match r with
      | none => R (.ok .next) s₁
      | some v => wpAny (MM w) A (storeName env x v) (fun _ s₂ => wpAny (MM w) A (execs body env) (fun f s₃ => match f with
          | .next | .cont => codeAny (MM w) A (.forLoop (.Name x px) it body [] env) R s₃
          | .brk => R (.ok .next) s₃
          | .ret v => R (.ok (.ret v)) s₃) (notedBy (MM w) A env fun e s' => R (.error e) s') s₂) (notedBy (MM w) A env fun e s' => R (.error e) s') s₁)
      (notedBy (MM w) A env fun e s' => R (.error e) s') s) : codeAny (MM w) A (.forLoop (.Name x px) it body [] env) R s := by
  refine codeAny_of_tree ?_
  show wpAny _ A ((forTurn (.Name x px) it body [] env).onRaise (fun x => do noteFrame x env; theTreesLotGoes x)) _ _ s
  refine wpAny_noted ?_
  simp only [forTurn]
  refine wpAny_bind (wpAny_standAt (wpAny_bind (wpAny_onRaise (wpAny_mono h (fun r s₁ h₁ => ?_) fun _ _ h' => wpAny_standAt h'))))
  cases r with
  | none => exact wpAny_pure ⟨rfl, codeAny_block (wpAny_execs_nil h₁)⟩
  | some v =>
    refine wpAny_bind (wpAny_of_eq (a := ()) rfl ?_)
    refine wpAny_bind (wpAny_mono (wpAny_assign_Name h₁) (fun _ s₂ h₂ => wpAny_bind (wpAny_mono h₂ (fun f s₃ h₃ => ?_) fun _ _ h' => h')) fun _ _ h' => h')
    cases f with
    | next => exact wpAny_pure ⟨rfl, h₃⟩
    | cont => exact wpAny_pure ⟨rfl, h₃⟩
    | brk => exact wpAny_pure h₃
    | ret v => exact wpAny_pure h₃

/-- one more address is hidden while a loop runs -/
noncomputable def FCx.more (F : FCx) (I : Addr) : FCx := { F with C := F.C.hide [I] }
theorem FCx.Ok.more {F : FCx} {k nm} (K : F.Ok k nm) (I : Addr) : (F.more I).Ok k nm :=
  ⟨K.c.hide _, K.ee, K.loc, K.h0n, K.cells, K.gl0, K.base0, K.ff0, List.mem_append_left _ K.lfH, K.szL⟩

section
variable {F : FCx} {O : List Addr} {ℓ ℓ1 ℓ2 ℓ' : Loc} {δ δ1 δ2 δ' : Draw} {s s1 s' : Shared} {k : Nat} {nm : List (Str × NameKind)} {I : Addr}

theorem mem_more {b : Addr} : b ∈ (F.C.H ++ [I]) ++ O ↔ b = I ∨ b ∈ F.C.H ++ O := by
  simp only [List.mem_append, List.mem_singleton]
  constructor
  · rintro ((h | h) | h)
    · exact .inr (.inl h)
    · exact .inl h
    · exact .inr (.inr h)
  · rintro (h | h | h)
    · exact .inl (.inr h)
    · exact .inl (.inl h)
    · exact .inr h

theorem LvIs.weak {H' : List Addr} {m : Str → Option Value} {x : Str} {lv : LV} (hs : ∀ b ∈ F.C.H ++ O, b ∈ (F.C.H ++ [I]) ++ O) (h : LvIs (F.more I) O m s x lv) : LvIs F O m s x lv := by
  cases lv with
  | val av => obtain ⟨v, hv, hr⟩ := h; exact ⟨v, hv, hr.weak hs⟩
  | own xs => obtain ⟨h1, a, items, hm, ha, hl, hr⟩ := h; exact ⟨h1, a, items, hm, ha, hl, hr.weak hs⟩
  | ownD es => obtain ⟨h1, a, kvs, hm, ha, hd, hsy, e, hr⟩ := h; exact ⟨h1, a, kvs, hm, ha, hd, hsy, e, hr.weak hs⟩

theorem StSt.less (S : StSt (F.more I) O ℓ δ s) : StSt F O ℓ δ s where
  same := S.same
  dr := S.dr
  h0 := S.h0
  hid := fun a ha => S.hid a (List.mem_append_left _ ha)
  cel := S.cel
  own := fun a ha => let ⟨h1, h2⟩ := S.own a ha; ⟨fun q => h1 (List.mem_append_left _ q), h2⟩
  nml := let ⟨m, hn, hl, hi⟩ := S.nml; ⟨m, hn, fun x lv e => (hl x lv e).weak (H' := []) fun b hb => mem_more.mpr (.inr hb), hi⟩

theorem LvIs.strong {m : Str → Option Value} {x : Str} {lv : LV} (hI : s.heap.objs.size ≤ I) (h : LvIs F O m s x lv) : LvIs (F.more I) O m s x lv := by
  have hh : ∀ b ∈ (F.C.H ++ [I]) ++ O, s.heap.objs.size ≤ b ∨ b ∈ F.C.H ++ O := fun b hb => (mem_more.mp hb).imp (fun e => by subst e; exact hI) id
  cases lv with
  | val av => obtain ⟨v, hv, hr⟩ := h; exact ⟨v, hv, hr.fresh (Nat.le_refl _) hh⟩
  | own xs => obtain ⟨h1, a, items, hm, ha, hl, hr⟩ := h; exact ⟨h1, a, items, hm, ha, hl, hr.fresh (Nat.le_refl _) hh⟩
  | ownD es => obtain ⟨h1, a, kvs, hm, ha, hd, hsy, e, hr⟩ := h; exact ⟨h1, a, kvs, hm, ha, hd, hsy, e, hr.fresh (Nat.le_refl _) hh⟩

/-- a fresh object is put down and hidden -/
theorem StSt.putHid (K : F.Ok k nm) (S : StSt F O ℓ δ s) (o : Obj) {t : Nat} : StSt (F.more s.heap.objs.size) O ℓ δ { s with heap := s.heap.push o, toks := t } := by
  have kp : (F.C.v s).StaysIn (F.C.v { s with heap := s.heap.push o, toks := t }) := v_push_stays
  have kr : ∀ b o', s.heap.get? b = some o' → (s.heap.push o).get? b = some o' := fun b o' e => Heap.get?_push_of_some _ e
  have S' := S.aft (s' := { s with heap := s.heap.push o, toks := t }) K ⟨rfl, rfl, rfl⟩ kp (S.dr.keep kr) (by show s.heap.objs.size ≤ (s.heap.push o).objs.size; rw [Heap.size_push]; omega)
  have hS : ∀ a, a < s.heap.objs.size → a < (s.heap.push o).objs.size := fun a h => by rw [Heap.size_push]; omega
  refine ⟨S'.same, S'.dr, S'.h0, fun a ha => ?_, S'.cel, fun a ha => ?_, ?_⟩
  · rcases List.mem_append.mp ha with h | h
    · exact S'.hid a h
    · have : a = s.heap.objs.size := by simpa using h
      subst this; exact ⟨gl_big (S.gl K), by show _ < (s.heap.push o).objs.size; rw [Heap.size_push]; omega⟩
  · obtain ⟨h1, h2, h4, h3⟩ := S.own a ha
    refine ⟨fun q => ?_, h2, h4, hS _ h3⟩
    rcases List.mem_append.mp q with h | h
    · exact h1 h
    · have : a = s.heap.objs.size := by simpa using h
      subst this; exact Nat.lt_irrefl _ h3
  · obtain ⟨m, hn, hl, hi⟩ := S.nml
    refine ⟨m, hn.keeps kp, fun x lv e => ?_, hi⟩
    have := (hl x lv e).strong (I := s.heap.objs.size) (Nat.le_refl _)
    exact LvIs.keep (F := F.more s.heap.objs.size) kp (fun a ha => List.mem_append_left _ (K.c.dsub a ha)) (fun a ha q => (S.own a ha).1 (K.c.dsub a q)) this

theorem Nxt.less (n : Nxt (F.more I) O ℓ' δ' s s') : Nxt F O ℓ' δ' s s' :=
  let ⟨⟨O', S', h⟩, kp, sz⟩ := n; ⟨⟨O', S'.less, h⟩, kp, sz⟩
theorem RetAt.less {v av} (x : RetAt (F.more I) v av δ' s') : RetAt F v av δ' s' := ⟨x.same, x.h0, x.dr, x.sz, x.rd.weak fun b hb => List.mem_append_left _ hb⟩
theorem ExcStat.less {X e} (x : ExcStat (F.more I) X e δ' s') : ExcStat F X e δ' s' := ⟨x.same, x.upto, x.dr, x.exc⟩
theorem ExcStatH.less {X e} (x : ExcStatH (F.more I) X e δ' s') : ExcStatH F X e δ' s' := ⟨x.same, x.upto, x.dr, x.exc⟩

/-! ## for -/
structure Walk1 (F : FCx) (O : List Addr) (s : Shared) (I : Addr) (fp : List Addr) (n : Nat) (P : Nat → Value → Prop) (St : Nat → Heap → Prop) (items : List AV) : Prop where
  i : ∃ i, i + items.length = n ∧ St i s.heap ∧ ∀ j v, j < items.length → P (i + j) v → ∃ av, items[j]? = some av ∧ Rd F.C.w F.C.D s.heap (F.C.H ++ O) v av
  w : ∀ A' : Around, A'.handled = none → Walks pw F.C.w A' I fp [I] n P St
  apart : ∀ b ∈ fp, b ∉ Dl F.C.D ++ F.C.Lf :: O
  old : ∀ b ∈ fp, b < s.heap.objs.size
  self : I ∈ F.C.H
  nD : I ∉ Dl F.C.D
  nL : I ≠ F.C.Lf
  n0 : F.h0.get? I = none
  nc : ∀ x c, F.C.env.cells.lookup x = some c → c ≠ I

structure LNxt (F : FCx) (O : List Addr) (I : Addr) (ℓ' : Loc) (δ' : Draw) (s s' : Shared) : Prop where
  ex : ∃ O', StSt F O' ℓ' δ' s' ∧ (∀ a ∈ O', a ∈ O ∨ s.heap.objs.size ≤ a)
  kp : Keep (Dl F.C.D ++ F.C.Lf :: I :: O) s.heap s'.heap
  sz : s.heap.objs.size ≤ s'.heap.objs.size

structure LOk (k : Nat) (nm : List (Str × NameKind)) (ℓ : Loc) (δ : Draw) (x : Str) (items : List AV) (body : List Stmt) (o : Out) (ℓ' : Loc) (δ' : Draw) : Prop where
  run : ∀ (px : Pos) (F : FCx) (O : List Addr) (s : Shared) (R : Result → Shared → Prop) (I : Addr) (fp : List Addr) (n : Nat) (P : Nat → Value → Prop) (St : Nat → Heap → Prop), F.Ok k nm → StSt F O ℓ δ s →
    Walk1 F O s I fp n P St items →
    (∀ s', o = .next → LNxt F O I ℓ' δ' s s' → R (.ok .next) s') →
    (∀ v av s', o = .ret av → RetAt F v av δ' s' → R (.ok (.ret v)) s') → (∀ e X s', o = .exc X → ExcStatH F X e δ' s' → R (.error (.ref e)) s') →
    codeAny (MM F.C.w) F.C.A (.forLoop (.Name x px) (.ref I) body [] F.C.env) R s

/-- an address that a loop's iterator has for itself may change -/
theorem StSt.tick (K : F.Ok k nm) (S : StSt F O ℓ δ s) (hI : I ∈ F.C.H) (hD : I ∉ Dl F.C.D) (hL : I ≠ F.C.Lf) (h0 : F.h0.get? I = none) (hc : ∀ x c, F.C.env.cells.lookup x = some c → c ≠ I) {h' : Heap} {t : Nat}
    (hk : ∀ b o, b ∉ [I] → s.heap.get? b = some o → h'.get? b = some o) (hz : s.heap.objs.size ≤ h'.objs.size) : StSt F O ℓ δ { s with heap := h', toks := t } := by
  have ne : ∀ {b}, b ≠ I → b ∉ [I] := fun h => by simpa using h
  have kp : Keep (F.C.H ++ O) s.heap h' := fun b o hb e => hk b o (ne fun q => hb (List.mem_append_left _ (q ▸ hI))) e
  refine ⟨S.same, S.dr.of_eq fun a ha o e => ⟨o.slots, hk a o (ne fun q => hD (q ▸ ha)) e⟩, fun b o e => ?_, fun a ha => ⟨(S.hid a ha).1, Nat.lt_of_lt_of_le (S.hid a ha).2 hz⟩, fun x c e => Nat.lt_of_lt_of_le (S.cel x c e) hz, fun a ha => ?_, ?_⟩
  · have hne : b ≠ I := fun q => by rw [q, h0] at e; cases e
    exact get_v (hk b o (ne hne) (v_get (S.h0 b o e))) (v_notin (S.h0 b o e))
  · obtain ⟨h1, h2, h4, h3⟩ := S.own a ha
    exact ⟨h1, h2, h4, Nat.lt_of_lt_of_le h3 hz⟩
  · obtain ⟨m, hn, hl, hi⟩ := S.nml
    refine ⟨m, ?_, fun x lv e => ?_, hi⟩
    · obtain ⟨o, es, ep, ho, r⟩ := hn
      exact ⟨o, es, ep, get_v (hk _ o (ne hL.symm) (v_get ho)) (v_notin ho), r⟩
    · have hO : ∀ a ∈ O, a ≠ I := fun a ha q => (S.own a ha).1 (q ▸ hI)
      have h := hl x lv e
      cases lv with
      | val av =>
        obtain ⟨v, hv, hr⟩ := h
        exact ⟨v, hv.imp id fun ⟨hk', c, hc', o, ho', hd⟩ => ⟨hk', c, hc', o, get_v (hk c o (ne (hc _ _ hc')) (v_get ho')) (v_notin ho'), hd⟩, hr.keep kp⟩
      | own xs =>
        obtain ⟨h1, a, items, hm, ha, hl, hr⟩ := h
        exact ⟨h1, a, items, hm, ha, (let ⟨o, n, ho', r⟩ := hl; ⟨o, n, hk _ _ (ne (hO a ha)) ho', r⟩), hr.keep kp⟩
      | ownD es =>
        obtain ⟨h1, a, kvs, hm, ha, hd', hs, e, hr⟩ := h
        exact ⟨h1, a, kvs, hm, ha, (let ⟨o, es', ep, ho', r⟩ := hd'; ⟨o, es', ep, hk _ _ (ne (hO a ha)) ho', r⟩), hs, e, hr.keep kp⟩

theorem LNxt.trans {O1 : List Addr} (hO : ∀ a ∈ O1, a ∈ O ∨ s.heap.objs.size ≤ a) (kp : Keep (Dl F.C.D ++ F.C.Lf :: I :: O) s.heap s1.heap) (sz : s.heap.objs.size ≤ s1.heap.objs.size) (b : LNxt F O1 I ℓ' δ' s1 s') : LNxt F O I ℓ' δ' s s' := by
  obtain ⟨⟨O2, S2, h2⟩, k2, z2⟩ := b
  refine ⟨⟨O2, S2, fun a ha => (h2 a ha).elim (hO a) fun h => .inr (Nat.le_trans sz h)⟩, fun b o hb e => ?_, Nat.le_trans sz z2⟩
  refine k2 b o (fun q => ?_) (kp b o hb e)
  simp only [List.mem_append, List.mem_cons] at q hb
  rcases q with q | q | q | q
  · exact hb (.inl q)
  · exact hb (.inr (.inl q))
  · exact hb (.inr (.inr (.inl q)))
  · rcases hO b q with q | q
    · exact hb (.inr (.inr (.inr q)))
    · exact absurd (Heap.lt_size e) (Nat.not_lt.mpr q)

theorem keep_I {O : List Addr} {h h' : Heap} (kp : Keep (Dl F.C.D ++ F.C.Lf :: O) h h') : Keep (Dl F.C.D ++ F.C.Lf :: I :: O) h h' := kp.mono fun a ha => by
  simp only [List.mem_append, List.mem_cons] at ha ⊢
  rcases ha with q | q | q
  · exact .inl q
  · exact .inr (.inl q)
  · exact .inr (.inr (.inr q))

theorem LOk.nil {x body} : LOk k nm ℓ δ x [] body .next ℓ δ := by
  constructor; intro px F O s R I fp n P St K S W hn hr he
  obtain ⟨i, hi, hst, _⟩ := W.i
  have : i = n := by simpa using hi
  subst this
  refine forTurn_code (wpAny_size ((W.w _ K.c.room.handled).done _ _ _ hst fun h' tk hk hz => ?_))
  refine hn _ rfl ⟨⟨O, S.tick K W.self W.nD W.nL W.n0 W.nc hk hz, fun _ h => .inl h⟩, fun b o hb e => hk b o (fun q => hb ?_) e, hz⟩
  simp only [List.mem_singleton] at q
  simp [q]

/-- one turn; G says what is to be shown behind the body -/
theorem LOk.turn {x body a items} (hx : nm.lookup x = some .local) {px F O s R I fp n P St} (K : F.Ok k nm) (S : StSt F O ℓ δ s) (W : Walk1 F O s I fp n P St (a :: items))
    (h : ∀ s1, StSt F O (setL x (.val a) ℓ) δ s1 → Keep (Dl F.C.D ++ F.C.Lf :: I :: O) s.heap s1.heap → s.heap.objs.size ≤ s1.heap.objs.size →
      (∀ O2 s2, (∀ a ∈ O2, a ∈ O ∨ s1.heap.objs.size ≤ a) → Keep (Dl F.C.D ++ F.C.Lf :: O) s1.heap s2.heap → s1.heap.objs.size ≤ s2.heap.objs.size → Walk1 F O2 s2 I fp n P St items) →
      wpAny (MM F.C.w) F.C.A (execs body F.C.env) (fun f s₃ => match f with
          | .next | .cont => codeAny (MM F.C.w) F.C.A (.forLoop (.Name x px) (.ref I) body [] F.C.env) R s₃
          | .brk => R (.ok .next) s₃
          | .ret v => R (.ok (.ret v)) s₃) (notedBy (MM F.C.w) F.C.A F.C.env fun e s' => R (.error e) s') s1) :
    codeAny (MM F.C.w) F.C.A (.forLoop (.Name x px) (.ref I) body [] F.C.env) R s := by
  obtain ⟨i, hi, hst, hP⟩ := W.i
  have hin : i < n := by simp at hi; omega
  have hin' : i + 1 + items.length = n := by simp at hi; omega
  have Wk := W.w _ K.c.room.handled
  refine forTurn_code (wpAny_size (Wk.item i _ _ _ hin hst fun v h' tk hv hst' hk hz => ?_))
  obtain ⟨av, hav, hrd⟩ := hP 0 v (by simp) hv
  have : a = av := by simpa using hav
  subst this
  have S1 := S.tick (t := tk) K W.self W.nD W.nL W.n0 W.nc hk hz
  obtain ⟨m, hns, hl, hi'⟩ := S1.nml
  have hkx : F.C.env.kindOf x = some .local := (K.c.kindOf x).trans hx
  have kpO : Keep (F.C.H ++ O) s.heap h' := fun b o hb e => hk b o (fun q => hb (List.mem_append_left _ (by simp at q; exact q ▸ W.self))) e
  refine wpAny_storeName_local hkx (m := m) (by rw [K.loc]; exact hns.keeps v_stays_real) (fun h2 hn' hs => ?_) (by rw [K.c.kind]; rfl)
  rw [K.loc] at hn' hs
  have S2 := S1.stored (t := tk + 1) K hns hl hi' hn' hs (lv := .val a) ⟨v, .inl ⟨hkx, by simp⟩, hrd.keep kpO⟩ (fun q => nomatch q)
  have z1 : s.heap.objs.size ≤ h2.objs.size := by rw [hs.1]; exact hz
  have k1 : Keep (Dl F.C.D ++ F.C.Lf :: I :: O) s.heap h2 := fun b o hb e => by
    simp only [List.mem_append, List.mem_cons, not_or] at hb
    exact (hs.2 b hb.2.1).trans (hk b o (by simpa using hb.2.2.1) e)
  refine h { s with heap := h2, toks := tk + 1 } S2 k1 z1 fun O2 s2 hO2 kp2 z2 => ?_
  have hfp : ∀ b ∈ fp, ∀ o, h'.get? b = some o → s2.heap.get? b = some o := fun b hb o e => by
    have hnb := W.apart b hb
    have hbL : b ≠ F.C.Lf := fun q => hnb (by simp [q])
    exact kp2 b o hnb ((hs.2 b hbL).trans e)
  have kpO2 : Keep (F.C.H ++ O) s.heap s2.heap := fun b o hb e => by
    have e1 := kpO b o hb e
    have hbL : b ≠ F.C.Lf := fun q => hb (List.mem_append_left _ (q ▸ K.lfH))
    refine kp2 b o (fun q => hb ?_) ((hs.2 b hbL).trans e1)
    simp only [List.mem_append, List.mem_cons] at q ⊢
    rcases q with q | q | q
    · exact .inl (K.c.dsub b q)
    · exact absurd q hbL
    · exact .inr q
  refine ⟨⟨i + 1, hin', Wk.frame _ _ _ hst' hfp, fun j v hj hv => ?_⟩, W.w, fun b hb q => ?_, fun b hb => Nat.lt_of_lt_of_le (W.old b hb) (Nat.le_trans z1 z2), W.self, W.nD, W.nL, W.n0, W.nc⟩
  · obtain ⟨av, h1, h2⟩ := hP (j + 1) v (by simpa using hj) (by rw [show i + (j + 1) = i + 1 + j by omega]; exact hv)
    refine ⟨av, by simpa using h1, ((h2.fresh (H' := (F.C.H ++ O) ++ O2) (Nat.le_refl _) fun b hb => ?_).keep (kpO2.mono fun b hb => List.mem_append_left _ hb)).weak fun b hb => ?_⟩
    · rcases List.mem_append.mp hb with hb | hb
      · exact .inr hb
      · exact (hO2 b hb).elim (fun q => .inr (List.mem_append_right _ q)) fun q => .inl (Nat.le_trans z1 q)
    · rcases List.mem_append.mp hb with hb | hb
      · exact List.mem_append_left _ (List.mem_append_left _ hb)
      · exact List.mem_append_right _ hb
  · have hnb := W.apart b hb
    simp only [List.mem_append, List.mem_cons, not_or] at q hnb
    rcases q with q | q | q
    · exact hnb.1 q
    · exact hnb.2.1 q
    · rcases hO2 b q with q | q
      · exact hnb.2.2 q
      · exact absurd (Nat.lt_of_lt_of_le (W.old b hb) z1) (Nat.not_lt.mpr q)

theorem LOk.step {x body a items o b} (hx : nm.lookup x = some .local) (h2 : XsOk k nm (setL x (.val a) ℓ) δ body b ℓ2 δ2) (hb : b = .next ∨ b = .cont) (h3 : LOk k nm ℓ2 δ2 x items body o ℓ' δ') :
    LOk k nm ℓ δ x (a :: items) body o ℓ' δ' := by
  constructor; intro px F O s R I fp n P St K S W hn hr he
  refine LOk.turn hx K S W fun s1 S1 k1 z1 hW => ?_
  have go : ∀ s2, Nxt F O ℓ2 δ2 s1 s2 → codeAny (MM F.C.w) F.C.A (.forLoop (.Name x px) (.ref I) body [] F.C.env) R s2 := fun s2 n2 => by
    obtain ⟨⟨O2, S2, hO⟩, kp, sz⟩ := n2
    refine h3.run px F O2 s2 R I fp n P St K S2 (hW O2 s2 hO kp sz) (fun s3 e n3 => hn s3 e ?_) hr he
    exact LNxt.trans (O := O) (fun _ h => .inl h) k1 z1 (n3.trans hO (keep_I kp) sz)
  refine h2.run F O s1 _ _ K S1 (fun s2 e n2 => go s2 n2) (fun s2 e n2 => go s2 n2) (fun v av s2 e x => ?_) fun e X s2 h x => ?_
  · rcases hb with rfl | rfl <;> cases e
  · rcases hb with rfl | rfl <;> cases h
theorem LOk.exc {x body a items X} (hx : nm.lookup x = some .local) (h2 : XsOk k nm (setL x (.val a) ℓ) δ body (.exc X) ℓ2 δ2) : LOk k nm ℓ δ x (a :: items) body (.exc X) ℓ2 δ2 := by
  constructor; intro px F O s R I fp n P St K S W hn hr he
  refine LOk.turn hx K S W fun s1 S1 k1 z1 hW => ?_
  exact h2.run F O s1 _ _ K S1 (fun s2 e n2 => nomatch e) (fun s2 e n2 => nomatch e) (fun v av s2 e x => nomatch e) fun e X s2 h x => noted_exc K x fun s3 x3 => he e X s3 h x3
theorem LOk.ret {x body a items v} (hx : nm.lookup x = some .local) (h2 : XsOk k nm (setL x (.val a) ℓ) δ body (.ret v) ℓ2 δ2) : LOk k nm ℓ δ x (a :: items) body (.ret v) ℓ2 δ2 := by
  constructor; intro px F O s R I fp n P St K S W hn hr he
  refine LOk.turn hx K S W fun s1 S1 k1 z1 hW => ?_
  exact h2.run F O s1 _ _ K S1 (fun s2 e n2 => nomatch e) (fun s2 e n2 => nomatch e) (fun v av s2 e x => hr v av s2 e x) fun e X s2 h x => nomatch h

theorem XOk.for {x px iter body p a items o} (h1 : EvOk k nm (vals ℓ) δ iter (.ok a) δ1) (hi : ItOk a items) (h : LOk k nm ℓ δ1 x items body o ℓ' δ')
    (hs : ∀ env v, foldedSetIterable iter env v = pure v := by intro _ _; rfl) : XOk k nm ℓ δ (.For (.Name x px) iter body [] p) o ℓ' δ' := by
  constructor; intro F O s Q E K S hn hc hr he
  refine wpAny_For (h1.run (F.C.hide O) s _ _ (K.c.hide O) (S.evVals K) (fun va av s1 e1 a1 r1 => ?_) fun e X s1 e1 _ => nomatch e1) (hs _)
  cases e1
  have a1 := aft_back a1
  have S1 := S.aft' K a1
  refine hi F.C.w F.C.D F.C.A (F.C.H ++ O) s1 va _ _ K.c.room.handled r1 fun o' fp P St W hst hfp hP => ?_
  have S2 := S1.putHid (t := s1.toks) K o'
  have nI : ∀ a, a < s1.heap.objs.size → s1.heap.objs.size ≠ a := fun a h q => Nat.lt_irrefl _ (q ▸ h)
  have W1 : Walk1 (F.more s1.heap.objs.size) O { s1 with heap := s1.heap.push o' } s1.heap.objs.size fp items.length P St items := {
    i := ⟨0, by simp, hst, fun j v hj hv => by
      obtain ⟨av, h1, h2⟩ := hP (0 + j) v (by simpa using hj) hv
      refine ⟨av, by simpa using h1, (h2.fresh (Nat.le_refl _) fun b hb => (mem_more.mp hb).imp (fun e => Nat.le_of_eq e.symm) id).keep fun b o _ e => Heap.get?_push_of_some _ e⟩⟩
    w := W
    apart := fun b hb q => by
      rcases hfp b hb with h | ⟨h1, h2⟩
      · subst h
        simp only [List.mem_append, List.mem_cons] at q
        rcases q with q | q | q
        · exact Nat.lt_irrefl _ (S1.dr.lt _ q)
        · exact Nat.lt_irrefl _ (Nat.lt_of_le_of_lt (Nat.le_of_eq q) S1.lfLt)
        · exact Nat.lt_irrefl _ (S1.own _ q).2.2.2
      · simp only [List.mem_append, List.mem_cons] at q
        rcases q with q | q | q
        · exact h2 (List.mem_append_left _ (K.c.dsub _ q))
        · exact h2 (List.mem_append_left _ (q ▸ K.lfH))
        · exact h2 (List.mem_append_right _ q)
    old := fun b hb => by
      show b < (s1.heap.push o').objs.size
      rw [Heap.size_push]
      rcases hfp b hb with h | ⟨h1, h2⟩
      · rw [h]; exact Nat.lt_succ_self _
      · exact Nat.lt_succ_of_lt h1
    self := List.mem_append_right _ (List.mem_singleton.mpr rfl)
    nD := fun q => Nat.lt_irrefl _ (S1.dr.lt _ q)
    nL := nI _ S1.lfLt
    n0 := by
      cases q : F.h0.get? s1.heap.objs.size with
      | none => exact q
      | some o => exact absurd (Heap.lt_size (v_get (S1.h0 _ _ q))) (Nat.lt_irrefl _)
    nc := fun x c e q => Nat.lt_irrefl _ (q ▸ S1.cel x c e) }
  refine h.run px (F.more s1.heap.objs.size) O _ _ _ fp _ P St (K.more _) S2 W1 (fun s3 e n3 => ?_) (fun v av s3 e x => hr v av s3 e x.less) fun e X s3 h x => back_exc K x.less fun s4 x4 => he e X s4 h x4
  subst e
  refine hn s3 rfl ?_
  obtain ⟨⟨O3, S3, hO3⟩, k3, z3⟩ := n3
  have z3' : s1.heap.objs.size ≤ s3.heap.objs.size := Nat.le_trans (by show _ ≤ (s1.heap.push o').objs.size; rw [Heap.size_push]; omega) z3
  have n1 : Nxt F O ℓ' δ' s1 s3 := ⟨⟨O3, S3.less, fun a ha => (hO3 a ha).imp id fun q => Nat.le_trans (by show _ ≤ (s1.heap.push o').objs.size; rw [Heap.size_push]; omega) q⟩, fun b o hb e => by
    refine k3 b o (fun q => hb ?_) (Heap.get?_push_of_some _ e)
    have hbI : b ≠ s1.heap.objs.size := fun q => Nat.lt_irrefl _ (q ▸ Heap.lt_size e)
    simp only [List.mem_append, List.mem_cons] at q ⊢
    rcases q with q | q | q | q
    · exact .inl q
    · exact .inr (.inl q)
    · exact absurd q hbI
    · exact .inr (.inr q), z3'⟩
  exact Nxt.trans (fun _ h => .inl h) (keep_of_aft a1) a1.sz n1
end
end Mine

namespace Mine
set_option maxRecDepth 100000

theorem ns_unique {h : Heap} {a : Addr} {m m' : Str → Option Value} (x : h.Ns a m) (y : h.Ns a m') : m = m' := by
  obtain ⟨o, es, ep, ho, hd, _, hm⟩ := x
  obtain ⟨o', es', ep', ho', hd', _, hm'⟩ := y
  rw [ho] at ho'; cases ho'
  rw [hd] at hd'; cases hd'
  funext n
  rw [← hm n, ← hm' n]

section
variable {F : FCx} {O : List Addr} {ℓ ℓ1 ℓ2 ℓ' : Loc} {δ δ1 δ2 δ' : Draw} {s s1 s' : Shared} {k : Nat} {nm : List (Str × NameKind)}

theorem StSt.ownIn (S : StSt F O ℓ δ s) {m : Str → Option Value} (hn : (F.C.v s).Ns F.C.Lf m) {x lv a} (e : ℓ.lookup x = some lv) (ho : lv.owned = true) (hm : m x = some (.ref a)) : a ∈ O := by
  obtain ⟨m', hn', hl, _⟩ := S.nml
  have := ns_unique hn hn'
  subst this
  have h := hl x lv e
  cases lv with
  | val => cases ho
  | own xs => obtain ⟨_, a', _, h1, h2, _⟩ := h; rw [hm] at h1; cases h1; exact h2
  | ownD es => obtain ⟨_, a', _, h1, h2, _⟩ := h; rw [hm] at h1; cases h1; exact h2

/-- a local name is set -/
theorem store_name (K : F.Ok k nm) (S : StSt F O ℓ δ s) {E : Value → Shared → Prop} {Q : Unit → Shared → Prop} {x : Str} {lv : LV} {v : Value} (hx : nm.lookup x = some .local)
    (hv : ∀ m : Str → Option Value, m x = some v → LvIs F O m s x lv) (hu : lv.owned = true → ∀ a, v = .ref a → ∀ m : Str → Option Value, (F.C.v s).Ns F.C.Lf m → ∀ y ly, ℓ.lookup y = some ly → ly.owned = true → m y ≠ some (.ref a))
    (hq : ∀ s', StSt F O (setL x lv ℓ) δ s' → Keep (Dl F.C.D ++ F.C.Lf :: O) s.heap s'.heap → s.heap.objs.size ≤ s'.heap.objs.size → Q () s') : wpAny (MM F.C.w) F.C.A (storeName F.C.env x v) Q E s := by
  obtain ⟨m, hns, hl, hi⟩ := S.nml
  have hkx : F.C.env.kindOf x = some .local := (K.c.kindOf x).trans hx
  refine wpAny_storeName_local hkx (m := m) (by rw [K.loc]; exact hns.keeps v_stays_real) (fun h' hn' hs => ?_) (by rw [K.c.kind]; rfl)
  rw [K.loc] at hn' hs
  refine hq _ (S.stored K hns hl hi hn' hs (hv _ (by simp)) fun ho y ly a ey oy _ hm q => hu ho a q m hns y ly ey oy hm) (fun b o hb e' => (hs.2 b fun q => hb (by subst q; simp)).trans e') ?_
  show s.heap.objs.size ≤ h'.objs.size
  rw [hs.1]; exact Nat.le_refl _

theorem Nxt.of_put (kp : Keep (Dl F.C.D ++ F.C.Lf :: s.heap.objs.size :: O) (s.heap.push o) s'.heap) (sz : (s.heap.push o).objs.size ≤ s'.heap.objs.size) (S' : StSt F (s.heap.objs.size :: O) ℓ' δ' s') : Nxt F O ℓ' δ' s s' := by
  have z : s.heap.objs.size ≤ (s.heap.push o).objs.size := by rw [Heap.size_push]; omega
  refine ⟨⟨_, S', fun a ha => (List.mem_cons.mp ha).elim (fun e => .inr (Nat.le_of_eq e.symm)) .inl⟩, fun b o' hb e => kp b o' (fun q => hb ?_) (Heap.get?_push_of_some _ e), Nat.le_trans z sz⟩
  have hbI : b ≠ s.heap.objs.size := fun q => Nat.lt_irrefl _ (q ▸ Heap.lt_size e)
  simp only [List.mem_append, List.mem_cons] at q ⊢
  rcases q with q | q | q | q
  · exact .inl q
  · exact .inr (.inl q)
  · exact absurd q hbI
  · exact .inr (.inr q)

/-- x := [e, ..], a list of the frame's own -/
theorem XOk.assignOwn {x p' es q p as} (h : EvLOk k nm (vals ℓ) δ es (.ok as) δ') (hx : nm.lookup x = some .local) (hlen : as.length ≤ sizeLine) : XOk k nm ℓ δ (.Assign [.Name x p'] (.List es q) p) .next (setL x (.own as) ℓ) δ' := by
  constructor; intro F O s Q E K S hn hc hr he
  refine wpAny_Assign_Name (wpAny_List_spliced (h.run (F.C.hide O) s _ _ _ (K.c.hide O) (S.evVals K) (fun vs av1 s1 e1 a1 r1 => ?_) fun e X s1 e1 _ => nomatch e1)) rfl
  cases e1
  have a1 := aft_back a1
  have S1 := S.aft' K a1
  refine ⟨by rw [r1.length]; exact hlen, ?_⟩
  have S2 := S1.alloc (t := s1.toks) K { cls := .type "list", data := .seq vs.toArray }
  have hr2 : RdL F.C.w F.C.D (s1.heap.push { cls := .type "list", data := .seq vs.toArray }) (F.C.H ++ s1.heap.objs.size :: O) vs as :=
    (r1.fresh (H' := F.C.H ++ s1.heap.objs.size :: O) (Nat.le_refl _) fun b hb => by
      rcases List.mem_append.mp hb with h | h
      · exact .inr (List.mem_append_left _ h)
      · exact (List.mem_cons.mp h).elim (fun e => .inl (Nat.le_of_eq e.symm)) fun h => .inr (List.mem_append_right _ h)).keep fun b o _ e => Heap.get?_push_of_some _ e
  refine store_name K S2 hx (lv := .own as) (fun m hm => ⟨(K.c.kindOf x).trans hx, _, vs.toArray, hm, List.mem_cons_self .., ⟨_, 0, Heap.get?_push_size _ rfl, rfl, rfl, rfl⟩, by simpa using hr2⟩)
    (fun _ a ha m hns y ly ey oy hm => ?_) fun s' S' kp sz => hn s' rfl (Nxt.trans (fun _ h => .inl h) (keep_of_aft a1) a1.sz (Nxt.of_put kp sz S'))
  cases ha
  obtain ⟨m1, hn1, hl1, _⟩ := S1.nml
  have := ns_unique hns (hn1.keeps v_push_stays)
  subst this
  exact Nat.lt_irrefl _ (S1.own _ (S1.ownIn hn1 ey oy hm)).2.2.2

/-- x := {}, a dict of the frame's own -/
theorem XOk.assignOwnD {x p' q p} (hx : nm.lookup x = some .local) : XOk k nm ℓ δ (.Assign [.Name x p'] (.Dict [] [] q) p) .next (setL x (.ownD []) ℓ) δ := by
  constructor; intro F O s Q E K S hn hc hr he
  refine wpAny_Assign_Name (wpAny_Dict_empty ?_) rfl
  have S2 := S.alloc (t := s.toks) K { cls := .type "dict", data := .dict #[] }
  refine store_name K S2 hx (lv := .ownD []) (fun m hm => ⟨(K.c.kindOf x).trans hx, _, [], hm, List.mem_cons_self .., ?_, ?_, rfl, .nil⟩)
    (fun _ a ha m hns y ly ey oy hm => ?_) fun s' S' kp sz => hn s' rfl (Nxt.of_put kp sz S')
  · exact Heap.DictOf.new _
  · exact fun q => absurd (gl_big (S.gl K)) (by rw [q]; decide)
  cases ha
  obtain ⟨m1, hn1, hl1, _⟩ := S.nml
  have := ns_unique hns (hn1.keeps v_push_stays)
  subst this
  exact Nat.lt_irrefl _ (S.own _ (S.ownIn hn1 ey oy hm)).2.2.2

/-- an own object changes -/
theorem StSt.poke (K : F.Ok k nm) (S : StSt F O ℓ δ s) {x : Str} {lv lv' : LV} {D : Addr} (e0 : ℓ.lookup x = some lv) (ho : lv.owned = true) {m : Str → Option Value} (hm : (F.C.v s).Ns F.C.Lf m) (hmx : m x = some (.ref D)) {h' : Heap} {t : Nat}
    (hs : Heap.SameBut D s.heap h') (hnc : ∀ v, ¬ s.heap.IsCell D v) (hnew : ∀ m' : Str → Option Value, m' x = some (.ref D) → LvIs F O m' { s with heap := h', toks := t } x lv') (ho' : lv'.owned = true) :
    StSt F O (setL x lv' ℓ) δ { s with heap := h', toks := t } := by
  have hDO := S.ownIn hm e0 ho hmx
  obtain ⟨hDH, hD0, _⟩ := S.own _ hDO
  have hDD : D ∉ Dl F.C.D := fun q => hDH (K.c.dsub _ q)
  have hLD : F.C.Lf ≠ D := fun q => hDH (q ▸ K.lfH)
  obtain ⟨m1, hn, hl, hi⟩ := S.nml
  have := ns_unique hm hn
  subst this
  have kp : Keep (F.C.H ++ O) s.heap h' := keep_sameBut hs (List.mem_append_right _ hDO)
  have hcell : ∀ c v, (F.C.v s).IsCell c v → c ≠ D := fun c v hc q => by
    subst q
    exact hnc v (hc.keeps v_stays_real)
  refine ⟨S.same, S.dr.of_eq fun a ha o e => ⟨o.slots, (hs.2 a fun q => hDD (q ▸ ha)).trans e⟩, h0_sameBut S.h0 hD0 hs, fun a ha => by show 154 < a ∧ a < h'.objs.size; rw [hs.1]; exact S.hid a ha,
    fun y c e => by show c < h'.objs.size; rw [hs.1]; exact S.cel y c e, fun a ha => ?_, m, ?_, fun y lv2 e => ?_, fun y z ly lz a ey ez oy oz my mz => ?_⟩
  · obtain ⟨h1, h2, h4, h3⟩ := S.own a ha
    exact ⟨h1, h2, h4, by show a < h'.objs.size; rw [hs.1]; exact h3⟩
  · obtain ⟨o, es, ep, ho, r⟩ := hn
    exact ⟨o, es, ep, get_v ((hs.2 _ hLD).trans (v_get ho)) (v_notin ho), r⟩
  · rw [setL_lookup] at e
    by_cases hy : y = x
    · rw [if_pos hy] at e; cases e
      subst hy
      exact hnew _ hmx
    · rw [if_neg hy] at e
      have h := hl y lv2 e
      cases lv2 with
      | val av =>
        obtain ⟨v, hv, hr⟩ := h
        exact ⟨v, hv.imp id fun ⟨hk', c, hc', hi'⟩ => ⟨hk', c, hc', let ⟨o, ho', hd⟩ := hi'; ⟨o, get_v ((hs.2 c (hcell c _ hi')).trans (v_get ho')) (v_notin ho'), hd⟩⟩, hr.keep kp⟩
      | own xs =>
        obtain ⟨h1, a, items, hma, ha, hla, hr⟩ := h
        have hne : a ≠ D := fun q => hy (hi y x _ _ D e e0 rfl ho (q ▸ hma) hmx)
        exact ⟨h1, a, items, hma, ha, (let ⟨o, n, ho', r⟩ := hla; ⟨o, n, (hs.2 _ hne).trans ho', r⟩), hr.keep kp⟩
      | ownD es =>
        obtain ⟨h1, a, kvs, hma, ha, hd', hsy, e', hr⟩ := h
        have hne : a ≠ D := fun q => hy (hi y x _ _ D e e0 rfl ho (q ▸ hma) hmx)
        exact ⟨h1, a, kvs, hma, ha, (let ⟨o, es', ep, ho', r⟩ := hd'; ⟨o, es', ep, (hs.2 _ hne).trans ho', r⟩), hsy, e', hr.keep kp⟩
  · rw [setL_lookup] at ey ez
    have fy : ∃ l, ℓ.lookup y = some l ∧ l.owned = true := by
      by_cases hy : y = x
      · exact ⟨lv, hy ▸ e0, ho⟩
      · rw [if_neg hy] at ey; exact ⟨_, ey, oy⟩
    have fz : ∃ l, ℓ.lookup z = some l ∧ l.owned = true := by
      by_cases hz : z = x
      · exact ⟨lv, hz ▸ e0, ho⟩
      · rw [if_neg hz] at ez; exact ⟨_, ez, oz⟩
    obtain ⟨l1, e1, o1⟩ := fy
    obtain ⟨l2, e2, o2⟩ := fz
    exact hi y z l1 l2 a e1 e2 o1 o2 my mz

theorem keep_poke {D : Addr} {h' : Heap} (hs : Heap.SameBut D s.heap h') (hD : D ∈ O) : Keep (Dl F.C.D ++ F.C.Lf :: O) s.heap h' := keep_sameBut hs (List.mem_append_right _ (List.mem_cons_of_mem _ hD))

/-- x.append(e) -/
theorem XOk.append {x np apos pos p e xs av} (h0 : ℓ.lookup x = some (.own xs)) (h : EvOk k nm (vals ℓ) δ e (.ok av) δ') (hlen : xs.length ≤ sizeLine)
    (hd : (x == ("__debug__" : Str)) = false := by decide) (hline : (apos.endLine == pos.line) = true := by rfl) (hst : ∀ env, starEach [e] env = [(false, eval e env)] := by intro _; rfl) (hbt : ∀ env, backTo pos (starEach [e] env) = [(false, eval e env)] := by intro _; rfl) :
    XOk k nm ℓ δ (.Expr (.Call (.Attribute (.Name x np) "append" apos) [e] [] pos) p) .next (setL x (.own (xs ++ [av])) ℓ) δ' := by
  constructor; intro F O s Q E K S hn hc hr he
  obtain ⟨m, hns, hl, hi⟩ := S.nml
  obtain ⟨hk, D, items, hm, hDO, hpl, hrd⟩ := hl x _ h0
  refine wpAny_Expr (wpAny_Call_append rfl ?_ hline (hbt _) (wpAny_Name (wpAny_loadName_local K.c.kind hk (m := m) (by rw [K.loc]; exact hns.keeps v_stays_real) hm ⟨D, items, rfl, hpl, ?_⟩) hd)) (by unfold interactive; rw [K.c.kind]; rfl) rfl
  · rw [hbt]; rfl
  refine h.run (F.C.hide O) s _ _ (K.c.hide O) (S.evVals K) (fun v av1 s1 e1 a1 r1 => ?_) fun e X s1 e1 _ => nomatch e1
  cases e1
  have a1 := aft_back a1
  have S1 := S.aft' K a1
  have hns1 := hns.keeps a1.keep
  have hnD : D ∉ Dl F.C.D := S.ownD K _ hDO
  have hpl1 : PlainL s1.heap D items := let ⟨o, n, ho, r⟩ := hpl; ⟨o, n, v_keep a1.keep _ _ hnD ho, r⟩
  have hrd1 : RdL F.C.w F.C.D s1.heap (F.C.H ++ O) items.toList xs := hrd.keep ((v_keep a1.keep).mono fun b hb => List.mem_append_left _ (K.c.dsub b hb))
  refine list_append_plainL hpl1 (fun h' hpl' hs' => ?_) (by have := hrd.length; simp at this; omega)
  refine hn _ rfl (Nxt.trans (fun _ h => .inl h) (keep_of_aft a1) a1.sz ⟨⟨O, S1.poke (lv' := .own (xs ++ [av])) (t := s1.toks) K h0 rfl hns1 hm hs' (fun v hc => ?_) (fun m' hm' => ?_) rfl, fun _ h => .inl h⟩, keep_poke hs' hDO, Nat.le_of_eq hs'.1.symm⟩)
  · obtain ⟨o, n, ho, _, _, hd'⟩ := hpl1
    obtain ⟨o', ho', hc'⟩ := hc
    rw [ho] at ho'; cases ho'; rw [hd'] at hc'; cases hc'
  · have kp : Keep (F.C.H ++ O) s1.heap h' := keep_sameBut hs' (List.mem_append_right _ hDO)
    refine ⟨hk, D, items.push v, hm', hDO, hpl', ?_⟩
    rw [Array.toList_push]
    exact (hrd1.keep kp).append (.cons (r1.keep kp) .nil)
end
end Mine

namespace Mine
set_option maxRecDepth 100000

section
variable {F : FCx} {O : List Addr} {ℓ ℓ1 ℓ2 ℓ' : Loc} {δ δ1 δ2 δ' : Draw} {s s1 s' : Shared} {k : Nat} {nm : List (Str × NameKind)}

/-- x[i] = e, under a key that is not there yet -/
theorem XOk.store {x np i p' e p es key av} (h0 : ℓ.lookup x = some (.ownD es)) (h : EvOk k nm (vals ℓ) δ e (.ok av) δ1) (h2 : EvOk k nm (vals ℓ) δ1 i (.ok (.str key)) δ') (hnew : key ∉ es.map (·.1)) (hlen : es.length ≤ sizeLine)
    (hd : (x == ("__debug__" : Str)) = false := by decide) (hsw : ∀ env, swapsWith e (some (.Subscript (.Name x np) i p')) p.line env = pure false := by intro _; rfl) :
    XOk k nm ℓ δ (.Assign [.Subscript (.Name x np) i p'] e p) .next (setL x (.ownD (es ++ [(key, av)])) ℓ) δ' := by
  constructor; intro F O s Q E K S hn hc hr he
  refine wpAny_Assign_Subscript (h.run (F.C.hide O) s _ _ (K.c.hide O) (S.evVals K) (fun v av1 s1 e1 a1 r1 => ?_) fun e X s1 e1 _ => nomatch e1) (hsw _)
  cases e1
  have a1 := aft_back a1
  have S1 := S.aft' K a1
  obtain ⟨m, hns, hl, hi⟩ := S1.nml
  obtain ⟨hk, D, kvs, hm, hDO, hdo, hsy, hkk, hrd⟩ := hl x _ h0
  refine wpAny_Name (wpAny_loadName_local K.c.kind hk (m := m) (by rw [K.loc]; exact hns.keeps v_stays_real) hm ?_) hd
  refine h2.run (F.C.hide O) s1 _ _ (K.c.hide O) (S1.evVals K) (fun iv av1 s2 e1 a2 r2 => ?_) fun e X s1 e1 _ => nomatch e1
  cases e1
  cases r2 with | str _ t =>
  have a2 := aft_back a2
  have S2 := S1.aft' K a2
  have hns2 := hns.keeps a2.keep
  have hnD : D ∉ Dl F.C.D := S.ownD K _ hDO
  have kp2 : Keep (F.C.H ++ O) s1.heap s2.heap := (v_keep a2.keep).mono fun b hb => List.mem_append_left _ (K.c.dsub b hb)
  have hdo2 : s2.heap.DictOf (PySem.strKind pw F.C.w) D kvs := (v_keep a2.keep).dictOf hnD hdo
  have hlen' : kvs.length = es.length := by have := congrArg List.length hkk; simpa using this
  have hst : ∀ v, stored kvs key v = kvs ++ [(key, v)] := fun v => by
    unfold stored
    rw [if_neg]
    intro q
    simp only [List.any_eq_true, decide_eq_true_eq] at q
    obtain ⟨kv, h1, h2⟩ := q
    refine hnew ?_
    rw [← hkk]
    exact List.mem_map.mpr ⟨kv, h1, h2⟩
  refine wpAny_setItem_pairs (knd := PySem.strKind pw F.C.w) (k := key) (by simp [PySem.strKind, Value.isStrOf]) hdo2 (fun h' hd' hs' => ?_) (by omega)
  rw [hst] at hd'
  have a12 := a1.trans a2
  refine hn _ rfl (Nxt.trans (fun _ h => .inl h) (keep_of_aft a12) a12.sz ⟨⟨O, S2.poke (lv' := .ownD (es ++ [(key, av)])) (t := s2.toks + 1) K h0 rfl hns2 hm hs' (fun v hc => ?_) (fun m' hm' => ?_) rfl, fun _ h => .inl h⟩, keep_poke hs' hDO, Nat.le_of_eq hs'.1.symm⟩)
  · obtain ⟨o, es', ep, ho, _, hd', _⟩ := hdo2
    obtain ⟨o', ho', hc'⟩ := hc
    rw [ho] at ho'; cases ho'; rw [hd'] at hc'; cases hc'
  · have kp : Keep (F.C.H ++ O) s2.heap h' := keep_sameBut hs' (List.mem_append_right _ hDO)
    refine ⟨hk, D, kvs ++ [(key, v)], hm', hDO, hd', hsy, by simp [hkk], ?_⟩
    have e1 : (kvs ++ [(key, v)]).map (·.2) = kvs.map (·.2) ++ [v] := by simp
    have e2 : (es ++ [(key, av)]).map (·.2) = es.map (·.2) ++ [av] := by simp
    rw [e1, e2]
    exact ((hrd.keep kp2).keep kp).append (.cons ((r1.keep kp2).keep kp) .nil)

/-! ## raise -/
theorem EvLOk.plainArgs {es r} (h : EvLOk k nm σ δ es r δ') (pos : Pos) (env : Env) : (backTo pos (starEach es env)).any (·.1) = false := by rw [any_backTo]; exact h.plain _

theorem XOk.raise {cls newId initId : String} (Fc : ExcCallFacts cls newId initId) (G : ExcRaiseFacts cls) {x np args cpos pos as} (hb : BName x (.type cls)) (hx : nm.lookup x = some .globalImplicit) (h : EvLOk k nm (peek ℓ) δ args (.ok as) δ') (hlen : as.length ≤ 10) :
    XOk k nm ℓ δ (.Raise (some (.Call (.Name x np) args [] cpos)) none pos) (.exc cls) ℓ δ' := by
  constructor; intro F O s Q E K S hn hc hr he
  refine wpAny_Raise_call Fc G K.c.room.handled (by rw [any_backTo]; exact h.plain _) (bname_eval (S.gl K) v_stays_real hb K.c.kind K.c.gl K.c.bl ((K.c.kindOf x).trans hx) ⟨rfl, ?_⟩)
  refine evalArgs_sp (by rw [any_backTo]; exact h.plain _) ?_
  refine h.run F.C s _ _ _ K.c (S.evPeek K) (fun vs avs s1 e1 a1 r1 => ?_) fun e X s1 e1 _ => nomatch e1
  cases e1
  have S1 := S.aft' K a1
  refine ⟨rfl, ?_, fun h' e M => ?_⟩
  · have := r1.length
    show vs.length ≤ sizeLine
    exact Nat.le_trans (by omega) (show (10 : Nat) ≤ sizeLine by decide)
  · have kp : (F.C.v s1).StaysIn (F.C.v { s1 with heap := h' }) := v_stays fun b o _ e => M.keeps b o e
    obtain ⟨t, h1, h2, h3⟩ := M.there
    refine he e cls _ rfl ⟨S1.same, (Heap.UpToSlots.of_keeps S1.h0).trans (Heap.UpToSlots.of_keeps kp), S1.dr.keep M.keeps, .inr ⟨?_, ?_, ?_, .ref t, _, _, h1, rfl, rfl, rfl, rfl⟩⟩
    · exact fun b o e => M.keeps b o (v_stays_real b o (S1.base K b o e))
    · cases q : F.C.base.get? e with
      | none => rfl
      | some o => have := v_stays_real _ _ (S1.base K _ _ q); rw [M.new] at this; cases this
    · exact (S1.ff K).of_keeps fun b o ho _ => ⟨o, M.keeps b o (v_stays_real b o ho), rfl⟩

/-! ## x, y = e -/
theorem unpack_names (K : F.Ok k nm) {E : Value → Shared → Prop} {Q : Unit → Shared → Prop} : ∀ (xs : List (Str × Pos)) (vs : List Value) (as : List AV) (ℓ : Loc) (s : Shared), xs.length = vs.length → (∀ x ∈ xs, nm.lookup x.1 = some .local) →
    StSt F O ℓ δ s → RdL F.C.w F.C.D s.heap (F.C.H ++ O) vs as →
    (∀ s', StSt F O ((xs.map (·.1)).zip as |>.foldl (fun l p => setL p.1 (.val p.2) l) ℓ) δ s' → Keep (Dl F.C.D ++ F.C.Lf :: O) s.heap s'.heap → s.heap.objs.size ≤ s'.heap.objs.size → Q () s') →
    wpAny (MM F.C.w) F.C.A (assignInOrder ((assignEach (xs.map fun x => .Name x.1 x.2) F.C.env).map (·.2)) vs) Q E s
  | [], [], [], ℓ, s, _, _, S, _, hq => wpAny_assignInOrder_none (hq s S (fun _ _ _ e => e) (Nat.le_refl _))
  | [], [], _ :: _, _, _, _, _, _, r, _ => nomatch r
  | [], _ :: _, _, _, _, e, _, _, _, _ => by simp at e
  | _ :: _, [], _, _, _, e, _, _, _, _ => by simp at e
  | _ :: _, _ :: _, [], _, _, _, _, _, r, _ => nomatch r
  | (x, px) :: xs, v :: vs, a :: as, ℓ, s, e, hx, S, .cons r1 r2, hq => by
    refine wpAny_assignInOrder_more (wpAny_assign_Name (store_name K S (lv := .val a) (hx _ (List.mem_cons_self ..)) (fun m hm => ⟨v, .inl ⟨(K.c.kindOf x).trans (hx _ (List.mem_cons_self ..)), hm⟩, r1⟩) (fun q => nomatch q) fun s1 S1 k1 z1 => ?_))
    have kp : Keep (F.C.H ++ O) s.heap s1.heap := k1.mono fun b hb => by
      simp only [List.mem_append, List.mem_cons] at hb ⊢
      rcases hb with q | q | q
      · exact .inl (K.c.dsub b q)
      · exact .inl (q ▸ K.lfH)
      · exact .inr q
    exact unpack_names K xs vs as _ s1 (by simpa using e) (fun y hy => hx y (List.mem_cons_of_mem _ hy)) S1 (r2.keep kp) fun s' S' k' z' => hq s' S' (fun b o hb e => k' b o hb (k1 b o hb e)) (Nat.le_trans z1 z')

theorem XOk.unpackT {elts : List Expr} {kk tp e p as} (xs : List (Str × Pos)) (hxs : elts = xs.map fun x => .Name x.1 x.2) (h : EvOk k nm (vals ℓ) δ e (.ok (.tuple as)) δ') (hx : ∀ x ∈ xs, nm.lookup x.1 = some .local) (hlen : xs.length = as.length)
    (hsw : ∀ env, swapsWithSole [.Tuple elts kk tp] e p.line env = pure false := by intro _; rfl) (hw : ∀ env, swappedStores [.Tuple elts kk tp] e env = pure none := by intro _; rfl)
    (hel : ∀ env, (assignEach elts env).length = elts.length := by intro _; rfl) (hes : ∀ env, (assignEach elts env).findIdx? (·.1) = none := by intro _; rfl) :
    XOk k nm ℓ δ (.Assign [.Tuple elts kk tp] e p) .next ((xs.map (·.1)).zip as |>.foldl (fun l p => setL p.1 (.val p.2) l) ℓ) δ' := by
  constructor; intro F O s Q E K S hn hc hr he
  refine Assign_Tuple (h.run (F.C.hide O) s _ _ (K.c.hide O) (S.evVals K) (fun v av1 s1 e1 a1 r1 => ?_) fun e X s1 e1 _ => nomatch e1) (hsw _) (hw _)
  cases e1
  have a1 := aft_back a1
  have S1 := S.aft' K a1
  cases r1 with | @tuple a items _ h1 h2 h3 =>
  have hn3 := h3.length
  have hlen2 : (assignEach elts F.C.env).length = items.size := by rw [hel, hxs]; simp at hn3 ⊢; omega
  rw [PySem.arm_assign_Tuple]
  refine wpAny_bind (wpAny_standAt ?_)
  unfold PySem.unpack
  rw [hlen2, hes]
  refine wpAny_bind (wpAny_holding (wpAny_size (wpAny_unpackItems_tuple K.c.room.handled h1 fun h' hext hz => ?_)))
  have kext : ∀ b o, s1.heap.get? b = some o → h'.get? b = some o := fun b o e => hext b o (fun q => Nat.lt_irrefl _ (q ▸ Heap.lt_size e)) e
  have a2 : Aft F.C s { s1 with heap := h' } δ' := a1.trans (Aft.of_keep (t := s1.toks) ((S.evPeek K).aft K.c a1) kext hz)
  have S2 := S.aft' K a2
  rw [hxs]
  refine unpack_names K xs items.toList as ℓ _ (by simp at hn3 ⊢; omega) hx S2 (h3.keep fun b o _ e => kext b o e) fun s' S' k' z' => ?_
  exact hn s' rfl (Nxt.trans (fun _ h => .inl h) (keep_of_aft a2) a2.sz ⟨⟨O, S', fun _ h => .inl h⟩, k', z'⟩)
end
end Mine

namespace Mine
set_option maxRecDepth 100000

section
variable {k : Nat} {nm : List (Str × NameKind)} {σ : List (Str × AV)} {δ δ1 δ2 δ3 : Draw} {C : Cx} {s : Shared}

/-- a fresh object is put down by an expression -/
theorem Aft.of_push (S : EvSt C σ δ s) (o : Obj) {t : Nat} : Aft C s { s with heap := s.heap.push o, toks := t } δ :=
  Aft.of_keep S (fun b o' e => Heap.get?_push_of_some _ e) (by rw [Heap.size_push]; omega)

theorem hid_push (S : EvSt C σ δ s) : s.heap.objs.size ∉ C.H := fun q => Nat.lt_irrefl _ (S.hid _ q).2

theorem EvOk.tuple {es x1 pos as} (h : EvLOk k nm σ δ es (.ok as) δ1) (hlen : as.length ≤ sizeLine) : EvOk k nm σ δ (.Tuple es x1 pos) (.ok (.tuple as)) δ1 := by
  constructor; intro C s Q E O S hq he
  refine wpAny_Tuple_spliced (h.run C s _ _ _ O S (fun vs av1 s1 e1 a1 r1 => ?_) fun e X s1 e1 _ => nomatch e1)
  cases e1
  have S1 := S.aft O a1
  have a2 := Aft.of_push (t := s1.toks) S1 { cls := .type "tuple", data := .seq vs.toArray }
  exact ⟨by rw [r1.length]; exact hlen, hq _ _ _ rfl (a1.trans a2) (.tuple ⟨_, Heap.get?_push_size _ rfl, rfl, _, rfl⟩ (hid_push S1) (by simpa using a2.rdl O r1))⟩
theorem EvOk.tupleExc {es x1 pos X} (h : EvLOk k nm σ δ es (.exc X) δ1) : EvOk k nm σ δ (.Tuple es x1 pos) (.exc X) δ1 := by
  constructor; intro C s Q E O S hq he
  exact wpAny_Tuple_spliced (h.run C s _ _ _ O S (fun vs av1 s1 e1 a1 r1 => nomatch e1) fun e X s1 e1 x => he _ _ _ (by cases e1; rfl) x)
theorem EvOk.list {es pos as} (h : EvLOk k nm σ δ es (.ok as) δ1) (hlen : as.length ≤ sizeLine) : EvOk k nm σ δ (.List es pos) (.ok (.list as)) δ1 := by
  constructor; intro C s Q E O S hq he
  refine wpAny_List_spliced (h.run C s _ _ _ O S (fun vs av1 s1 e1 a1 r1 => ?_) fun e X s1 e1 _ => nomatch e1)
  cases e1
  have S1 := S.aft O a1
  have a2 := Aft.of_push (t := s1.toks) S1 { cls := .type "list", data := .seq vs.toArray }
  exact ⟨by rw [r1.length]; exact hlen, hq _ _ _ rfl (a1.trans a2) (.list ⟨_, Heap.get?_push_size _ rfl, rfl, _, rfl⟩ (hid_push S1) (ne_sys_size S1.gl) (by simpa using a2.rdl O r1))⟩

theorem RdL.takes {w D h H} : ∀ {vs as}, RdL w D h H vs as → ∀ n : Nat, RdL w D h H (vs.take n) (as.take n)
  | _, _, .nil, n => by simp; exact .nil
  | _, _, .cons h1 h2, 0 => .nil
  | _, _, .cons h1 h2, n + 1 => .cons h1 (RdL.takes h2 n)
theorem RdL.revs {w D h H} : ∀ {vs as}, RdL w D h H vs as → RdL w D h H vs.reverse as.reverse
  | _, _, .nil => .nil
  | _, _, .cons h1 h2 => by
    rw [List.reverse_cons, List.reverse_cons]
    exact (RdL.revs h2).append (.cons h1 .nil)

/-! ## slices -/
noncomputable def subS (x : Str) (i j : Nat) : Str := ⟨((x.cps.toList.drop i).take (j - i)).toArray⟩

theorem slice_subS {x : Str} {i j : Nat} (hj : i ≤ j) : Txt.slice x (some (i : Int)) (some (j : Int)) = subS x i j := by
  have e : Builtin.Str.strSliceIndices (some (i : Int)) (some (j : Int)) 1 x.length = Builtin.Str.strSliceIndices (some ((min i x.length : Nat) : Int)) (some ((min j x.length : Nat) : Int)) 1 x.length := by
    unfold Builtin.Str.strSliceIndices
    have h1 : ¬ ((i : Int) < 0) := by omega
    have h2 : ¬ ((j : Int) < 0) := by omega
    have h3 : ¬ (((min i x.length : Nat) : Int) < 0) := by omega
    have h4 : ¬ (((min j x.length : Nat) : Int) < 0) := by omega
    have e1 : max (0 : Int) (min (i : Int) (x.length : Int)) = max 0 (min ((min i x.length : Nat) : Int) (x.length : Int)) := by omega
    have e2 : max (0 : Int) (min (j : Int) (x.length : Int)) = max 0 (min ((min j x.length : Nat) : Int) (x.length : Int)) := by omega
    simp only [h1, h2, h3, h4, if_false, e1, e2, show (1 : Int) > 0 by decide, if_true]
  have e' : Txt.slice x (some (i : Int)) (some (j : Int)) = StrLaws.sliceText x (some ((min i x.length : Nat) : Int)) (some ((min j x.length : Nat) : Int)) := by
    unfold Txt.slice StrLaws.sliceText
    rw [e]
  rw [e', StrLaws.sliceText_nat x (by omega) (by omega)]
  unfold subS
  have hl : x.cps.toList.length = x.length := by simp [Str.length]
  congr 2
  rcases Nat.le_total i x.length with h | h
  · rw [Nat.min_eq_left h]
    rcases Nat.le_total j x.length with h' | h'
    · rw [Nat.min_eq_left h']
    · rw [Nat.min_eq_right h', List.take_of_length_le (by simp [hl]), List.take_of_length_le (by simp [hl]; omega)]
  · rw [Nat.min_eq_right h, List.drop_eq_nil_of_le (by omega), List.drop_eq_nil_of_le (by omega)]
    simp

theorem EvOk.slice {v a b p pos x} {i j : Nat} (h1 : EvOk k nm σ δ v (.ok (.str x)) δ1) (h2 : EvOk k nm σ δ1 a (.ok (.int (i : Int))) δ2) (h3 : EvOk k nm σ δ2 b (.ok (.int (j : Int))) δ3) (hj : i ≤ j) (hx : x.length ≤ sizeLine)
     : EvOk k nm σ δ (.Subscript v (.Slice (some a) (some b) Option.none p) pos) (.ok (.str (subS x i j))) δ3 := by
  constructor; intro C s Q E O S hq he
  refine Sub_any (h1.run C s _ _ O S (fun va av s1 e1 a1 r1 => ?_) fun e X s1 e1 _ => nomatch e1)
  cases e1
  cases r1 with | str _ t =>
  have S1 := S.aft O a1
  refine wpAny_Slice ?_
  show wpAny _ _ (eval a C.env) _ _ _
  refine h2.run C s1 _ _ O S1 (fun vb bv s2 e2 a2 r2 => ?_) fun e X s1 e1 _ => nomatch e1
  cases e2
  cases r2 with | int _ u =>
  have S2 := S1.aft O a2
  show wpAny _ _ (eval b C.env) _ _ _
  refine h3.run C s2 _ _ O S2 (fun vc cv s3 e3 a3 r3 => ?_) fun e X s1 e1 _ => nomatch e1
  cases e3
  cases r3 with | int _ u2 =>
  have S3 := S2.aft O a3
  refine evalPart_none_step ?_
  refine SBH.sliceItem_ss (P := fun h => (∀ b o, s3.heap.get? b = some o → h.get? b = some o) ∧ s3.heap.objs.size ≤ h.objs.size) (fun h ob x => ⟨fun b o e => Heap.get?_push_of_some _ (x.1 b o e), by rw [Heap.size_push]; omega⟩) ⟨fun _ _ e => e, Nat.le_refl _⟩ (fun h' t' tk hp => ?_) hx
  rw [slice_subS hj]
  exact hq _ _ _ rfl (((a1.trans a2).trans a3).trans (Aft.of_keep S3 hp.1 hp.2)) (.str _ _)

/-- x[:j] -/
theorem EvOk.sliceTo {v b p pos x} {j : Nat} (h1 : EvOk k nm σ δ v (.ok (.str x)) δ1) (h3 : EvOk k nm σ δ1 b (.ok (.int (j : Int))) δ2) (hx : x.length ≤ sizeLine)
     : EvOk k nm σ δ (.Subscript v (.Slice Option.none (some b) Option.none p) pos) (.ok (.str (subS x 0 j))) δ2 := by
  constructor; intro C s Q E O S hq he
  refine Sub_any (h1.run C s _ _ O S (fun va av s1 e1 a1 r1 => ?_) fun e X s1 e1 _ => nomatch e1)
  cases e1
  cases r1 with | str _ t =>
  have S1 := S.aft O a1
  refine wpAny_Slice (evalPart_none_step ?_)
  show wpAny _ _ (eval b C.env) _ _ _
  refine h3.run C s1 _ _ O S1 (fun vc cv s3 e3 a3 r3 => ?_) fun e X s1 e1 _ => nomatch e1
  cases e3
  cases r3 with | int _ u2 =>
  have S3 := S1.aft O a3
  refine evalPart_none_step ?_
  refine SBH.sliceItem_ns (P := fun h => (∀ b o, s3.heap.get? b = some o → h.get? b = some o) ∧ s3.heap.objs.size ≤ h.objs.size) (fun h ob x => ⟨fun b o e => Heap.get?_push_of_some _ (x.1 b o e), by rw [Heap.size_push]; omega⟩) ⟨fun _ _ e => e, Nat.le_refl _⟩ (fun h' t' tk hp => ?_) hx
  have e : Txt.slice x Option.none (some (j : Int)) = subS x 0 j := by
    rw [← slice_subS (Nat.zero_le j)]
    unfold Txt.slice
    rw [StrLaws.sliceIdx_none_lo]
    rfl
  rw [e]
  exact hq _ _ _ rfl ((a1.trans a3).trans (Aft.of_keep S3 hp.1 hp.2)) (.str _ _)

/-- xs[:j] for a list -/
theorem EvOk.sliceToL {v b p pos xs} {j : Nat} (h1 : EvOk k nm σ δ v (.ok (.list xs)) δ1) (h3 : EvOk k nm σ δ1 b (.ok (.int (j : Int))) δ2) (hx : xs.length ≤ sizeLine)
     : EvOk k nm σ δ (.Subscript v (.Slice Option.none (some b) Option.none p) pos) (.ok (.list (xs.take j))) δ2 := by
  constructor; intro C s Q E O S hq he
  refine Sub_any (h1.run C s _ _ O S (fun va av s1 e1 a1 r1 => ?_) fun e X s1 e1 _ => nomatch e1)
  cases e1
  have S1 := S.aft O a1
  refine wpAny_Slice (evalPart_none_step ?_)
  show wpAny _ _ (eval b C.env) _ _ _
  refine h3.run C s1 _ _ O S1 (fun vc cv s3 e3 a3 r3 => ?_) fun e X s1 e1 _ => nomatch e1
  cases e3
  cases r3 with | int _ u2 =>
  have S3 := S1.aft O a3
  refine evalPart_none_step ?_
  have a4 := Aft.of_push (t := s3.toks) S3 { cls := .type "slice", data := .fields #[.none, .int j u2, .none] }
  have r4 := (a3.trans a4).rd O r1
  have S4 := S3.aft O a4
  cases r4 with | @list a items _ g1 g2 gs g3 =>
  have hn3 := g3.length
  refine ⟨"list", _, slot_list_getitem.lookup, g1.typeIs, wpAny_getItem_list_slice (lo := Option.none) (hi := some (j : Int)) (st := Option.none) g1 ⟨_, Heap.get?_push_size _ rfl, rfl, rfl⟩ .none (.int _ _) .none (by simp) ?_ (by simp at hn3; omega)⟩
  rw [slicePick_upto']
  have a5 := Aft.of_push (t := s3.toks) S4 { cls := .type "list", data := .seq (items.toList.take j).toArray }
  refine hq _ _ _ rfl (((a1.trans a3).trans a4).trans a5) (.list ⟨_, Heap.get?_push_size _ rfl, rfl, _, rfl⟩ (hid_push S4) (ne_sys_size S4.gl) ?_)
  have := a5.rdl O g3
  rw [List.toList_toArray]
  exact this.takes j

theorem eval_negOne {E : Value → Shared → Prop} {p : Pos} {q kd} {Q : Value → Shared → Prop} {w A env} (h : ∀ t tk, Q (.int (-1) t) { s with toks := tk }) : wpAny (MM w) A (eval (.UnaryOp .USub (.Constant (.int 1) kd q) p) env) Q E s := by
  refine wpAny_UnaryOp (wpAny_Constant_int ?_)
  exact PySem.P.neg_int (h _ _)

/-- xs[::-1] -/
theorem EvOk.sliceRev {v p pos q r kd xs} (h1 : EvOk k nm σ δ v (.ok (.list xs)) δ1) (hx : xs.length ≤ sizeLine)
     : EvOk k nm σ δ (.Subscript v (.Slice Option.none Option.none (some (.UnaryOp .USub (.Constant (.int 1) kd q) r)) p) pos) (.ok (.list xs.reverse)) δ1 := by
  constructor; intro C s Q E O S hq he
  refine Sub_any (h1.run C s _ _ O S (fun va av s1 e1 a1 r1 => ?_) fun e X s1 e1 _ => nomatch e1)
  cases e1
  have S1 := S.aft O a1
  refine wpAny_Slice (evalPart_none_step (evalPart_none_step ?_))
  show wpAny _ _ (eval _ C.env) _ _ _
  refine eval_negOne fun u2 tk => ?_
  have a3 : Aft C s1 { s1 with toks := tk } δ1 := Aft.of_tok S1
  have S3 := S1.aft O a3
  have a4 := Aft.of_push (t := tk) S3 { cls := .type "slice", data := .fields #[.none, .none, .int (-1) u2] }
  have r4 := (a3.trans a4).rd O r1
  have S4 := S3.aft O a4
  cases r4 with | @list a items _ g1 g2 gs g3 =>
  have hn3 := g3.length
  refine ⟨"list", _, slot_list_getitem.lookup, g1.typeIs, wpAny_getItem_list_slice (lo := Option.none) (hi := Option.none) (st := some (-1)) g1 ⟨_, Heap.get?_push_size _ rfl, rfl, rfl⟩ .none .none (.int _ _) (by simp) ?_ (by simp at hn3; omega)⟩
  rw [krv_pick]
  have a5 := Aft.of_push (t := tk) S4 { cls := .type "list", data := .seq items.toList.reverse.toArray }
  refine hq _ _ _ rfl (((a1.trans a3).trans a4).trans a5) (.list ⟨_, Heap.get?_push_size _ rfl, rfl, _, rfl⟩ (hid_push S4) (ne_sys_size S4.gl) ?_)
  have := a5.rdl O g3
  rw [List.toList_toArray]
  exact this.revs
end
end Mine

namespace Mine
set_option maxRecDepth 100000

section
variable {k : Nat}

theorem FOk.lenS {x : Str} (h : x.length < 2 ^ 62) : FOk k (.builtin "len") [.str x] (.int x.length) := by
  constructor; intro C σ δ s vals Q E nm O S r hq
  cases r with | cons r1 r2 =>
  cases r2
  cases r1
  exact P.len_str (by omega) (hq _ _ (Aft.of_tok S) (.int _ _))
theorem FOk.ord {c : Nat} : FOk k (.builtin "ord") [.str ⟨#[c]⟩] (.int c) := by
  constructor; intro C σ δ s vals Q E nm O S r hq
  cases r with | cons r1 r2 =>
  cases r2
  cases r1
  exact P.ord_of_char (hq _ _ (Aft.of_tok S) (.int _ _))
theorem FOk.chr {i : Int} (h0 : 0 ≤ i) (h1 : i ≤ 1114111) : FOk k (.builtin "chr") [.int i] (.str ⟨#[i.toNat]⟩) := by
  constructor; intro C σ δ s vals Q E nm O S r hq
  cases r with | cons r1 r2 =>
  cases r2
  cases r1
  exact chr_of_range h0 h1 (hq _ _ (Aft.of_tok S) (.str _ _))
theorem FOk.find {x y : Str} {i : Int} (h : (Txt.find x y : Int) = i) : FOk k (.builtin "str.find") [.str x, .str y] (.int i) := by
  constructor; intro C σ δ s vals Q E nm O S r hq
  cases r with | cons r1 r2 =>
  cases r2 with | cons r2 r3 =>
  cases r3
  cases r1; cases r2
  exact SC.find (h ▸ hq _ _ (Aft.of_tok S) (.int _ _))
theorem FOk.lower {x y : Str} (h : Txt.lower x = y) (hl : Builtin.Str.tooLong (Txt.lower x).length = false) : FOk k (.builtin "str.lower") [.str x] (.str y) := by
  constructor; intro C σ δ s vals Q E nm O S r hq
  cases r with | cons r1 r2 =>
  cases r2
  cases r1
  exact SC.lower hl (h ▸ hq _ _ (Aft.of_tok S) (.str _ _))
theorem strs_of {w D h H} : ∀ {vs : List Value} {xs : List Str}, RdL w D h H vs (xs.map AV.str) → ∃ l : List (Str × Tok), strValues l = vs ∧ l.map (·.1) = xs
  | [], [], _ => ⟨[], rfl, rfl⟩
  | v :: _, x :: _, .cons r1 r2 => by
    obtain ⟨l, h1, h2⟩ := strs_of r2
    cases r1 with | str _ t =>
    exact ⟨(x, t) :: l, by simp only [strValues, List.map_cons] at h1 ⊢; rw [h1], by simp [h2]⟩
/-- the pieces glued -/
noncomputable def glue (sep : Str) (xs : List Str) : Str := Txt.join sep xs
theorem FOk.join {x : Str} {xs : List Str} (hok : JoinOk x xs = true) : FOk k (.builtin "str.join") [.str x, .list (xs.map AV.str)] (.str (glue x xs)) := by
  constructor; intro C σ δ s vals Q E nm O S r hq
  cases r with | cons r1 r2 =>
  cases r2 with | cons r2 r3 =>
  cases r3
  cases r1
  cases r2 with | @list a items _ g1 g2 gs g3 =>
  obtain ⟨l, h1, h2⟩ := strs_of g3
  have e : items = (strValues l).toArray := by rw [h1]
  exact SC.join (e ▸ g1) h2 hok fun t' k => hq _ _ (Aft.of_tok S) (.str _ _)
theorem FOk.intOf {x : Str} {n : Int} (h : PySem.intText? x = some n) (hl : x.length ≤ 640) : FOk k (.type "int") [.str x] (.int n) := by
  constructor; intro C σ δ s vals Q E nm O S r hq
  cases r with | cons r1 r2 =>
  cases r2
  cases r1
  exact KIN.call_text h hl (hq _ _ (Aft.of_tok S) (.int _ _))
theorem FOk.strOf {n : Int} (h : n.natAbs.log2 < 1920) : FOk k (.type "str") [.int n] (.str (Str.ofString (toString n))) := by
  constructor; intro C σ δ s vals Q E nm O S r hq
  cases r with | cons r1 r2 =>
  cases r2
  cases r1
  exact P.str_of_int h (hq _ _ (Aft.of_tok S) (.str _ _))
theorem FOk.range {n : Nat} : FOk k (.type "range") [.int (n : Int)] (.range n) := by
  constructor; intro C σ δ s vals Q E nm O S r hq
  cases r with | cons r1 r2 =>
  cases r2
  cases r1
  refine call_range_1 (hq _ _ (Aft.of_push S _) ?_)
  exact .range (Heap.get?_push_size _ rfl) (hid_push S)
theorem FOk.abs {i : Int} : FOk k (.builtin "abs") [.int i] (.int i.natAbs) := by
  constructor; intro C σ δ s vals Q E nm O S r hq
  cases r with | cons r1 r2 =>
  cases r2
  cases r1
  refine call_abs_int fun u tk => ?_
  have : (if i < 0 then -i else i) = (i.natAbs : Int) := by split <;> omega
  rw [this]
  exact hq _ _ (Aft.of_tok S) (.int _ _)
end
end Mine

namespace Mine
set_option maxRecDepth 100000

noncomputable def P0 : Params := { strHash := fun _ => 0, shareClass := fun _ => 0, mergeTok := id, idOf := fun _ => 0, idOfShared := fun _ _ => 0, followText := fun _ => false, idOfImm := fun _ => 0 }
noncomputable def fdOf (a : Addr) : FuncData := match (hd.heap_39 P0).lookup a with
  | some ⟨_, _, .func fd, _⟩ => fd
  | _ => default
noncomputable def bodyOf (a : Addr) : List Stmt := match (fdOf a).body with
  | .stmts b => b
  | _ => []

theorem bn_len : BName "len" (.builtin "len") := ⟨fun _ => rfl, by first | rfl | kernel_rfl, by decide, by decide⟩
theorem bn_ord : BName "ord" (.builtin "ord") := ⟨fun _ => rfl, by first | rfl | kernel_rfl, by decide, by decide⟩
theorem bn_chr : BName "chr" (.builtin "chr") := ⟨fun _ => rfl, by first | rfl | kernel_rfl, by decide, by decide⟩
theorem bn_abs : BName "abs" (.builtin "abs") := ⟨fun _ => rfl, by first | rfl | kernel_rfl, by decide, by decide⟩
theorem bn_all : BName "all" (.builtin "all") := ⟨fun _ => rfl, by first | rfl | kernel_rfl, by decide, by decide⟩
theorem bn_repr : BName "repr" (.builtin "repr") := ⟨fun _ => rfl, by first | rfl | kernel_rfl, by decide, by decide⟩
theorem bn_sorted : BName "sorted" (.builtin "sorted") := ⟨fun _ => rfl, by first | rfl | kernel_rfl, by decide, by decide⟩
theorem bn_isinstance : BName "isinstance" (.builtin "isinstance") := ⟨fun _ => rfl, by first | rfl | kernel_rfl, by decide, by decide⟩
theorem bn_range : BName "range" (.type "range") := ⟨fun _ => rfl, by first | rfl | kernel_rfl, by decide, by decide⟩
theorem bn_str : BName "str" (.type "str") := ⟨fun _ => rfl, by first | rfl | kernel_rfl, by decide, by decide⟩
theorem bn_int : BName "int" (.type "int") := ⟨fun _ => rfl, by first | rfl | kernel_rfl, by decide, by decide⟩
theorem bn_bytes : BName "bytes" (.type "bytes") := ⟨fun _ => rfl, by first | rfl | kernel_rfl, by decide, by decide⟩
theorem bn_list : BName "list" (.type "list") := ⟨fun _ => rfl, by first | rfl | kernel_rfl, by decide, by decide⟩
theorem bn_tuple : BName "tuple" (.type "tuple") := ⟨fun _ => rfl, by first | rfl | kernel_rfl, by decide, by decide⟩
theorem bn_dict : BName "dict" (.type "dict") := ⟨fun _ => rfl, by first | rfl | kernel_rfl, by decide, by decide⟩
theorem bn_ValueError : BName "ValueError" (.type "ValueError") := ⟨fun _ => rfl, by first | rfl | kernel_rfl, by decide, by decide⟩
theorem bn_TypeError : BName "TypeError" (.type "TypeError") := ⟨fun _ => rfl, by first | rfl | kernel_rfl, by decide, by decide⟩

/-- a built-in type named -/
theorem EvOk.bname {k nm σ δ x pos T} (hb : BName x (.type T)) (hx : nm.lookup x = some .globalImplicit) : EvOk k nm σ δ (.Name x pos) (.ok (.typ T)) δ := by
  constructor; intro C s Q E O S hq _
  exact bname_eval S.gl v_stays_real hb O.kind O.gl O.bl ((O.kindOf x).trans hx) (hq _ _ _ rfl (Aft.refl S) (.typ T))

theorem gn_hex_four : GName "hex_four" fun _ => .ref 23 := ⟨fun _ => rfl, by decide⟩
theorem gn_json_string : GName "json_string" fun _ => .ref 30 := ⟨fun _ => rfl, by decide⟩
theorem gn_json_text : GName "json_text" fun _ => .ref 36 := ⟨fun _ => rfl, by decide⟩
theorem gn_json_space : GName "json_space" fun _ => .ref 43 := ⟨fun _ => rfl, by decide⟩
theorem gn_json_hex : GName "json_hex" fun _ => .ref 50 := ⟨fun _ => rfl, by decide⟩
theorem gn_json_string_at : GName "json_string_at" fun _ => .ref 57 := ⟨fun _ => rfl, by decide⟩
theorem gn_json_number_at : GName "json_number_at" fun _ => .ref 64 := ⟨fun _ => rfl, by decide⟩
theorem gn_json_value_at : GName "json_value_at" fun _ => .ref 71 := ⟨fun _ => rfl, by decide⟩
theorem gn_json_list_at : GName "json_list_at" fun _ => .ref 78 := ⟨fun _ => rfl, by decide⟩
theorem gn_json_dict_at : GName "json_dict_at" fun _ => .ref 85 := ⟨fun _ => rfl, by decide⟩
theorem gn_json_value : GName "json_value" fun _ => .ref 92 := ⟨fun _ => rfl, by decide⟩
theorem gn_law_draw : GName "_law_draw" fun _ => .ref 97 := ⟨fun _ => rfl, by decide⟩
theorem gn_law_take : GName "_law_take" fun _ => .ref 104 := ⟨fun _ => rfl, by decide⟩
theorem gn_law_text : GName "_law_text" fun _ => .ref 111 := ⟨fun _ => rfl, by decide⟩
theorem gn_law_blank : GName "_law_blank" fun _ => .ref 118 := ⟨fun _ => rfl, by decide⟩
theorem gn_law_value : GName "_law_value" fun _ => .ref 125 := ⟨fun _ => rfl, by decide⟩
theorem gn_law_refused : GName "_law_refused" fun _ => .ref 132 := ⟨fun _ => rfl, by decide⟩
theorem gn_law_unwritten : GName "_law_unwritten" fun _ => .ref 139 := ⟨fun _ => rfl, by decide⟩
theorem gn_law_turned : GName "_law_turned" fun _ => .ref 144 := ⟨fun _ => rfl, by decide⟩
theorem gn_law_in_order : GName "_law_in_order" fun _ => .ref 149 := ⟨fun _ => rfl, by decide⟩
theorem fn_23 : IsFn 23 := fun _ => ⟨_, _, rfl, rfl⟩
theorem fn_30 : IsFn 30 := fun _ => ⟨_, _, rfl, rfl⟩
theorem fn_36 : IsFn 36 := fun _ => ⟨_, _, rfl, rfl⟩
theorem fn_43 : IsFn 43 := fun _ => ⟨_, _, rfl, rfl⟩
theorem fn_50 : IsFn 50 := fun _ => ⟨_, _, rfl, rfl⟩
theorem fn_57 : IsFn 57 := fun _ => ⟨_, _, rfl, rfl⟩
theorem fn_64 : IsFn 64 := fun _ => ⟨_, _, rfl, rfl⟩
theorem fn_71 : IsFn 71 := fun _ => ⟨_, _, rfl, rfl⟩
theorem fn_78 : IsFn 78 := fun _ => ⟨_, _, rfl, rfl⟩
theorem fn_85 : IsFn 85 := fun _ => ⟨_, _, rfl, rfl⟩
theorem fn_92 : IsFn 92 := fun _ => ⟨_, _, rfl, rfl⟩
theorem fn_97 : IsFn 97 := fun _ => ⟨_, _, rfl, rfl⟩
theorem fn_104 : IsFn 104 := fun _ => ⟨_, _, rfl, rfl⟩
theorem fn_111 : IsFn 111 := fun _ => ⟨_, _, rfl, rfl⟩
theorem fn_118 : IsFn 118 := fun _ => ⟨_, _, rfl, rfl⟩
theorem fn_125 : IsFn 125 := fun _ => ⟨_, _, rfl, rfl⟩
theorem fn_132 : IsFn 132 := fun _ => ⟨_, _, rfl, rfl⟩
theorem fn_139 : IsFn 139 := fun _ => ⟨_, _, rfl, rfl⟩
theorem fn_144 : IsFn 144 := fun _ => ⟨_, _, rfl, rfl⟩
theorem fn_149 : IsFn 149 := fun _ => ⟨_, _, rfl, rfl⟩

noncomputable def hexS : Str := Str.ofString "0123456789abcdef"
theorem EvOk.hexName {k nm σ δ pos} (hx : nm.lookup (Str.ofString "_HEX") = some .globalImplicit) : EvOk k nm σ δ (.Name "_HEX" pos) (.ok (.str hexS)) δ :=
  EvOk.gname (v := fun _ => .str hexS 236) ⟨fun _ => rfl, by decide⟩ hx fun _ _ _ _ _ _ => .str _ _

noncomputable def escapesA : List (Int × AV) := [(34, .str (Str.ofString "\\\"")), (92, .str (Str.ofString "\\\\")), (8, .str (Str.ofString "\\b")), (9, .str (Str.ofString "\\t")), (10, .str (Str.ofString "\\n")), (12, .str (Str.ofString "\\f")), (13, .str (Str.ofString "\\r"))]
noncomputable def escapedA : List (Str × AV) := [("\"", .str (Str.ofString "\"")), ("\\", .str (Str.ofString "\\")), ("/", .str (Str.ofString "/")), ("b", .str (Str.ofString "\x08")), ("t", .str (Str.ofString "\t")), ("n", .str (Str.ofString "\n")), ("f", .str (Str.ofString "\x0c")), ("r", .str (Str.ofString "\x0d"))]

theorem notFrag {H : List Addr} {a : Addr} (h : ∀ a ∈ H, 154 < a) (ha : a ≤ 154) : a ∉ H := fun q => absurd (h a q) (Nat.not_lt.mpr ha)
theorem EvOk.escapes {k nm σ δ pos} (hx : nm.lookup (Str.ofString "_ESCAPES") = some .globalImplicit) : EvOk k nm σ δ (.Name "_ESCAPES" pos) (.ok (.idict escapesA)) δ := by
  refine EvOk.gname (v := fun _ => .ref 15) ⟨fun _ => rfl, by decide⟩ hx fun w D h H g hb => ?_
  refine .idict (kvs := [(34, .str (Str.ofString "\\\"") 190), (92, .str (Str.ofString "\\\\") 192), (8, .str (Str.ofString "\\b") 194), (9, .str (Str.ofString "\\t") 196), (10, .str (Str.ofString "\\n") 198), (12, .str (Str.ofString "\\f") 200), (13, .str (Str.ofString "\\r") 202)])
    ⟨_, _, 7, v_get (g.1 15 _ rfl), ⟨rfl, rfl, rfl⟩, rfl, ?_, ?_, by decide⟩ (notFrag hb (by decide)) (by decide) rfl ?_
  · intro e he
    simp only [List.mem_toArray, List.mem_cons, List.not_mem_nil, or_false] at he
    rcases he with rfl | rfl | rfl | rfl | rfl | rfl | rfl <;> exact ⟨_, beq_self_eq_true _, rfl⟩
  · repeat (first | exact .nil | refine .cons (beq_self_eq_true _) rfl ?_)
  · repeat (first | exact .nil | refine .cons (.str _ _) ?_)
theorem EvOk.escaped {k nm σ δ pos} (hx : nm.lookup (Str.ofString "_ESCAPED") = some .globalImplicit) : EvOk k nm σ δ (.Name "_ESCAPED" pos) (.ok (.dict escapedA)) δ := by
  refine EvOk.gname (v := fun _ => .ref 16) ⟨fun _ => rfl, by decide⟩ hx fun w D h H g hb => ?_
  refine .dict (kvs := [("\"", .str (Str.ofString "\"") 212), ("\\", .str (Str.ofString "\\") 214), ("/", .str (Str.ofString "/") 216), ("b", .str (Str.ofString "\x08") 218), ("t", .str (Str.ofString "\t") 220), ("n", .str (Str.ofString "\n") 222), ("f", .str (Str.ofString "\x0c") 224), ("r", .str (Str.ofString "\x0d") 226)])
    ⟨_, _, _, v_get (g.1 16 _ rfl), ⟨rfl, rfl, rfl⟩, rfl, ?_, ?_, by decide⟩ (notFrag hb (by decide)) (by decide) rfl ?_
  · intro e he
    simp only [List.mem_toArray, List.mem_cons, List.not_mem_nil, or_false] at he
    rcases he with rfl | rfl | rfl | rfl | rfl | rfl | rfl | rfl <;> exact ⟨_, beq_self_eq_true _, rfl⟩
  · repeat (first | exact .nil | refine .cons (beq_self_eq_true _) rfl ?_)
  · repeat (first | exact .nil | refine .cons (.str _ _) ?_)
end Mine

namespace Mine
set_option maxRecDepth 100000

theorem TOk.cmp' {k nm σ δ δ1 δ2} {l op r pos a b c d} (h1 : EvOk k nm σ δ l (.ok a) δ1) (h2 : EvOk k nm σ δ1 r (.ok b) δ2) (h3 : POk k op a b c) (hc : c = d) (hm : behindInMarks op r = false := by rfl) : TOk k nm σ δ (.Compare l [op] [r] pos) d δ2 :=
  hc ▸ TOk.cmp h1 h2 h3 hm
theorem BOk.addN {k} {a b : Nat} : BOk k .Add (.int (a : Int)) (.int (b : Int)) (.int ((a + b : Nat) : Int)) := BOk.add
theorem BOk.subN {k} {a b : Nat} (h : b ≤ a) : BOk k .Sub (.int (a : Int)) (.int (b : Int)) (.int ((a - b : Nat) : Int)) := by
  have : ((a - b : Nat) : Int) = (a : Int) - (b : Int) := by omega
  rw [this]; exact BOk.sub
theorem BOk.mulN {k} {a b : Nat} (h : IntMulOk a b) : BOk k .Mult (.int (a : Int)) (.int (b : Int)) (.int ((a * b : Nat) : Int)) := by
  have : ((a * b : Nat) : Int) = (a : Int) * (b : Int) := by push_cast; rfl
  rw [this]; exact BOk.mul h
theorem BOk.modN {k} {a b : Nat} (h : b ≠ 0) : BOk k .Mod (.int (a : Int)) (.int (b : Int)) (.int ((a % b : Nat) : Int)) := by
  have : ((a % b : Nat) : Int) = Int.fmod (a : Int) (b : Int) := by rw [Int.fmod_eq_emod_of_nonneg _ (by omega)]; push_cast; rfl
  rw [this]; exact BOk.mod (by omega)
theorem BOk.divN {k} {a b : Nat} (h : 0 < b ∧ b < 1073741824) : BOk k .FloorDiv (.int (a : Int)) (.int (b : Int)) (.int ((a / b : Nat) : Int)) := by
  have : ((a / b : Nat) : Int) = Int.fdiv (a : Int) (b : Int) := by rw [Int.fdiv_eq_ediv_of_nonneg _ (by omega)]; push_cast; rfl
  rw [this]; exact BOk.div (by omega) (PyProof.noPylong_small (by omega))
theorem BOk.addL {k} {a n : Nat} : BOk k .Add (.int (a : Int)) (.int (OfNat.ofNat n : Int)) (.int ((a + (OfNat.ofNat n : Nat) : Nat) : Int)) := BOk.addN
theorem BOk.modL {k} {a n : Nat} (h : (OfNat.ofNat n : Nat) ≠ 0) : BOk k .Mod (.int (a : Int)) (.int (OfNat.ofNat n : Int)) (.int ((a % (OfNat.ofNat n : Nat) : Nat) : Int)) := BOk.modN h
theorem BOk.divL {k} {a n : Nat} (h : 0 < (OfNat.ofNat n : Nat) ∧ (OfNat.ofNat n : Nat) < 1073741824) : BOk k .FloorDiv (.int (a : Int)) (.int (OfNat.ofNat n : Int)) (.int ((a / (OfNat.ofNat n : Nat) : Nat) : Int)) := BOk.divN h
theorem BOk.mulL {k} {a n : Nat} (h : IntMulOk (a : Int) (OfNat.ofNat n : Int)) : BOk k .Mult (.int (a : Int)) (.int (OfNat.ofNat n : Int)) (.int ((a * (OfNat.ofNat n : Nat) : Nat) : Int)) := BOk.mulN h
theorem BOk.mulLr {k} {a n : Nat} (h : IntMulOk (OfNat.ofNat n : Int) (a : Int)) : BOk k .Mult (.int (OfNat.ofNat n : Int)) (.int (a : Int)) (.int (((OfNat.ofNat n : Nat) * a : Nat) : Int)) := BOk.mulN h
theorem BOk.addLr {k} {a n : Nat} : BOk k .Add (.int (OfNat.ofNat n : Int)) (.int (a : Int)) (.int (((OfNat.ofNat n : Nat) + a : Nat) : Int)) := BOk.addN
theorem BOk.subL {k} {a n : Nat} (h : (OfNat.ofNat n : Nat) ≤ a) : BOk k .Sub (.int (a : Int)) (.int (OfNat.ofNat n : Int)) (.int ((a - (OfNat.ofNat n : Nat) : Nat) : Int)) := BOk.subN h
theorem GOk.strN {k} {x : Str} {i : Nat} {c : Nat} (hi : i < 2 ^ 62) (hc : x.cps[i]? = some c) : GOk k (.str x) (.int (i : Int)) (.str ⟨#[c]⟩) := GOk.str (by omega) (by omega) (by simpa using hc)

noncomputable def hexc (d : Nat) : Nat := if d < 10 then 48 + d else 87 + d
theorem hexS_at {d : Nat} (h : d < 16) : hexS.cps[d]? = some (hexc d) := by
  have : ∀ d : Fin 16, hexS.cps[d.1]? = some (hexc d.1) := by decide +kernel
  exact this ⟨d, h⟩
theorem GOk.hexd {k} {d : Nat} (h : d < 16) : GOk k (.str hexS) (.int (d : Int)) (.str ⟨#[hexc d]⟩) := GOk.strN (by omega) (hexS_at h)

theorem len_one {c : Nat} : (⟨#[c]⟩ : Str).length = 1 := rfl
noncomputable def hex4 (n : Nat) : Str := ⟨#[92, 117, hexc (n / 4096), hexc (n / 256 % 16), hexc (n / 16 % 16), hexc (n % 16)]⟩
theorem len_hex4 {n : Nat} : (hex4 n).length = 6 := rfl
theorem len_lit1 : (Str.ofString "\"").length = 1 := by decide +kernel
theorem len_lit2 : (Str.ofString "\\u").length = 2 := by decide +kernel
local macro_rules | `(tactic| walk_at "size") => `(tactic| first | omega | assumption | (simp only [Str.length_append, len_one, len_hex4, len_lit1, len_lit2, sizeLine_eq] <;> omega) | skip)
local macro_rules | `(tactic| walk_at "op") => `(tactic| first
  | exact BOk.addL | exact BOk.addLr | exact BOk.addN | exact BOk.add
  | (refine' BOk.subL ?oa; (case' oa => omega))
  | (refine' BOk.modL ?ob; (case' ob => decide))
  | (refine' BOk.divL ?oc; (case' oc => decide))
  | (refine' BOk.cat ?od; (case' od => walk_at "size"))
  | exact POk.eqS | exact POk.neS | exact POk.inS | exact POk.eqI | exact POk.neI | exact POk.ltI | exact POk.leI | exact POk.gtI | exact POk.geI | exact POk.isNone | exact POk.isB | exact POk.inI | exact POk.inD
  | skip)
local macro_rules | `(tactic| walk_at "side") => `(tactic| first | omega | assumption | decide | skip)
local macro_rules | `(tactic| walk_at "item") => `(tactic| first
  | exact GOk.strN (by omega) (by assumption)
  | (refine' GOk.hexd ?ia; (case' ia => omega))
  | (refine' GOk.list ?ib ?ic ?id; (case' ib => decide); (case' ic => decide); (case' id => rfl))
  | skip)
local macro_rules | `(tactic| walk_at "ev") => `(tactic| first
  | exact EvOk.name (by rfl) (by decide)
  | exact EvOk.int | exact EvOk.str | exact EvOk.none | exact EvOk.bool | exact EvOk.bytes
  | (refine' EvOk.bin ?ba ?bb ?bc; (case' ba => walk_at "ev"); (case' bb => walk_at "ev"); (case' bc => walk_at "op"))
  | (refine' EvOk.slice ?sa ?sb ?sc ?sd ?se; (case' sa => walk_at "ev"); (case' sb => walk_at "ev"); (case' sc => walk_at "ev"); (case' sd => walk_at "side"); (case' se => walk_at "side"))
  | (refine' EvOk.sliceTo ?ra ?rb ?rc; (case' ra => walk_at "ev"); (case' rb => walk_at "ev"); (case' rc => walk_at "side"))
  | (refine' EvOk.sub ?ua ?ub ?uc; (case' ua => walk_at "ev"); (case' ub => walk_at "ev"); (case' uc => walk_at "item"))
  | (refine' EvOk.tuple ?ta ?tb; (case' ta => walk_at "ev"); (case' tb => decide))
  | (refine' EvLOk.cons ?ca ?cb; (case' ca => walk_at "ev"); (case' cb => walk_at "ev"))
  | exact EvLOk.nil
  | exact EvOk.hexName (by rfl)
  | exact EvOk.escapes (by rfl)
  | exact EvOk.escaped (by rfl)
  | (refine' EvOk.bcall bn_len (by rfl) (by intro _; nofun) ?fa (FOk.lenS ?fb); (case' fa => walk_at "ev"); (case' fb => walk_at "side"))
  | (refine' EvOk.bcall bn_ord (by rfl) (by intro _; nofun) ?fc FOk.ord; (case' fc => walk_at "ev"))
  | (refine' EvOk.bcall bn_chr (by rfl) (by intro _; nofun) ?fd (FOk.chr ?fe ?ff); (case' fd => walk_at "ev"); (case' fe => walk_at "side"); (case' ff => walk_at "side"))
  | (refine' EvOk.bcall bn_str (by rfl) (by intro _; nofun) ?fg (FOk.strOf ?fh); (case' fg => walk_at "ev"); (case' fh => walk_at "side"))
  | (refine' EvOk.bcall bn_int (by rfl) (by intro _; nofun) ?fi (FOk.intOf ?fj ?fk); (case' fi => walk_at "ev"); (case' fj => walk_at "side"); (case' fk => walk_at "side"))
  | (refine' EvOk.bcall bn_range (by rfl) (by intro _; nofun) ?fl FOk.range; (case' fl => walk_at "ev"))
  | (refine' EvOk.bcall bn_abs (by rfl) (by intro _; nofun) ?fm FOk.abs; (case' fm => walk_at "ev"))
  | (refine' TOk.cmp' ?pa ?pb ?pc ?pd; (case' pa => walk_at "ev"); (case' pb => walk_at "ev"); (case' pc => walk_at "op"))
  | (refine' TOk.not ?na; (case' na => walk_at "ev"))
  | (refine' EvOk.cmp ?qa ?qb ?qc; (case' qa => walk_at "ev"); (case' qb => walk_at "ev"); (case' qc => walk_at "op"))
  | skip)

theorem def_23 : DefAt 23 (fdOf 23) ["number"] (bodyOf 23) := ⟨fun _ => rfl, fun _ => rfl, rfl, rfl, rfl, rfl, rfl, rfl, rfl, by decide⟩

theorem hex_four_ok {n : Nat} (hn : n < 65536) {δ} : CallOk 1 23 [.int (n : Int)] δ (.ok (.str (hex4 n))) δ := by
  refine CallOk.plain (o := .ret (.str (hex4 n))) (ℓ' := [("number", .val (.int (n : Int)))]) def_23 (by decide) (by decide) rfl (fun s vals hv => ?_) ?_ rfl
  · match vals, hv with
    | [a], _ => exact BindsTo.of_eq rfl
  refine' XsOk.ret (XOk.ret ?_)
  walk_at "ev"

end Mine

namespace Mine
set_option maxRecDepth 100000

local macro_rules | `(tactic| walk_at "size") => `(tactic| first | omega | assumption | (simp only [Str.length_append, len_one, len_hex4, len_lit1, len_lit2, sizeLine_eq] <;> omega) | skip)
local macro_rules | `(tactic| walk_at "op") => `(tactic| first
  | exact BOk.addL | exact BOk.addLr | exact BOk.addN | exact BOk.add
  | (refine' BOk.subL ?oa; (case' oa => omega))
  | (refine' BOk.modL ?ob; (case' ob => decide))
  | (refine' BOk.divL ?oc; (case' oc => decide))
  | (refine' BOk.cat ?od; (case' od => walk_at "size"))
  | exact POk.eqS | exact POk.neS | exact POk.inS | exact POk.eqI | exact POk.neI | exact POk.ltI | exact POk.leI | exact POk.gtI | exact POk.geI | exact POk.isNone | exact POk.isB | exact POk.inI | exact POk.inD
  | skip)
local macro_rules | `(tactic| walk_at "side") => `(tactic| first | omega | assumption | decide | skip)
local macro_rules | `(tactic| walk_at "item") => `(tactic| first
  | exact GOk.strN (by omega) (by assumption)
  | (refine' GOk.hexd ?ia; (case' ia => omega))
  | (refine' GOk.list ?ib ?ic ?id; (case' ib => decide); (case' ic => decide); (case' id => rfl))
  | skip)
local macro_rules | `(tactic| walk_at "ev") => `(tactic| first
  | exact EvOk.name (by rfl) (by decide)
  | exact EvOk.int | exact EvOk.str | exact EvOk.none | exact EvOk.bool | exact EvOk.bytes
  | (refine' EvOk.bin ?ba ?bb ?bc; (case' ba => walk_at "ev"); (case' bb => walk_at "ev"); (case' bc => walk_at "op"))
  | (refine' EvOk.slice ?sa ?sb ?sc ?sd ?se; (case' sa => walk_at "ev"); (case' sb => walk_at "ev"); (case' sc => walk_at "ev"); (case' sd => walk_at "side"); (case' se => walk_at "side"))
  | (refine' EvOk.sliceTo ?ra ?rb ?rc; (case' ra => walk_at "ev"); (case' rb => walk_at "ev"); (case' rc => walk_at "side"))
  | (refine' EvOk.sub ?ua ?ub ?uc; (case' ua => walk_at "ev"); (case' ub => walk_at "ev"); (case' uc => walk_at "item"))
  | (refine' EvOk.tuple ?ta ?tb; (case' ta => walk_at "ev"); (case' tb => decide))
  | (refine' EvLOk.cons ?ca ?cb; (case' ca => walk_at "ev"); (case' cb => walk_at "ev"))
  | exact EvLOk.nil
  | exact EvOk.hexName (by rfl)
  | exact EvOk.escapes (by rfl)
  | exact EvOk.escaped (by rfl)
  | (refine' EvOk.bcall bn_len (by rfl) (by intro _; nofun) ?fa (FOk.lenS ?fb); (case' fa => walk_at "ev"); (case' fb => walk_at "side"))
  | (refine' EvOk.bcall bn_ord (by rfl) (by intro _; nofun) ?fc FOk.ord; (case' fc => walk_at "ev"))
  | (refine' EvOk.bcall bn_chr (by rfl) (by intro _; nofun) ?fd (FOk.chr ?fe ?ff); (case' fd => walk_at "ev"); (case' fe => walk_at "side"); (case' ff => walk_at "side"))
  | (refine' EvOk.bcall bn_str (by rfl) (by intro _; nofun) ?fg (FOk.strOf ?fh); (case' fg => walk_at "ev"); (case' fh => walk_at "side"))
  | (refine' EvOk.bcall bn_int (by rfl) (by intro _; nofun) ?fi (FOk.intOf ?fj ?fk); (case' fi => walk_at "ev"); (case' fj => walk_at "side"); (case' fk => walk_at "side"))
  | (refine' EvOk.bcall bn_range (by rfl) (by intro _; nofun) ?fl FOk.range; (case' fl => walk_at "ev"))
  | (refine' EvOk.bcall bn_abs (by rfl) (by intro _; nofun) ?fm FOk.abs; (case' fm => walk_at "ev"))
  | (refine' TOk.cmp' ?pa ?pb ?pc ?pd; (case' pa => walk_at "ev"); (case' pb => walk_at "ev"); (case' pc => walk_at "op"))
  | (refine' TOk.not ?na; (case' na => walk_at "ev"))
  | (refine' EvOk.cmp ?qa ?qb ?qc; (case' qa => walk_at "ev"); (case' qb => walk_at "ev"); (case' qc => walk_at "op"))
  | skip)

/-! ## names forgotten -/
inductive Subl : Loc → Loc → Prop
  | nil {ℓ} : Subl [] ℓ
  | cons {x lv r ℓ} : ℓ.lookup x = some lv → Subl r ℓ → Subl ((x, lv) :: r) ℓ
theorem Subl.look : ∀ {a b : Loc}, Subl a b → ∀ {x lv}, a.lookup x = some lv → b.lookup x = some lv
  | _, _, .nil, _, _, e => by simp at e
  | (y, l) :: r, b, .cons h1 h2, x, lv, e => by
    rw [List.lookup_cons] at e
    cases hx : x == y with
    | true =>
      rw [hx] at e
      have : x = y := by simpa using hx
      cases e
      subst this
      exact h1
    | false => rw [hx] at e; exact h2.look e
theorem StSt.forget {F : FCx} {O : List Addr} {ℓ ℓ3 : Loc} {δ : Draw} {s : Shared} (S : StSt F O ℓ δ s) (h : Subl ℓ3 ℓ) : StSt F O ℓ3 δ s :=
  ⟨S.same, S.dr, S.h0, S.hid, S.cel, S.own, let ⟨m, hn, hl, hi⟩ := S.nml; ⟨m, hn, fun x lv e => hl x lv (h.look e), fun x y lx ly a ex ey => hi x y lx ly a (h.look ex) (h.look ey)⟩⟩
theorem Nxt.forget {F : FCx} {O : List Addr} {ℓ ℓ3 : Loc} {δ : Draw} {s s' : Shared} (n : Nxt F O ℓ δ s s') (h : Subl ℓ3 ℓ) : Nxt F O ℓ3 δ s s' :=
  ⟨let ⟨O', S, hO⟩ := n.ex; ⟨O', S.forget h, hO⟩, n.kp, n.sz⟩
theorem SOk.forget {k nm ℓ δ t o ℓ2 ℓ3 δ'} (h : SOk k nm ℓ δ t o ℓ2 δ') (hs : Subl ℓ3 ℓ2) : SOk k nm ℓ δ t o ℓ3 δ' :=
  ⟨fun F O s Q E K S hn hc hr he => h.run F O s Q E K S (fun s' e n => hn s' e (n.forget hs)) (fun s' e n => hc s' e (n.forget hs)) hr he⟩
theorem XsOk.forget {k nm ℓ δ t o ℓ2 ℓ3 δ'} (h : XsOk k nm ℓ δ t o ℓ2 δ') (hs : Subl ℓ3 ℓ2) : XsOk k nm ℓ δ t o ℓ3 δ' := SOk.forget h hs

/-! ## parts of a body -/
noncomputable def stAt (l : List Stmt) (n : Nat) : Stmt := l.getD n (.Pass default)
noncomputable def wT : Stmt → Expr
  | .While t _ _ _ => t
  | _ => .Constant .none default default
noncomputable def wB : Stmt → List Stmt
  | .While _ b _ _ => b
  | .For _ _ b _ _ => b
  | .If _ b _ _ => b
  | .Try b _ _ _ _ => b
  | _ => []
noncomputable def eB : Stmt → List Stmt
  | .If _ _ e _ => e
  | _ => []

/-! ## where the text stands -/
structure At (x : Str) (i : Nat) (l : List Nat) : Prop where
  drop : x.cps.toList.drop i = l
  le : i ≤ x.length
section
variable {x : Str} {i : Nat} {c : Nat} {l p r : List Nat}
theorem str_len : x.cps.toList.length = x.length := by simp [Str.length]
theorem At.get (h : At x i (c :: r)) : x.cps[i]? = some c := by
  have : (x.cps.toList.drop i)[0]? = some c := by rw [h.drop]; rfl
  simpa using this
theorem At.len (h : At x i l) : x.length = i + l.length := by
  have := congrArg List.length h.drop
  rw [List.length_drop, str_len] at this
  have := h.le
  omega
theorem At.lt (h : At x i (c :: r)) : i < x.length := by have := h.len; simp at this; omega
theorem At.tail (h : At x i (c :: r)) : At x (i + 1) r := ⟨by rw [← List.drop_drop, h.drop]; rfl, h.lt⟩
theorem At.app (h : At x i (p ++ r)) : At x (i + p.length) r := ⟨by rw [← List.drop_drop, h.drop]; simp, by have := h.len; simp at this; omega⟩
theorem At.nil (h : At x i []) : i = x.length := by have := h.len; simp at this; omega
theorem At.zero : At x 0 x.cps.toList := ⟨rfl, Nat.zero_le _⟩
theorem At.sub (h : At x i l) (n : Nat) : subS x i (i + n) = ⟨(l.take n).toArray⟩ := by unfold subS; rw [h.drop]; congr 3; omega
theorem At.ge (h : x.length ≤ i) (n : Nat) : subS x i (i + n) = ⟨#[]⟩ := by
  unfold subS; rw [List.drop_eq_nil_of_le (by rw [str_len]; exact h)]; simp
end

/-! ## json_space -/
noncomputable def blank (c : Nat) : Bool := c == 32 || c == 9 || c == 10 || c == 13
noncomputable def spaces : List Nat → Nat
  | [] => 0
  | c :: r => if blank c then spaces r + 1 else 0
noncomputable def spaceF (x : Str) (i : Nat) : Nat := i + spaces (x.cps.toList.drop i)
theorem At.space {x i l} (h : At x i l) : spaceF x i = i + spaces l := by unfold spaceF; rw [h.drop]
theorem spaceF_end {x : Str} {i : Nat} (h : x.length ≤ i) : spaceF x i = i := by
  unfold spaceF
  rw [List.drop_eq_nil_of_le (by rw [str_len]; exact h)]
  rfl
theorem blank_in (c : Nat) : decide (c ∈ (Str.ofString " \t\n\x0d").cps.toList) = blank c := by
  have e : (Str.ofString " \t\n\x0d").cps.toList = [32, 9, 10, 13] := by decide +kernel
  rw [e]
  simp only [blank, List.mem_cons, List.not_mem_nil, or_false, Bool.decide_or, Bool.or_assoc]
  rfl
theorem spaces_le : ∀ l : List Nat, spaces l ≤ l.length
  | [] => Nat.le_refl _
  | c :: r => by have := spaces_le r; unfold spaces; split <;> simp <;> omega
theorem At.spaced {x i l} (h : At x i l) : At x (spaceF x i) (l.drop (spaces l)) := by
  rw [h.space]
  refine ⟨by rw [← List.drop_drop, h.drop], ?_⟩
  have := h.len
  have := spaces_le l
  omega

theorem def_43 : DefAt 43 (fdOf 43) ["text", "at"] (bodyOf 43) := ⟨fun _ => rfl, fun _ => rfl, rfl, rfl, rfl, rfl, rfl, rfl, rfl, by decide⟩

theorem space_ok {δ : Draw} {x : Str} (hx : x.length < 2 ^ 40) (i : Nat) (hi0 : i ≤ 2 ^ 41) : CallOk 1 43 [.str x, .int i] δ (.ok (.int (spaceF x i))) δ := by
  refine CallOk.plain (o := .ret (.int (spaceF x i))) (ℓ' := [("text", .val (.str x)), ("at", .val (.int (spaceF x i)))]) def_43 (by decide) (by decide) rfl (fun s vals hv => ?_) ?_ rfl
  · match vals, hv with
    | [a, b], _ => exact BindsTo.of_eq rfl
  refine XsOk.cons (XOk.while ?_) (XsOk.ret (XOk.ret (EvOk.name (by rfl) (by decide))))
  have key : ∀ (l : List Nat) (i : Nat), At x i l → WOk 0 (fdOf 43).scope.names [("text", .val (.str x)), ("at", .val (.int i))] δ (.whileLoop (wT (stAt (bodyOf 43) 0)) (wB (stAt (bodyOf 43) 0)) []) .next [("text", .val (.str x)), ("at", .val (.int (i + spaces l : Nat)))] δ := by
    intro l
    induction l with
    | nil =>
      intro i h
      refine' WOk.stop (TOk.bool (AllOk.andF ?_))
      have := h.nil
      walk_at "ev"
      exact decide_eq_false (by omega)
    | cons c r ih =>
      intro i h
      have hg := h.get
      have hl := h.lt
      cases hb : blank c with
      | true =>
        have e : i + spaces (c :: r) = (i + 1) + spaces r := by simp only [spaces, hb, if_true]; omega
        rw [e]
        refine' WOk.step (TOk.bool (AllOk.andT ?_ (AllOk.andT ?_ AllOk.andNil))) (XsOk.cons (XOk.augAdd rfl EvOk.int rfl) XsOk.nil) (.inl rfl) (ih (i + 1) h.tail)
        · walk_at "ev"
          exact decide_eq_true (by omega)
        · walk_at "ev"
          exact (blank_in c).trans hb
      | false =>
        have e : i + spaces (c :: r) = i := by simp [spaces, hb]
        rw [e]
        refine' WOk.stop (TOk.bool (AllOk.andT ?_ (AllOk.andF ?_)))
        · walk_at "ev"
          exact decide_eq_true (by omega)
        · walk_at "ev"
          exact (blank_in c).trans hb
  by_cases h : i ≤ x.length
  · exact key _ i ⟨rfl, h⟩
  · rw [spaceF_end (by omega)]
    refine' WOk.stop (TOk.bool (AllOk.andF ?_))
    walk_at "ev"
    exact decide_eq_false (by omega)
end Mine

namespace Mine
set_option maxRecDepth 100000

local macro_rules | `(tactic| walk_at "size") => `(tactic| first | omega | assumption | (simp only [Str.length_append, len_one, len_hex4, len_lit1, len_lit2, sizeLine_eq] <;> omega) | skip)
local macro_rules | `(tactic| walk_at "op") => `(tactic| first
  | exact BOk.addL | exact BOk.addLr | exact BOk.addN | exact BOk.add
  | (refine' BOk.subL ?oa; (case' oa => omega))
  | (refine' BOk.modL ?ob; (case' ob => decide))
  | (refine' BOk.divL ?oc; (case' oc => decide))
  | (refine' BOk.cat ?od; (case' od => walk_at "size"))
  | exact POk.eqS | exact POk.neS | exact POk.inS | exact POk.eqI | exact POk.neI | exact POk.ltI | exact POk.leI | exact POk.gtI | exact POk.geI | exact POk.isNone | exact POk.isB | exact POk.inI | exact POk.inD
  | skip)
local macro_rules | `(tactic| walk_at "side") => `(tactic| first | omega | assumption | decide | skip)
local macro_rules | `(tactic| walk_at "item") => `(tactic| first
  | exact GOk.strN (by omega) (by assumption)
  | (refine' GOk.hexd ?ia; (case' ia => omega))
  | (refine' GOk.list ?ib ?ic ?id; (case' ib => decide); (case' ic => decide); (case' id => rfl))
  | skip)
local macro_rules | `(tactic| walk_at "ev") => `(tactic| first
  | exact EvOk.name (by rfl) (by decide)
  | exact EvOk.int | exact EvOk.str | exact EvOk.none | exact EvOk.bool | exact EvOk.bytes
  | (refine' EvOk.bin ?ba ?bb ?bc; (case' ba => walk_at "ev"); (case' bb => walk_at "ev"); (case' bc => walk_at "op"))
  | (refine' EvOk.slice ?sa ?sb ?sc ?sd ?se; (case' sa => walk_at "ev"); (case' sb => walk_at "ev"); (case' sc => walk_at "ev"); (case' sd => walk_at "side"); (case' se => walk_at "side"))
  | (refine' EvOk.sliceTo ?ra ?rb ?rc; (case' ra => walk_at "ev"); (case' rb => walk_at "ev"); (case' rc => walk_at "side"))
  | (refine' EvOk.sub ?ua ?ub ?uc; (case' ua => walk_at "ev"); (case' ub => walk_at "ev"); (case' uc => walk_at "item"))
  | (refine' EvOk.tuple ?ta ?tb; (case' ta => walk_at "ev"); (case' tb => decide))
  | (refine' EvLOk.cons ?ca ?cb; (case' ca => walk_at "ev"); (case' cb => walk_at "ev"))
  | exact EvLOk.nil
  | exact EvOk.hexName (by rfl)
  | exact EvOk.escapes (by rfl)
  | exact EvOk.escaped (by rfl)
  | (refine' EvOk.bcall bn_len (by rfl) (by intro _; nofun) ?fa (FOk.lenS ?fb); (case' fa => walk_at "ev"); (case' fb => walk_at "side"))
  | (refine' EvOk.bcall bn_ord (by rfl) (by intro _; nofun) ?fc FOk.ord; (case' fc => walk_at "ev"))
  | (refine' EvOk.bcall bn_chr (by rfl) (by intro _; nofun) ?fd (FOk.chr ?fe ?ff); (case' fd => walk_at "ev"); (case' fe => walk_at "side"); (case' ff => walk_at "side"))
  | (refine' EvOk.bcall bn_str (by rfl) (by intro _; nofun) ?fg (FOk.strOf ?fh); (case' fg => walk_at "ev"); (case' fh => walk_at "side"))
  | (refine' EvOk.bcall bn_int (by rfl) (by intro _; nofun) ?fi (FOk.intOf ?fj ?fk); (case' fi => walk_at "ev"); (case' fj => walk_at "side"); (case' fk => walk_at "side"))
  | (refine' EvOk.bcall bn_range (by rfl) (by intro _; nofun) ?fl FOk.range; (case' fl => walk_at "ev"))
  | (refine' EvOk.bcall bn_abs (by rfl) (by intro _; nofun) ?fm FOk.abs; (case' fm => walk_at "ev"))
  | (refine' TOk.cmp' ?pa ?pb ?pc ?pd; (case' pa => walk_at "ev"); (case' pb => walk_at "ev"); (case' pc => walk_at "op"))
  | (refine' TOk.not ?na; (case' na => walk_at "ev"))
  | (refine' EvOk.cmp ?qa ?qb ?qc; (case' qa => walk_at "ev"); (case' qb => walk_at "ev"); (case' qc => walk_at "op"))
  | skip)

theorem mulOk_small {a b : Int} (ha : a.natAbs < 2 ^ 64) (hb : b.natAbs < 2 ^ 64) : IntMulOk a b := IntMulOk.of_le (m := 64) (n := 64) (intBits_le_iff.mpr ha) (intBits_le_iff.mpr hb) (by decide)

/-! ## json_hex -/
noncomputable def hexv (c : Nat) : Nat := if c < 58 then c - 48 else if c < 71 then c - 55 else c - 87
noncomputable def isHex (c : Nat) : Bool := (48 ≤ c && c < 58) || (65 ≤ c && c < 71) || (97 ≤ c && c < 103)
noncomputable def lowc (c : Nat) : Nat := if c < 71 && 65 ≤ c then c + 32 else c
theorem hex_facts : ∀ c, isHex c = true → Txt.lower ⟨#[c]⟩ = ⟨#[lowc c]⟩ ∧ (Txt.find hexS ⟨#[lowc c]⟩ : Int) = (hexv c : Nat) := by
  have key : ∀ c : Fin 128, isHex c.1 = true → Txt.lower ⟨#[c.1]⟩ = ⟨#[lowc c.1]⟩ ∧ (Txt.find hexS ⟨#[lowc c.1]⟩ : Int) = (hexv c.1 : Nat) := by decide +kernel
  intro c h
  have : c < 128 := by
    simp only [isHex, Bool.or_eq_true, Bool.and_eq_true, decide_eq_true_eq] at h
    omega
  exact key ⟨c, this⟩ h
theorem hexv_lt {c : Nat} (h : isHex c = true) : hexv c < 16 := by
  simp only [isHex, Bool.or_eq_true, Bool.and_eq_true, decide_eq_true_eq] at h
  unfold hexv
  split
  · omega
  · split <;> omega
theorem EvOk.lower {k nm σ δ δ1 o apos pos} {c : Nat} (h : isHex c = true) (ho : EvOk k nm σ δ o (.ok (.str ⟨#[c]⟩)) δ1) (hbase : ∀ env, attributeBase o "lower" env (eval o env) = eval o env := by intro _; rfl) (hline : (apos.endLine == pos.line) = true := by rfl) :
    EvOk k nm σ δ (.Call (.Attribute o "lower" apos) [] [] pos) (.ok (.str ⟨#[lowc c]⟩)) δ1 :=
  EvOk.meth ho EvLOk.nil rfl F.plainAttrs_str F.slot_str_lower F.type_str_lower (FOk.lower (hex_facts c h).1 (by rw [(hex_facts c h).1]; rfl)) hbase hline
theorem EvOk.findHex {k nm σ δ δ1 δ2 o e apos pos} {c : Nat} (h : isHex c = true) (ho : EvOk k nm σ δ o (.ok (.str hexS)) δ1) (he : EvLOk k nm σ δ1 [e] (.ok [.str ⟨#[lowc c]⟩]) δ2) (hbase : ∀ env, attributeBase o "find" env (eval o env) = eval o env := by intro _; rfl) (hline : (apos.endLine == pos.line) = true := by rfl) :
    EvOk k nm σ δ (.Call (.Attribute o "find" apos) [e] [] pos) (.ok (.int (hexv c : Nat))) δ2 :=
  EvOk.meth ho he rfl F.plainAttrs_str F.slot_str_find F.type_str_find (FOk.find (hex_facts c h).2) hbase hline (by show 1 < 29; decide)

noncomputable def hexF (acc : Nat) (l : List Nat) : Nat := l.foldl (fun a c => 16 * a + hexv c) acc

theorem def_50 : DefAt 50 (fdOf 50) ["text", "at"] (bodyOf 50) := ⟨fun _ => rfl, fun _ => rfl, rfl, rfl, rfl, rfl, rfl, rfl, rfl, by decide⟩

noncomputable def hexL (x : Str) (i : Nat) (n : Nat) : Loc := [("text", .val (.str x)), ("at", .val (.int i)), ("number", .val (.int n))]

theorem hex_loop {δ : Draw} {x : Str} {i : Nat} : ∀ (l : List Nat) (acc : Nat), (∀ c ∈ l, isHex c = true) → acc * 16 ^ l.length + 16 ^ l.length ≤ 2 ^ 60 →
    LOk 0 (fdOf 50).scope.names (hexL x i acc) δ "sign" (l.map fun c => .str ⟨#[c]⟩) (wB (stAt (bodyOf 50) 1)) .next (hexL x i (hexF acc l)) δ
  | [], acc, _, _ => LOk.nil
  | c :: r, acc, h, hb => by
    have hc := h c (List.mem_cons_self ..)
    have h16 := hexv_lt hc
    have h1 : 1 ≤ 16 ^ r.length := Nat.one_le_pow _ _ (by decide)
    have e : 16 ^ (c :: r).length = 16 * 16 ^ r.length := by rw [List.length_cons, Nat.pow_succ]; omega
    rw [e] at hb
    have hacc : acc ≤ 2 ^ 60 := by
      have : acc * 1 ≤ acc * (16 * 16 ^ r.length) := Nat.mul_le_mul_left _ (by omega)
      omega
    refine' LOk.step (b := .next) (ℓ2 := hexL x i (16 * acc + hexv c)) (δ2 := δ) rfl (XsOk.forget (XsOk.cons (XOk.assign (av := .int (hexv c : Nat)) (δ' := δ) ?g1 rfl) (XsOk.cons (XOk.ifF (δ1 := δ) ?g2 XsOk.nil) (XsOk.cons (XOk.assign (av := .int (16 * acc + hexv c : Nat)) ?g3 rfl) XsOk.nil))) (.cons rfl (.cons rfl (.cons rfl .nil)))) (.inl rfl) (hex_loop r _ (fun d hd => h d (List.mem_cons_of_mem _ hd)) ?g4)
    case g1 =>
      refine' EvOk.findHex (δ1 := δ) hc ?a ?b
      case a => walk_at "ev"
      case b =>
        refine' EvLOk.cons (EvOk.lower hc ?c) EvLOk.nil
        walk_at "ev"
    case g2 =>
      walk_at "ev"
      exact decide_eq_false (by omega)
    case g3 =>
      refine' EvOk.bin (b := .int (hexv c : Nat)) (EvOk.bin (EvOk.int) (EvOk.name (av := .int (acc : Nat)) rfl) (BOk.mulLr (mulOk_small (by decide) (by omega)))) (EvOk.name rfl) BOk.addN
    case g4 =>
      have : (16 * acc + hexv c) * 16 ^ r.length + 16 ^ r.length = acc * (16 * 16 ^ r.length) + (hexv c + 1) * 16 ^ r.length := by
        rw [Nat.add_mul, Nat.add_mul, Nat.one_mul, Nat.mul_assoc, Nat.mul_left_comm, Nat.add_assoc]
      have h2 : (hexv c + 1) * 16 ^ r.length ≤ 16 * 16 ^ r.length := Nat.mul_le_mul_right _ (by omega)
      omega

/-- four hex digits read -/
theorem hex_ok {δ : Draw} {x : Str} (hx : x.length < 2 ^ 24) {i : Nat} {l r : List Nat} (h : At x i (l ++ r)) (h4 : l.length = 4) (hh : ∀ c ∈ l, isHex c = true) :
    CallOk 1 50 [.str x, .int i] δ (.ok (.int (hexF 0 l : Nat))) δ := by
  refine CallOk.plain (o := .ret (.int (hexF 0 l : Nat))) (ℓ' := hexL x i (hexF 0 l)) def_50 (by decide) (by decide) rfl (fun s vals hv => ?_) ?_ rfl
  · match vals, hv with
    | [a, b], _ => exact BindsTo.of_eq rfl
  have hlen := h.len
  have hxl : x.length ≤ sizeLine := by rw [sizeLine_eq]; omega
  have hs := h.sub 4
  rw [show (l ++ r).take 4 = l from by rw [← h4]; simp] at hs
  simp at hlen
  refine' XsOk.cons (ℓ1 := hexL x i 0) (δ1 := δ) (XOk.assign (av := .int 0) EvOk.int rfl) (XsOk.cons (ℓ1 := hexL x i (hexF 0 l)) (δ1 := δ) (XOk.for (a := .str (subS x i (i + 4))) (δ1 := δ) ?g1 ItOk.str ?g2) (XsOk.cons (ℓ1 := hexL x i (hexF 0 l)) (δ1 := δ) (XOk.ifF (δ1 := δ) ?g3 XsOk.nil) (XsOk.ret (XOk.ret (EvOk.name rfl)))))
  case g1 => walk_at "ev"
  case g2 =>
    rw [hs]
    refine hex_loop l 0 hh ?_
    rw [h4]; decide
  case g3 =>
    walk_at "ev"
    exact decide_eq_false (by omega)

/-- fewer than four -/
theorem hex_short {δ : Draw} {x : Str} (hx : x.length < 2 ^ 24) {i : Nat} {l : List Nat} (h : At x i l) (h4 : l.length < 4) (hh : ∀ c ∈ l, isHex c = true) :
    CallOk 1 50 [.str x, .int i] δ (.exc "ValueError") δ := by
  refine CallOk.plain (o := .exc "ValueError") (ℓ' := hexL x i (hexF 0 l)) def_50 (by decide) (by decide) rfl (fun s vals hv => ?_) ?_ rfl
  · match vals, hv with
    | [a, b], _ => exact BindsTo.of_eq rfl
  have hlen := h.len
  have hxl : x.length ≤ sizeLine := by rw [sizeLine_eq]; omega
  have hs := h.sub 4
  rw [show l.take 4 = l from List.take_of_length_le (by omega)] at hs
  refine' XsOk.cons (ℓ1 := hexL x i 0) (δ1 := δ) (XOk.assign (av := .int 0) EvOk.int rfl) (XsOk.cons (ℓ1 := hexL x i (hexF 0 l)) (δ1 := δ) (XOk.for (a := .str (subS x i (i + 4))) (δ1 := δ) ?g1 ItOk.str ?g2) (XsOk.exc (XOk.ifT (δ1 := δ) ?g3 (XsOk.exc (XOk.raise F.excCall_ValueError F.excRaise_ValueError bn_ValueError rfl (EvLOk.cons EvOk.str EvLOk.nil) (by show 1 ≤ 10; decide))))))
  case g1 => walk_at "ev"
  case g2 =>
    rw [hs]
    refine hex_loop l 0 hh ?_
    have : 16 ^ l.length ≤ 16 ^ 4 := Nat.pow_le_pow_right (by decide) (by omega)
    omega
  case g3 =>
    walk_at "ev"
    exact decide_eq_true (by omega)
end Mine

namespace Mine
set_option maxRecDepth 100000

local macro_rules | `(tactic| walk_at "size") => `(tactic| first | omega | assumption | (simp only [Str.length_append, len_one, len_hex4, len_lit1, len_lit2, sizeLine_eq] <;> omega) | skip)
local macro_rules | `(tactic| walk_at "op") => `(tactic| first
  | exact BOk.addL | exact BOk.addLr | exact BOk.addN | exact BOk.add
  | (refine' BOk.subL ?oa; (case' oa => omega))
  | (refine' BOk.modL ?ob; (case' ob => decide))
  | (refine' BOk.divL ?oc; (case' oc => decide))
  | (refine' BOk.cat ?od; (case' od => walk_at "size"))
  | exact POk.eqS | exact POk.neS | exact POk.inS | exact POk.eqI | exact POk.neI | exact POk.ltI | exact POk.leI | exact POk.gtI | exact POk.geI | exact POk.isNone | exact POk.isB | exact POk.inI | exact POk.inD
  | skip)
local macro_rules | `(tactic| walk_at "side") => `(tactic| first | omega | assumption | decide | skip)
local macro_rules | `(tactic| walk_at "item") => `(tactic| first
  | exact GOk.strN (by omega) (by assumption)
  | (refine' GOk.hexd ?ia; (case' ia => omega))
  | (refine' GOk.list ?ib ?ic ?id; (case' ib => decide); (case' ic => decide); (case' id => rfl))
  | skip)
local macro_rules | `(tactic| walk_at "ev") => `(tactic| first
  | exact EvOk.name (by rfl) (by decide)
  | exact EvOk.int | exact EvOk.str | exact EvOk.none | exact EvOk.bool | exact EvOk.bytes
  | (refine' EvOk.bin ?ba ?bb ?bc; (case' ba => walk_at "ev"); (case' bb => walk_at "ev"); (case' bc => walk_at "op"))
  | (refine' EvOk.slice ?sa ?sb ?sc ?sd ?se; (case' sa => walk_at "ev"); (case' sb => walk_at "ev"); (case' sc => walk_at "ev"); (case' sd => walk_at "side"); (case' se => walk_at "side"))
  | (refine' EvOk.sliceTo ?ra ?rb ?rc; (case' ra => walk_at "ev"); (case' rb => walk_at "ev"); (case' rc => walk_at "side"))
  | (refine' EvOk.sub ?ua ?ub ?uc; (case' ua => walk_at "ev"); (case' ub => walk_at "ev"); (case' uc => walk_at "item"))
  | (refine' EvOk.tuple ?ta ?tb; (case' ta => walk_at "ev"); (case' tb => decide))
  | (refine' EvLOk.cons ?ca ?cb; (case' ca => walk_at "ev"); (case' cb => walk_at "ev"))
  | exact EvLOk.nil
  | exact EvOk.hexName (by rfl)
  | exact EvOk.escapes (by rfl)
  | exact EvOk.escaped (by rfl)
  | (refine' EvOk.bcall bn_len (by rfl) (by intro _; nofun) ?fa (FOk.lenS ?fb); (case' fa => walk_at "ev"); (case' fb => walk_at "side"))
  | (refine' EvOk.bcall bn_ord (by rfl) (by intro _; nofun) ?fc FOk.ord; (case' fc => walk_at "ev"))
  | (refine' EvOk.bcall bn_chr (by rfl) (by intro _; nofun) ?fd (FOk.chr ?fe ?ff); (case' fd => walk_at "ev"); (case' fe => walk_at "side"); (case' ff => walk_at "side"))
  | (refine' EvOk.bcall bn_str (by rfl) (by intro _; nofun) ?fg (FOk.strOf ?fh); (case' fg => walk_at "ev"); (case' fh => walk_at "side"))
  | (refine' EvOk.bcall bn_int (by rfl) (by intro _; nofun) ?fi (FOk.intOf ?fj ?fk); (case' fi => walk_at "ev"); (case' fj => walk_at "side"); (case' fk => walk_at "side"))
  | (refine' EvOk.bcall bn_range (by rfl) (by intro _; nofun) ?fl FOk.range; (case' fl => walk_at "ev"))
  | (refine' EvOk.bcall bn_abs (by rfl) (by intro _; nofun) ?fm FOk.abs; (case' fm => walk_at "ev"))
  | (refine' TOk.cmp' ?pa ?pb ?pc ?pd; (case' pa => walk_at "ev"); (case' pb => walk_at "ev"); (case' pc => walk_at "op"))
  | (refine' TOk.not ?na; (case' na => walk_at "ev"))
  | (refine' EvOk.cmp ?qa ?qb ?qc; (case' qa => walk_at "ev"); (case' qb => walk_at "ev"); (case' qc => walk_at "op"))
  | skip)

theorem XsOk.raiseV {k nm ℓ δ np s p q cpos pos} (hx : nm.lookup (Str.ofString "ValueError") = some .globalImplicit) :
    XsOk k nm ℓ δ [.Raise (some (.Call (.Name "ValueError" np) [.Constant (.str s) p q] [] cpos)) none pos] (.exc "ValueError") ℓ δ :=
  XsOk.exc (XOk.raise F.excCall_ValueError F.excRaise_ValueError bn_ValueError hx (EvLOk.cons EvOk.str EvLOk.nil) (by show 1 ≤ 10; decide))

/-- a sign -/
noncomputable abbrev sg (c : Nat) : Str := ⟨#[c]⟩
theorem sg_eq {a b : Nat} : (sg a == sg b) = decide (a = b) := by
  rw [Bool.eq_iff_iff]; simp
theorem sg_ne {a b : Nat} : (sg a != sg b) = decide (a ≠ b) := by
  rw [bne, sg_eq]; by_cases h : a = b <;> simp [h]
theorem lit34 : Str.ofString "\"" = sg 34 := by decide +kernel
theorem lit92 : Str.ofString "\\" = sg 92 := by decide +kernel
theorem lit117 : Str.ofString "u" = sg 117 := by decide +kernel

/-! ## the pieces of a text in quotes -/
inductive Pc where
  | bare (c : Nat)
  | esc (e v : Nat)
  | uni (hs : List Nat)
  | pair (hs ls : List Nat)
noncomputable def Pc.text : Pc → List Nat
  | .bare c => [c]
  | .esc e _ => [92, e]
  | .uni hs => 92 :: 117 :: hs
  | .pair hs ls => 92 :: 117 :: (hs ++ 92 :: 117 :: ls)
noncomputable def Pc.val : Pc → Nat
  | .bare c => c
  | .esc _ v => v
  | .uni hs => hexF 0 hs
  | .pair hs ls => 65536 + (hexF 0 hs - 55296) * 1024 + hexF 0 ls - 56320
noncomputable def escs : List (Nat × Nat) := [(34, 34), (92, 92), (47, 47), (98, 8), (116, 9), (110, 10), (102, 12), (114, 13)]
noncomputable def Pc.ok : Pc → Prop
  | .bare c => 32 ≤ c ∧ c ≠ 34 ∧ c ≠ 92
  | .esc e v => (e, v) ∈ escs
  | .uni hs => hs.length = 4 ∧ (∀ c ∈ hs, isHex c = true) ∧ hexF 0 hs < 55296 ∨ hs.length = 4 ∧ (∀ c ∈ hs, isHex c = true) ∧ 57343 < hexF 0 hs ∧ hexF 0 hs ≤ 65535
  | .pair hs ls => hs.length = 4 ∧ (∀ c ∈ hs, isHex c = true) ∧ ls.length = 4 ∧ (∀ c ∈ ls, isHex c = true) ∧ 55296 ≤ hexF 0 hs ∧ hexF 0 hs ≤ 56319 ∧ 56320 ≤ hexF 0 ls ∧ hexF 0 ls ≤ 57343

theorem escaped_get {e v : Nat} (h : (e, v) ∈ escs) : getE escapedA (sg e) = some (.str (sg v)) := by
  have key : ∀ p ∈ escs, getE escapedA (sg p.1) = some (.str (sg p.2)) := by
    intro p hp
    simp only [escs, List.mem_cons, List.not_mem_nil, or_false] at hp
    rcases hp with rfl | rfl | rfl | rfl | rfl | rfl | rfl | rfl <;> rfl
  exact key _ h

noncomputable def strL (x : Str) (i : Nat) (fs : List AV) : Loc := [("text", .val (.str x)), ("at", .val (.int i)), ("found", .own fs)]

noncomputable def strS (x : Str) (i : Nat) (fs : List AV) (c : Nat) : Loc := [("text", .val (.str x)), ("at", .val (.int i)), ("found", .own fs), ("sign", .val (.str (sg c)))]

theorem def_57 : DefAt 57 (fdOf 57) ["text", "at"] (bodyOf 57) := ⟨fun _ => rfl, fun _ => rfl, rfl, rfl, rfl, rfl, rfl, rfl, rfl, by decide⟩
noncomputable def strT : Expr := wT (stAt (bodyOf 57) 1)
noncomputable def strB : List Stmt := wB (stAt (bodyOf 57) 1)
noncomputable abbrev nm57 : List (Str × NameKind) := (fdOf 57).scope.names

theorem strT_true {ℓ δ} : TOk 1 nm57 (peek ℓ) δ strT true δ := by
  show TOk 1 nm57 (peek ℓ) δ (.Constant (.bool true) _ _) true δ
  exact TOk.val EvOk.bool

theorem XOk.augL {k nm ℓ δ x np e p δ'} {a n : Nat} (h0 : ℓ.lookup x = some (.val (.int (a : Nat)))) (h : EvOk k nm (peek ℓ) δ e (.ok (.int (OfNat.ofNat n : Int))) δ') (hx : nm.lookup x = some .local) :
    XOk k nm ℓ δ (.AugAssign (.Name x np) .Add e p) .next (setL x (.val (.int ((a + (OfNat.ofNat n : Nat) : Nat) : Int))) ℓ) δ' := XOk.augAdd h0 h hx

/-- a sign of its own -/
theorem str_bare {δ x fs} (hx : x.length < 2 ^ 24) {i c : Nat} {r} (h : At x i (c :: r)) (hc : 32 ≤ c ∧ c ≠ 34 ∧ c ≠ 92) (hf : fs.length ≤ 2 ^ 24) :
    XsOk 1 nm57 (strL x i fs) δ strB .cont (strL x (i + 1) (fs ++ [.str (sg c)])) δ := by
  have hg := h.get
  have hl := h.lt
  refine' XsOk.forget (ℓ2 := strS x (i + 1) (fs ++ [.str (sg c)]) c) ?main (.cons rfl (.cons rfl (.cons rfl .nil)))
  refine' XsOk.cons (ℓ1 := strL x i fs) (δ1 := δ) (XOk.ifF (δ1 := δ) ?g1 XsOk.nil) (XsOk.cons (ℓ1 := strS x i fs c) (δ1 := δ) (XOk.assign (av := .str (sg c)) ?g2 rfl)
    (XsOk.cons (ℓ1 := strS x (i + 1) fs c) (δ1 := δ) (XOk.augL rfl EvOk.int rfl) (XsOk.cons (δ1 := δ) (XOk.ifF (δ1 := δ) ?g3 XsOk.nil) (XsOk.cons (δ1 := δ) (XOk.ifF (δ1 := δ) ?g4 XsOk.nil)
      (XsOk.cont (XOk.ifT (δ1 := δ) ?g5 (XsOk.cons (δ1 := δ) (XOk.append (av := .str (sg c)) rfl (EvOk.name rfl) (by rw [sizeLine_eq]; omega)) (XsOk.cont XOk.cont))))))))
  case g1 => walk_at "ev"; exact decide_eq_false (by omega)
  case g2 => walk_at "ev"
  case g3 => walk_at "ev"; rw [lit34, sg_eq]; exact decide_eq_false hc.2.1
  case g4 => walk_at "ev"; exact decide_eq_false (by omega)
  case g5 => walk_at "ev"; rw [lit92, sg_ne]; exact decide_eq_true hc.2.2
end Mine

namespace Mine
set_option maxRecDepth 100000

local macro_rules | `(tactic| walk_at "size") => `(tactic| first | omega | assumption | (simp only [Str.length_append, len_one, len_hex4, len_lit1, len_lit2, sizeLine_eq] <;> omega) | skip)
local macro_rules | `(tactic| walk_at "op") => `(tactic| first
  | exact BOk.addL | exact BOk.addLr | exact BOk.addN | exact BOk.add
  | (refine' BOk.subL ?oa; (case' oa => omega))
  | (refine' BOk.modL ?ob; (case' ob => decide))
  | (refine' BOk.divL ?oc; (case' oc => decide))
  | (refine' BOk.cat ?od; (case' od => walk_at "size"))
  | exact POk.eqS | exact POk.neS | exact POk.inS | exact POk.eqI | exact POk.neI | exact POk.ltI | exact POk.leI | exact POk.gtI | exact POk.geI | exact POk.isNone | exact POk.isB | exact POk.inI | exact POk.inD
  | skip)
local macro_rules | `(tactic| walk_at "side") => `(tactic| first | omega | assumption | decide | skip)
local macro_rules | `(tactic| walk_at "item") => `(tactic| first
  | exact GOk.strN (by omega) (by assumption)
  | (refine' GOk.hexd ?ia; (case' ia => omega))
  | (refine' GOk.list ?ib ?ic ?id; (case' ib => decide); (case' ic => decide); (case' id => rfl))
  | skip)
local macro_rules | `(tactic| walk_at "ev") => `(tactic| first
  | exact EvOk.name (by rfl) (by decide)
  | exact EvOk.int | exact EvOk.str | exact EvOk.none | exact EvOk.bool | exact EvOk.bytes
  | (refine' EvOk.bin ?ba ?bb ?bc; (case' ba => walk_at "ev"); (case' bb => walk_at "ev"); (case' bc => walk_at "op"))
  | (refine' EvOk.slice ?sa ?sb ?sc ?sd ?se; (case' sa => walk_at "ev"); (case' sb => walk_at "ev"); (case' sc => walk_at "ev"); (case' sd => walk_at "side"); (case' se => walk_at "side"))
  | (refine' EvOk.sliceTo ?ra ?rb ?rc; (case' ra => walk_at "ev"); (case' rb => walk_at "ev"); (case' rc => walk_at "side"))
  | (refine' EvOk.sub ?ua ?ub ?uc; (case' ua => walk_at "ev"); (case' ub => walk_at "ev"); (case' uc => walk_at "item"))
  | (refine' EvOk.tuple ?ta ?tb; (case' ta => walk_at "ev"); (case' tb => decide))
  | (refine' EvLOk.cons ?ca ?cb; (case' ca => walk_at "ev"); (case' cb => walk_at "ev"))
  | exact EvLOk.nil
  | exact EvOk.hexName (by rfl)
  | exact EvOk.escapes (by rfl)
  | exact EvOk.escaped (by rfl)
  | (refine' EvOk.bcall bn_len (by rfl) (by intro _; nofun) ?fa (FOk.lenS ?fb); (case' fa => walk_at "ev"); (case' fb => walk_at "side"))
  | (refine' EvOk.bcall bn_ord (by rfl) (by intro _; nofun) ?fc FOk.ord; (case' fc => walk_at "ev"))
  | (refine' EvOk.bcall bn_chr (by rfl) (by intro _; nofun) ?fd (FOk.chr ?fe ?ff); (case' fd => walk_at "ev"); (case' fe => walk_at "side"); (case' ff => walk_at "side"))
  | (refine' EvOk.bcall bn_str (by rfl) (by intro _; nofun) ?fg (FOk.strOf ?fh); (case' fg => walk_at "ev"); (case' fh => walk_at "side"))
  | (refine' EvOk.bcall bn_int (by rfl) (by intro _; nofun) ?fi (FOk.intOf ?fj ?fk); (case' fi => walk_at "ev"); (case' fj => walk_at "side"); (case' fk => walk_at "side"))
  | (refine' EvOk.bcall bn_range (by rfl) (by intro _; nofun) ?fl FOk.range; (case' fl => walk_at "ev"))
  | (refine' EvOk.bcall bn_abs (by rfl) (by intro _; nofun) ?fm FOk.abs; (case' fm => walk_at "ev"))
  | (refine' TOk.cmp' ?pa ?pb ?pc ?pd; (case' pa => walk_at "ev"); (case' pb => walk_at "ev"); (case' pc => walk_at "op"))
  | (refine' TOk.not ?na; (case' na => walk_at "ev"))
  | (refine' EvOk.cmp ?qa ?qb ?qc; (case' qa => walk_at "ev"); (case' qb => walk_at "ev"); (case' qc => walk_at "op"))
  | skip)

/-- behind a stroke -/
theorem str_slash {δ δ' x fs o ℓ'} (hx : x.length < 2 ^ 24) {i e : Nat} {r} (h : At x i (92 :: e :: r)) (h9 : XsOk 1 nm57 (strS x (i + 2) fs e) δ (strB.drop 9) o ℓ' δ') : XsOk 1 nm57 (strL x i fs) δ strB o ℓ' δ' := by
  have hg := h.get
  have hl := h.lt
  have h1 := h.tail
  have hg1 := h1.get
  have hl1 := h1.lt
  refine' XsOk.cons (ℓ1 := strL x i fs) (δ1 := δ) (XOk.ifF (δ1 := δ) ?g1 XsOk.nil) (XsOk.cons (ℓ1 := strS x i fs 92) (δ1 := δ) (XOk.assign (av := .str (sg 92)) ?g2 rfl)
    (XsOk.cons (ℓ1 := strS x (i + 1) fs 92) (δ1 := δ) (XOk.augL rfl EvOk.int rfl) (XsOk.cons (δ1 := δ) (XOk.ifF (δ1 := δ) ?g3 XsOk.nil) (XsOk.cons (δ1 := δ) (XOk.ifF (δ1 := δ) ?g4 XsOk.nil)
      (XsOk.cons (δ1 := δ) (XOk.ifF (δ1 := δ) ?g5 XsOk.nil) (XsOk.cons (δ1 := δ) (XOk.ifF (δ1 := δ) ?g6 XsOk.nil) (XsOk.cons (ℓ1 := strS x (i + 1) fs e) (δ1 := δ) (XOk.assign (av := .str (sg e)) ?g7 rfl)
        (XsOk.cons (ℓ1 := strS x (i + 1 + 1) fs e) (δ1 := δ) (XOk.augL rfl EvOk.int rfl) h9))))))))
  case g1 => walk_at "ev"; exact decide_eq_false (by omega)
  case g2 => walk_at "ev"
  case g3 => walk_at "ev"; rw [lit34, sg_eq]; rfl
  case g4 => walk_at "ev"; rfl
  case g5 => walk_at "ev"; rw [lit92, sg_ne]; rfl
  case g6 => walk_at "ev"; exact decide_eq_false (by omega)
  case g7 => walk_at "ev"

/-- a stroke at the text's end -/
theorem str_slash_end {δ x fs} (hx : x.length < 2 ^ 24) {i : Nat} (h : At x i [92]) : XsOk 1 nm57 (strL x i fs) δ strB (.exc "ValueError") (strS x (i + 1) fs 92) δ := by
  have hg := h.get
  have hl := h.lt
  have h1 := h.tail.nil
  refine' XsOk.cons (ℓ1 := strL x i fs) (δ1 := δ) (XOk.ifF (δ1 := δ) ?g1 XsOk.nil) (XsOk.cons (ℓ1 := strS x i fs 92) (δ1 := δ) (XOk.assign (av := .str (sg 92)) ?g2 rfl)
    (XsOk.cons (ℓ1 := strS x (i + 1) fs 92) (δ1 := δ) (XOk.augL rfl EvOk.int rfl) (XsOk.cons (δ1 := δ) (XOk.ifF (δ1 := δ) ?g3 XsOk.nil) (XsOk.cons (δ1 := δ) (XOk.ifF (δ1 := δ) ?g4 XsOk.nil)
      (XsOk.cons (δ1 := δ) (XOk.ifF (δ1 := δ) ?g5 XsOk.nil) (XsOk.exc (XOk.ifT (δ1 := δ) ?g6 (XsOk.raiseV rfl))))))))
  case g1 => walk_at "ev"; exact decide_eq_false (by omega)
  case g2 => walk_at "ev"
  case g3 => walk_at "ev"; rw [lit34, sg_eq]; rfl
  case g4 => walk_at "ev"; rfl
  case g5 => walk_at "ev"; rw [lit92, sg_ne]; rfl
  case g6 => walk_at "ev"; exact decide_eq_true (by omega)
/-- the text's end -/
theorem str_end {δ x fs} (hx : x.length < 2 ^ 24) {i : Nat} (h : At x i []) : XsOk 1 nm57 (strL x i fs) δ strB (.exc "ValueError") (strL x i fs) δ := by
  have h1 := h.nil
  refine' XsOk.exc (XOk.ifT (δ1 := δ) ?g1 (XsOk.raiseV rfl))
  walk_at "ev"; exact decide_eq_true (by omega)

/-- a short escape -/
theorem str_esc {δ x fs} (hx : x.length < 2 ^ 24) {i e v : Nat} {r} (h : At x i (92 :: e :: r)) (he : (e, v) ∈ escs) (hf : fs.length ≤ 2 ^ 24) :
    XsOk 1 nm57 (strL x i fs) δ strB .next (strL x (i + 2) (fs ++ [.str (sg v)])) δ := by
  have hget := escaped_get he
  have hne : e ≠ 117 := by
    intro q
    subst q
    simp [escs] at he
  refine XsOk.forget (ℓ2 := strS x (i + 2) (fs ++ [.str (sg v)]) e) (str_slash hx h ?_) (.cons rfl (.cons rfl (.cons rfl .nil)))
  refine' XsOk.cons (δ1 := δ) (XOk.ifF (δ1 := δ) ?g1 (XsOk.cons (δ1 := δ) (XOk.ifT (δ1 := δ) ?g2 (XsOk.cons (δ1 := δ) (XOk.append (av := .str (sg v)) rfl ?g3 (by rw [sizeLine_eq]; omega)) XsOk.nil)) XsOk.nil)) XsOk.nil
  case g1 => walk_at "ev"; rw [lit117, sg_eq]; exact decide_eq_false hne
  case g2 => walk_at "ev"; rw [hget]; rfl
  case g3 => exact EvOk.sub (EvOk.escaped rfl) (EvOk.name rfl) (GOk.dict hget)

theorem POk.of {k op a b c d} (h : POk k op a b c) (e : c = d) : POk k op a b d := e ▸ h
theorem XsOk.one {k nm ℓ δ st o ℓ' δ'} (h : XOk k nm ℓ δ st o ℓ' δ') : XsOk k nm ℓ δ [st] o ℓ' δ' := by
  cases o with
  | next => exact XsOk.cons h XsOk.nil
  | cont => exact XsOk.cont h
  | ret v => exact XsOk.ret h
  | exc X => exact XsOk.exc h

noncomputable def strN (x : Str) (i : Nat) (fs : List AV) (n : Nat) : Loc := [("text", .val (.str x)), ("at", .val (.int i)), ("found", .own fs), ("sign", .val (.str (sg 117))), ("number", .val (.int n))]
noncomputable def strM (x : Str) (i : Nat) (fs : List AV) (n m : Nat) : Loc := [("text", .val (.str x)), ("at", .val (.int i)), ("found", .own fs), ("sign", .val (.str (sg 117))), ("number", .val (.int n)), ("second", .val (.int m))]
noncomputable def strU : List Stmt := wB (stAt strB 9)

/-- behind «\\u»: a number that four signs give -/
theorem str_hex {δ δ' x fs o ℓ'} (hx : x.length < 2 ^ 24) {i : Nat} {hs r : List Nat} (h : At x i (92 :: 117 :: (hs ++ r))) (h4 : hs.length = 4) (hh : ∀ c ∈ hs, isHex c = true)
    (hr : XsOk 1 nm57 (strN x (i + 6) fs (hexF 0 hs)) δ (strU.drop 2) o ℓ' δ') : XsOk 1 nm57 (strL x i fs) δ strB o ℓ' δ' := by
  refine str_slash hx h (XsOk.one (XOk.ifT (δ1 := δ) ?g1 ?g2))
  case g1 => walk_at "ev"; rw [lit117, sg_eq]; rfl
  case g2 =>
    refine XsOk.cons (ℓ1 := strN x (i + 2) fs (hexF 0 hs)) (δ1 := δ) (XOk.assign (av := .int (hexF 0 hs : Nat)) (EvOk.call gn_json_hex rfl fn_50 (EvLOk.cons (EvOk.name rfl) (EvLOk.cons (EvOk.name rfl) EvLOk.nil)) (hex_ok hx h.tail.tail h4 hh)) rfl) ?_
    exact XsOk.cons (ℓ1 := strN x (i + 2 + 4) fs (hexF 0 hs)) (δ1 := δ) (XOk.augL rfl EvOk.int rfl) hr
/-- fewer than four -/
theorem str_hexShort {δ x fs} (hx : x.length < 2 ^ 24) {i : Nat} {hs : List Nat} (h : At x i (92 :: 117 :: hs)) (h4 : hs.length < 4) (hh : ∀ c ∈ hs, isHex c = true) :
    XsOk 1 nm57 (strL x i fs) δ strB (.exc "ValueError") (strS x (i + 2) fs 117) δ := by
  refine str_slash hx h (XsOk.one (XOk.ifT (δ1 := δ) ?g1 ?g2))
  case g1 => walk_at "ev"; rw [lit117, sg_eq]; rfl
  case g2 =>
    exact XsOk.exc (XOk.assignExc (EvOk.call gn_json_hex rfl fn_50 (EvLOk.cons (EvOk.name rfl) (EvLOk.cons (EvOk.name rfl) EvLOk.nil)) (hex_short hx h.tail.tail h4 hh)))

theorem EvOk.chrN {k nm σ δ δ1 np args pos} {n : Nat} (hx : nm.lookup (Str.ofString "chr") = some .globalImplicit) (ha : EvLOk k nm σ δ args (.ok [.int n]) δ1) (h1 : n ≤ 1114111) : EvOk k nm σ δ (.Call (.Name "chr" np) args [] pos) (.ok (.str (sg n))) δ1 :=
  EvOk.bcall bn_chr hx (fun _ => nofun) ha (FOk.chr (by omega) (by omega))

theorem strU_append {δ} {fs : List AV} {m : Nat} (hn : m ≤ 1114111) (hf : fs.length ≤ 2 ^ 24) {ℓ : Loc} (h1 : ℓ.lookup (Str.ofString "number") = some (.val (.int m))) (h2 : ℓ.lookup (Str.ofString "found") = some (.own fs)) (h3 : (vals ℓ).lookup (Str.ofString "number") = some (.int m)) :
    XsOk 1 nm57 ℓ δ (strU.drop 3) .next (setL "found" (.own (fs ++ [.str (sg m)])) ℓ) δ :=
  XsOk.cons (XOk.append (av := .str (sg m)) h2 (EvOk.chrN rfl (EvLOk.cons (EvOk.name h3) EvLOk.nil) hn) (by rw [sizeLine_eq]; omega)) XsOk.nil

/-- a sign told by four -/
theorem str_uni {δ x fs} (hx : x.length < 2 ^ 24) {i : Nat} {hs r : List Nat} (h : At x i (92 :: 117 :: (hs ++ r))) (h4 : hs.length = 4) (hh : ∀ c ∈ hs, isHex c = true) (hv : hexF 0 hs < 55296 ∨ 57343 < hexF 0 hs) (hb : hexF 0 hs ≤ 65535) (hf : fs.length ≤ 2 ^ 24) :
    XsOk 1 nm57 (strL x i fs) δ strB .next (strL x (i + 6) (fs ++ [.str (sg (hexF 0 hs))])) δ := by
  refine XsOk.forget (ℓ2 := strN x (i + 6) (fs ++ [.str (sg (hexF 0 hs))]) (hexF 0 hs)) (str_hex hx h h4 hh ?_) (.cons rfl (.cons rfl (.cons rfl .nil)))
  refine XsOk.cons (δ1 := δ) (XOk.ifF (δ1 := δ) (TOk.bool (AllOk.andF ?_)) XsOk.nil) (strU_append (by omega) hf rfl rfl rfl)
  rcases hv with hv | hv
  · exact TOk.chainF EvOk.int (EvOk.name (av := .int (hexF 0 hs : Nat)) rfl) (POk.leI.of (decide_eq_false (by omega)))
  · exact TOk.chainT EvOk.int (EvOk.name (av := .int (hexF 0 hs : Nat)) rfl) (POk.leI.of (decide_eq_true (by omega))) EvOk.int (POk.leI.of (decide_eq_false (by omega)))

theorem hexF_lt : ∀ (l : List Nat) (a : Nat), (∀ c ∈ l, isHex c = true) → hexF a l < (a + 1) * 16 ^ l.length
  | [], a, _ => by simp [hexF]
  | c :: r, a, h => by
    have h1 := hexv_lt (h c (List.mem_cons_self ..))
    have h2 := hexF_lt r (16 * a + hexv c) fun d hd => h d (List.mem_cons_of_mem _ hd)
    have h3 : (16 * a + hexv c + 1) * 16 ^ r.length ≤ (16 * (a + 1)) * 16 ^ r.length := Nat.mul_le_mul_right _ (by omega)
    have e : (a + 1) * 16 ^ (c :: r).length = (16 * (a + 1)) * 16 ^ r.length := by rw [List.length_cons, Nat.pow_succ, Nat.mul_comm (16 ^ r.length) 16, ← Nat.mul_assoc, Nat.mul_comm (a + 1) 16]
    rw [e]
    exact Nat.lt_of_lt_of_le h2 h3

/-- a high half with no low half behind it -/
theorem str_half {δ x fs} (hx : x.length < 2 ^ 24) {i : Nat} {hs r : List Nat} (h : At x i (92 :: 117 :: (hs ++ r))) (h4 : hs.length = 4) (hh : ∀ c ∈ hs, isHex c = true) (hv : 55296 ≤ hexF 0 hs ∧ hexF 0 hs ≤ 56319) (hr : r.take 2 ≠ [92, 117]) (hf : fs.length ≤ 2 ^ 24) :
    XsOk 1 nm57 (strL x i fs) δ strB .next (strL x (i + 6) (fs ++ [.str (sg (hexF 0 hs))])) δ := by
  have hxl : x.length ≤ sizeLine := by rw [sizeLine_eq]; omega
  have h6 : At x (i + 6) r := by
    have := (h.tail.tail).app
    rwa [h4] at this
  refine XsOk.forget (ℓ2 := strN x (i + 6) (fs ++ [.str (sg (hexF 0 hs))]) (hexF 0 hs)) (str_hex hx h h4 hh ?_) (.cons rfl (.cons rfl (.cons rfl .nil)))
  refine XsOk.cons (δ1 := δ) (XOk.ifF (δ1 := δ) (TOk.bool (AllOk.andT (δ1 := δ) ?_ (AllOk.andF ?_))) XsOk.nil) (strU_append (by omega) hf rfl rfl rfl)
  · exact TOk.chainT EvOk.int (EvOk.name (av := .int (hexF 0 hs : Nat)) rfl) (POk.leI.of (decide_eq_true (by omega))) EvOk.int (POk.leI.of (decide_eq_true (by omega)))
  · walk_at "ev"
    rw [h6.sub 2]
    have e : Str.ofString "\\u" = ⟨#[92, 117]⟩ := by decide +kernel
    rw [e]
    refine beq_eq_false_iff_ne.mpr fun q => hr ?_
    have := congrArg (fun s : Str => s.cps.toList) q
    simpa using this

theorem lit_u : Str.ofString "\\u" = ⟨#[92, 117]⟩ := by decide +kernel
/-- two halves -/
theorem str_pair {δ x fs} (hx : x.length < 2 ^ 24) {i : Nat} {hs ls r : List Nat} (h : At x i (92 :: 117 :: (hs ++ 92 :: 117 :: (ls ++ r)))) (h4 : hs.length = 4) (hh : ∀ c ∈ hs, isHex c = true) (hv : 55296 ≤ hexF 0 hs ∧ hexF 0 hs ≤ 56319)
    (l4 : ls.length = 4) (lh : ∀ c ∈ ls, isHex c = true) (lv : 56320 ≤ hexF 0 ls ∧ hexF 0 ls ≤ 57343) (hf : fs.length ≤ 2 ^ 24) :
    XsOk 1 nm57 (strL x i fs) δ strB .next (strL x (i + 12) (fs ++ [.str (sg (65536 + (hexF 0 hs - 55296) * 1024 + hexF 0 ls - 56320))])) δ := by
  have hxl : x.length ≤ sizeLine := by rw [sizeLine_eq]; omega
  have h6 : At x (i + 6) (92 :: 117 :: (ls ++ r)) := by
    have := (h.tail.tail).app
    rwa [h4] at this
  have hu : (subS x (i + 6) (i + 6 + 2) == Str.ofString "\\u") = true := by
    rw [h6.sub 2, lit_u]; rfl
  have hmul : IntMulOk ((hexF 0 hs - 55296 : Nat) : Int) 1024 := mulOk_small (by omega) (by decide)
  refine XsOk.forget (ℓ2 := strM x (i + 12) (fs ++ [.str (sg (65536 + (hexF 0 hs - 55296) * 1024 + hexF 0 ls - 56320))]) (65536 + (hexF 0 hs - 55296) * 1024 + hexF 0 ls - 56320) (hexF 0 ls)) (str_hex hx h h4 hh ?_) (.cons rfl (.cons rfl (.cons rfl .nil)))
  refine XsOk.cons (ℓ1 := strM x (i + 12) fs (65536 + (hexF 0 hs - 55296) * 1024 + hexF 0 ls - 56320) (hexF 0 ls)) (δ1 := δ) (XOk.ifT (δ1 := δ) (TOk.bool (AllOk.andT (δ1 := δ) ?t1 (AllOk.andT (δ1 := δ) ?t2 AllOk.andNil))) ?b) (strU_append (by omega) hf rfl rfl rfl)
  case t1 => exact TOk.chainT EvOk.int (EvOk.name (av := .int (hexF 0 hs : Nat)) rfl) (POk.leI.of (decide_eq_true (by omega))) EvOk.int (POk.leI.of (decide_eq_true (by omega)))
  case t2 => walk_at "ev"; exact hu
  case b =>
    refine XsOk.cons (ℓ1 := strM x (i + 6) fs (hexF 0 hs) (hexF 0 ls)) (δ1 := δ) (XOk.assign (av := .int (hexF 0 ls : Nat)) (EvOk.call gn_json_hex rfl fn_50 (EvLOk.cons (EvOk.name rfl) (EvLOk.cons (EvOk.bin (EvOk.name (av := .int (i + 6 : Nat)) rfl) EvOk.int BOk.addL) EvLOk.nil)) (hex_ok hx h6.tail.tail l4 lh)) rfl) ?_
    refine XsOk.one (XOk.ifT (δ1 := δ) (TOk.chainT EvOk.int (EvOk.name (av := .int (hexF 0 ls : Nat)) rfl) (POk.leI.of (decide_eq_true (by omega))) EvOk.int (POk.leI.of (decide_eq_true (by omega)))) ?_)
    refine XsOk.cons (ℓ1 := strM x (i + 6) fs (65536 + (hexF 0 hs - 55296) * 1024 + hexF 0 ls - 56320) (hexF 0 ls)) (δ1 := δ) (XOk.assign (av := .int (65536 + (hexF 0 hs - 55296) * 1024 + hexF 0 ls - 56320 : Nat)) ?_ rfl) (XsOk.cons (ℓ1 := strM x (i + 6 + 6) fs (65536 + (hexF 0 hs - 55296) * 1024 + hexF 0 ls - 56320) (hexF 0 ls)) (δ1 := δ) (XOk.augL rfl EvOk.int rfl) XsOk.nil)
    refine EvOk.bin (EvOk.bin (EvOk.bin EvOk.int (EvOk.bin (EvOk.bin (EvOk.name (av := .int (hexF 0 hs : Nat)) rfl) EvOk.int (BOk.subL (by omega))) EvOk.int (BOk.mulL hmul)) BOk.addLr) (EvOk.name (av := .int (hexF 0 ls : Nat)) rfl) BOk.addN) EvOk.int (BOk.subL (by omega))

/-- the second half cut off -/
theorem str_pairShort {δ x fs} (hx : x.length < 2 ^ 24) {i : Nat} {hs ls : List Nat} (h : At x i (92 :: 117 :: (hs ++ 92 :: 117 :: ls))) (h4 : hs.length = 4) (hh : ∀ c ∈ hs, isHex c = true) (hv : 55296 ≤ hexF 0 hs ∧ hexF 0 hs ≤ 56319)
    (l4 : ls.length < 4) (lh : ∀ c ∈ ls, isHex c = true) :
    XsOk 1 nm57 (strL x i fs) δ strB (.exc "ValueError") (strN x (i + 6) fs (hexF 0 hs)) δ := by
  have hxl : x.length ≤ sizeLine := by rw [sizeLine_eq]; omega
  have h6 : At x (i + 6) (92 :: 117 :: ls) := by
    have := (h.tail.tail).app
    rwa [h4] at this
  have hu : (subS x (i + 6) (i + 6 + 2) == Str.ofString "\\u") = true := by
    rw [h6.sub 2, lit_u]; rfl
  refine (str_hex hx h h4 hh ?_)
  refine XsOk.exc (XOk.ifT (δ1 := δ) (TOk.bool (AllOk.andT (δ1 := δ) ?t1 (AllOk.andT (δ1 := δ) ?t2 AllOk.andNil))) ?b)
  case t1 => exact TOk.chainT EvOk.int (EvOk.name (av := .int (hexF 0 hs : Nat)) rfl) (POk.leI.of (decide_eq_true (by omega))) EvOk.int (POk.leI.of (decide_eq_true (by omega)))
  case t2 => walk_at "ev"; exact hu
  case b =>
    exact XsOk.exc (XOk.assignExc (EvOk.call gn_json_hex rfl fn_50 (EvLOk.cons (EvOk.name rfl) (EvLOk.cons (EvOk.bin (EvOk.name (av := .int (i + 6 : Nat)) rfl) EvOk.int BOk.addL) EvLOk.nil)) (hex_short hx h6.tail.tail l4 lh)))
end Mine

namespace Mine
set_option maxRecDepth 100000

local macro_rules | `(tactic| walk_at "size") => `(tactic| first | omega | assumption | (simp only [Str.length_append, len_one, len_hex4, len_lit1, len_lit2, sizeLine_eq] <;> omega) | skip)
local macro_rules | `(tactic| walk_at "op") => `(tactic| first
  | exact BOk.addL | exact BOk.addLr | exact BOk.addN | exact BOk.add
  | (refine' BOk.subL ?oa; (case' oa => omega))
  | (refine' BOk.modL ?ob; (case' ob => decide))
  | (refine' BOk.divL ?oc; (case' oc => decide))
  | (refine' BOk.cat ?od; (case' od => walk_at "size"))
  | exact POk.eqS | exact POk.neS | exact POk.inS | exact POk.eqI | exact POk.neI | exact POk.ltI | exact POk.leI | exact POk.gtI | exact POk.geI | exact POk.isNone | exact POk.isB | exact POk.inI | exact POk.inD
  | skip)
local macro_rules | `(tactic| walk_at "side") => `(tactic| first | omega | assumption | decide | skip)
local macro_rules | `(tactic| walk_at "item") => `(tactic| first
  | exact GOk.strN (by omega) (by assumption)
  | (refine' GOk.hexd ?ia; (case' ia => omega))
  | (refine' GOk.list ?ib ?ic ?id; (case' ib => decide); (case' ic => decide); (case' id => rfl))
  | skip)
local macro_rules | `(tactic| walk_at "ev") => `(tactic| first
  | exact EvOk.name (by rfl) (by decide)
  | exact EvOk.int | exact EvOk.str | exact EvOk.none | exact EvOk.bool | exact EvOk.bytes
  | (refine' EvOk.bin ?ba ?bb ?bc; (case' ba => walk_at "ev"); (case' bb => walk_at "ev"); (case' bc => walk_at "op"))
  | (refine' EvOk.slice ?sa ?sb ?sc ?sd ?se; (case' sa => walk_at "ev"); (case' sb => walk_at "ev"); (case' sc => walk_at "ev"); (case' sd => walk_at "side"); (case' se => walk_at "side"))
  | (refine' EvOk.sliceTo ?ra ?rb ?rc; (case' ra => walk_at "ev"); (case' rb => walk_at "ev"); (case' rc => walk_at "side"))
  | (refine' EvOk.sub ?ua ?ub ?uc; (case' ua => walk_at "ev"); (case' ub => walk_at "ev"); (case' uc => walk_at "item"))
  | (refine' EvOk.tuple ?ta ?tb; (case' ta => walk_at "ev"); (case' tb => decide))
  | (refine' EvLOk.cons ?ca ?cb; (case' ca => walk_at "ev"); (case' cb => walk_at "ev"))
  | exact EvLOk.nil
  | exact EvOk.hexName (by rfl)
  | exact EvOk.escapes (by rfl)
  | exact EvOk.escaped (by rfl)
  | (refine' EvOk.bcall bn_len (by rfl) (by intro _; nofun) ?fa (FOk.lenS ?fb); (case' fa => walk_at "ev"); (case' fb => walk_at "side"))
  | (refine' EvOk.bcall bn_ord (by rfl) (by intro _; nofun) ?fc FOk.ord; (case' fc => walk_at "ev"))
  | (refine' EvOk.bcall bn_chr (by rfl) (by intro _; nofun) ?fd (FOk.chr ?fe ?ff); (case' fd => walk_at "ev"); (case' fe => walk_at "side"); (case' ff => walk_at "side"))
  | (refine' EvOk.bcall bn_str (by rfl) (by intro _; nofun) ?fg (FOk.strOf ?fh); (case' fg => walk_at "ev"); (case' fh => walk_at "side"))
  | (refine' EvOk.bcall bn_int (by rfl) (by intro _; nofun) ?fi (FOk.intOf ?fj ?fk); (case' fi => walk_at "ev"); (case' fj => walk_at "side"); (case' fk => walk_at "side"))
  | (refine' EvOk.bcall bn_range (by rfl) (by intro _; nofun) ?fl FOk.range; (case' fl => walk_at "ev"))
  | (refine' EvOk.bcall bn_abs (by rfl) (by intro _; nofun) ?fm FOk.abs; (case' fm => walk_at "ev"))
  | (refine' TOk.cmp' ?pa ?pb ?pc ?pd; (case' pa => walk_at "ev"); (case' pb => walk_at "ev"); (case' pc => walk_at "op"))
  | (refine' TOk.not ?na; (case' na => walk_at "ev"))
  | (refine' EvOk.cmp ?qa ?qb ?qc; (case' qa => walk_at "ev"); (case' qb => walk_at "ev"); (case' qc => walk_at "op"))
  | skip)

theorem glue_signs (vs : List Nat) : glue (Str.ofString "") (vs.map sg) = ⟨vs.toArray⟩ := by
  show Builtin.Str.glued (Str.ofString "") (vs.map sg) = _
  rw [StrLaws.glued_eq_join]
  have e0 : Str.ofString "" = ⟨#[]⟩ := by decide +kernel
  rw [e0]
  have app : ∀ a b : Str, (a ++ b).cps.toList = a.cps.toList ++ b.cps.toList := fun a b => by rw [Str.cps_append]; simp
  have key : ∀ vs : List Nat, (Str.join ⟨#[]⟩ (vs.map sg)).cps.toList = vs := by
    intro vs
    induction vs with
    | nil => rfl
    | cons v r ih =>
      cases r with
      | nil => rfl
      | cons w t =>
        show (sg v ++ ⟨#[]⟩ ++ Str.join ⟨#[]⟩ ((w :: t).map sg)).cps.toList = _
        rw [app, app, ih]
        rfl
  have := key vs
  generalize Str.join ⟨#[]⟩ (vs.map sg) = z at *
  cases z with | mk cps =>
    have this' : cps.toList = vs := this
    subst this'; simp

theorem joinOk_signs {vs : List Nat} (h : vs.length ≤ 2 ^ 24) : JoinOk (Str.ofString "") (vs.map sg) = true := by
  have e0 : (Str.ofString "").length = 0 := by decide +kernel
  unfold JoinOk
  rw [StrLaws.joinFits (B := 1) (fun y hy => by obtain ⟨a, _, rfl⟩ := List.mem_map.mp hy; exact Nat.le_refl _) (by rw [e0]; simp; omega)]
  rfl

theorem EvOk.join {k nm σ δ δ1 δ2 o e apos pos} {x : Str} {xs : List Str} (ho : EvOk k nm σ δ o (.ok (.str x)) δ1) (he : EvLOk k nm σ δ1 [e] (.ok [.list (xs.map AV.str)]) δ2) (hok : JoinOk x xs = true)
    (hbase : ∀ env, attributeBase o "join" env (eval o env) = eval o env := by intro _; rfl) (hline : (apos.endLine == pos.line) = true := by rfl) :
    EvOk k nm σ δ (.Call (.Attribute o "join" apos) [e] [] pos) (.ok (.str (glue x xs))) δ2 :=
  EvOk.meth ho he rfl F.plainAttrs_str F.slot_str_join F.type_str_join (FOk.join hok) hbase hline (by show 1 < 29; decide)

noncomputable def signsA (vs : List Nat) : List AV := vs.map fun v => .str (sg v)
theorem signsA_eq (vs : List Nat) : signsA vs = (vs.map sg).map AV.str := by simp [signsA]

/-- the closing sign -/
theorem str_close {δ x vs} (hx : x.length < 2 ^ 24) {i : Nat} {r} (h : At x i (34 :: r)) (hf : vs.length ≤ 2 ^ 24) :
    XsOk 1 nm57 (strL x i (signsA vs)) δ strB (.ret (.tuple [.str ⟨vs.toArray⟩, .int (i + 1 : Nat)])) (strS x (i + 1) (signsA vs) 34) δ := by
  have hg := h.get
  have hl := h.lt
  refine' XsOk.cons (ℓ1 := strL x i (signsA vs)) (δ1 := δ) (XOk.ifF (δ1 := δ) ?g1 XsOk.nil) (XsOk.cons (ℓ1 := strS x i (signsA vs) 34) (δ1 := δ) (XOk.assign (av := .str (sg 34)) ?g2 rfl)
    (XsOk.cons (ℓ1 := strS x (i + 1) (signsA vs) 34) (δ1 := δ) (XOk.augL rfl EvOk.int rfl) (XsOk.ret (XOk.ifT (δ1 := δ) ?g3 (XsOk.ret (XOk.ret ?g4))))))
  case g1 => walk_at "ev"; exact decide_eq_false (by omega)
  case g2 => walk_at "ev"
  case g3 => walk_at "ev"; rw [lit34, sg_eq]; rfl
  case g4 =>
    rw [← glue_signs vs]
    refine EvOk.tuple (EvLOk.cons (EvOk.join EvOk.str (EvLOk.cons (EvOk.name ?_) EvLOk.nil) (joinOk_signs hf)) (EvLOk.cons (EvOk.name rfl) EvLOk.nil)) (by show 2 ≤ sizeLine; decide)
    rw [← signsA_eq]
    rfl

noncomputable def textOf (ps : List Pc) : List Nat := ps.flatMap Pc.text
noncomputable def valOf (ps : List Pc) : List Nat := ps.map Pc.val

/-- one piece read -/
theorem str_piece {δ x} (hx : x.length < 2 ^ 24) {i : Nat} {p : Pc} {vs r} (hp : p.ok) (h : At x i (p.text ++ r)) (hf : vs.length < 2 ^ 24) :
    ∃ b, (b = .next ∨ b = .cont) ∧ XsOk 1 nm57 (strL x i (signsA vs)) δ strB b (strL x (i + p.text.length) (signsA (vs ++ [p.val]))) δ := by
  have e : signsA (vs ++ [p.val]) = signsA vs ++ [.str (sg p.val)] := by simp [signsA]
  have hl : (signsA vs).length ≤ 2 ^ 24 := by simp [signsA]; omega
  rw [e]
  cases p with
  | bare c => exact ⟨_, .inr rfl, str_bare hx h hp hl⟩
  | esc a v => exact ⟨_, .inl rfl, str_esc hx h hp hl⟩
  | uni hs =>
    have key : hs.length = 4 ∧ (∀ c ∈ hs, isHex c = true) ∧ (hexF 0 hs < 55296 ∨ 57343 < hexF 0 hs) ∧ hexF 0 hs ≤ 65535 := by
      rcases hp with ⟨h1, h2, h3⟩ | ⟨h1, h2, h3, h4⟩
      · exact ⟨h1, h2, .inl h3, by omega⟩
      · exact ⟨h1, h2, .inr h3, h4⟩
    have el : (Pc.uni hs).text.length = 6 := by simp [Pc.text, key.1]
    rw [el]
    exact ⟨_, .inl rfl, str_uni hx h key.1 key.2.1 key.2.2.1 key.2.2.2 hl⟩
  | pair hs ls =>
    obtain ⟨h1, h2, h3, h4, h5, h6, h7, h8⟩ := hp
    have el : (Pc.pair hs ls).text.length = 12 := by simp [Pc.text, h1, h3]
    rw [el]
    have h' : At x i (92 :: 117 :: (hs ++ 92 :: 117 :: (ls ++ r))) := by simpa [Pc.text] using h
    exact ⟨_, .inl rfl, str_pair hx h' h1 h2 ⟨h5, h6⟩ h3 h4 ⟨h7, h8⟩ hl⟩

theorem str_loop {δ x} (hx : x.length < 2 ^ 24) {r} : ∀ (ps : List Pc) (i : Nat) (vs : List Nat), (∀ p ∈ ps, p.ok) → At x i (textOf ps ++ 34 :: r) → vs.length + ps.length ≤ 2 ^ 24 →
    ∃ ℓ', WOk 1 nm57 (strL x i (signsA vs)) δ (.whileLoop strT strB []) (.ret (.tuple [.str ⟨(vs ++ valOf ps).toArray⟩, .int (i + (textOf ps).length + 1 : Nat)])) ℓ' δ
  | [], i, vs, _, h, hf => by
    refine ⟨strS x (i + 1) (signsA vs) 34, ?_⟩
    have := str_close (δ := δ) hx (vs := vs) h (by simpa using hf)
    simp only [valOf, textOf, List.map_nil, List.append_nil, List.flatMap_nil, List.length_nil, Nat.add_zero]
    exact WOk.ret strT_true this
  | p :: ps, i, vs, hp, h, hf => by
    simp only [List.length_cons] at hf
    have h' : At x i (p.text ++ (textOf ps ++ 34 :: r)) := by simpa [textOf] using h
    obtain ⟨b, hb, hs⟩ := str_piece (δ := δ) hx (vs := vs) (hp p (List.mem_cons_self ..)) h' (by omega)
    obtain ⟨ℓ', ih⟩ := str_loop hx ps (i + p.text.length) (vs ++ [p.val]) (fun q hq => hp q (List.mem_cons_of_mem _ hq)) h'.app (by simp; omega)
    refine ⟨ℓ', ?_⟩
    have e1 : vs ++ valOf (p :: ps) = (vs ++ [p.val]) ++ valOf ps := by simp [valOf]
    have e2 : i + (textOf (p :: ps)).length + 1 = i + p.text.length + (textOf ps).length + 1 := by simp [textOf]; omega
    rw [e1, e2]
    exact WOk.step strT_true hs hb ih

theorem string_at_ok {δ x} (hx : x.length < 2 ^ 24) {i : Nat} {ps : List Pc} {r} (hp : ∀ p ∈ ps, p.ok) (h : At x i (textOf ps ++ 34 :: r)) (hf : ps.length ≤ 2 ^ 24) :
    CallOk 2 57 [.str x, .int i] δ (.ok (.tuple [.str ⟨(valOf ps).toArray⟩, .int (i + (textOf ps).length + 1 : Nat)])) δ := by
  obtain ⟨ℓ', hw⟩ := str_loop (δ := δ) hx ps i [] hp h (by simpa using hf)
  refine CallOk.plain (o := .ret _) (ℓ' := ℓ') def_57 (by decide) (by decide) rfl (fun s vals hv => ?_) ?_ rfl
  · match vals, hv with
    | [a, b], _ => exact BindsTo.of_eq rfl
  exact XsOk.cons (ℓ1 := strL x i []) (δ1 := δ) (XOk.assignOwn EvLOk.nil rfl (Nat.zero_le _)) (XsOk.ret (XOk.while hw))
end Mine

namespace Mine
set_option maxRecDepth 100000

theorem str_bad_turn {δ x vs} (hx : x.length < 2 ^ 24) {i : Nat} {p : Pc} (hp : p.ok) {l a : List Nat} (ha : a ≠ []) (hl : p.text = l ++ a) (h : At x i l) (hf : vs.length < 2 ^ 24) :
    ∃ ℓ', WOk 1 nm57 (strL x i (signsA vs)) δ (.whileLoop strT strB []) (.exc "ValueError") ℓ' δ := by
  have one : ∀ {j : Nat} {us : List Nat} {ℓ'}, XsOk 1 nm57 (strL x j (signsA us)) δ strB (.exc "ValueError") ℓ' δ → ∃ ℓ', WOk 1 nm57 (strL x j (signsA us)) δ (.whileLoop strT strB []) (.exc "ValueError") ℓ' δ := fun h => ⟨_, WOk.exc strT_true h⟩
  have hlen : (signsA vs).length ≤ 2 ^ 24 := by simp [signsA]; omega
  match l, h, hl with
  | [], h, _ => exact one (str_end hx h)
  | [c], h, hl =>
    cases p with
    | bare d => simp [Pc.text] at hl; exact absurd hl.2 ha
    | esc e v => simp [Pc.text] at hl; obtain ⟨rfl, _⟩ := hl; exact one (str_slash_end hx h)
    | uni hs => simp [Pc.text] at hl; obtain ⟨rfl, _⟩ := hl; exact one (str_slash_end hx h)
    | pair hs ls => simp [Pc.text] at hl; obtain ⟨rfl, _⟩ := hl; exact one (str_slash_end hx h)
  | c :: d :: k, h, hl =>
    cases p with
    | bare d => simp [Pc.text] at hl
    | esc e v => simp [Pc.text] at hl; exact absurd hl.2.2.2 ha
    | uni hs =>
      simp only [Pc.text, List.cons_append, List.cons.injEq] at hl
      obtain ⟨rfl, rfl, hl⟩ := hl
      have hh : hs.length = 4 ∧ ∀ c ∈ hs, isHex c = true := by rcases hp with ⟨h1, h2, _⟩ | ⟨h1, h2, _⟩ <;> exact ⟨h1, h2⟩
      have : 0 < a.length := List.length_pos_iff.mpr ha
      have hlen2 := congrArg List.length hl
      simp at hlen2
      exact one (str_hexShort hx h (by omega) fun c hc => hh.2 c (by rw [hl]; exact List.mem_append_left _ hc))
    | pair hs ls =>
      simp only [Pc.text, List.cons_append, List.cons.injEq] at hl
      obtain ⟨rfl, rfl, hl⟩ := hl
      obtain ⟨h1, h2, h3, h4, h5, h6, h7, h8⟩ := hp
      have ha' : 0 < a.length := List.length_pos_iff.mpr ha
      rcases List.append_eq_append_iff.mp hl with ⟨b, hb, hb2⟩ | ⟨b, hb, hb2⟩
      · -- hs ++ b = k
        subst hb
        have half : b.take 2 ≠ [92, 117] → (∃ ℓ', WOk 1 nm57 (strL x (i + 6) (signsA (vs ++ [hexF 0 hs]))) δ (.whileLoop strT strB []) (.exc "ValueError") ℓ' δ) → ∃ ℓ', WOk 1 nm57 (strL x i (signsA vs)) δ (.whileLoop strT strB []) (.exc "ValueError") ℓ' δ := fun hne ⟨ℓ', w⟩ => by
          have st := str_half (δ := δ) hx (r := b) h h1 h2 ⟨h5, h6⟩ hne hlen
          have e : signsA (vs ++ [hexF 0 hs]) = signsA vs ++ [.str (sg (hexF 0 hs))] := by simp [signsA]
          rw [e] at w
          exact ⟨ℓ', WOk.step strT_true st (.inl rfl) w⟩
        have h6' : At x (i + 6) b := by
          have := h.tail.tail.app
          rwa [h1] at this
        match b, hb2, h, h6', half with
        | [], _, _, h6', half => exact half (by simp) (one (str_end hx h6'))
        | [c], hb2, _, h6', half =>
          simp at hb2
          obtain ⟨rfl, _⟩ := hb2
          exact half (by simp) (one (str_slash_end hx h6'))
        | c :: d :: ls', hb2, h, _, _ =>
          simp only [List.cons_append, List.cons.injEq] at hb2
          obtain ⟨rfl, rfl, hb2⟩ := hb2
          have := congrArg List.length hb2
          simp at this
          exact one (str_pairShort hx h h1 h2 ⟨h5, h6⟩ (by omega) fun c hc => h4 c (by rw [hb2]; exact List.mem_append_left _ hc))
      · -- k ++ b = hs
        have hk : k.length ≤ 4 := by have := congrArg List.length hb; simp at this; omega
        by_cases hk4 : k.length < 4
        · exact one (str_hexShort hx h hk4 fun c hc => h2 c (by rw [hb]; exact List.mem_append_left _ hc))
        · have hb0 : b = [] := by
            have := congrArg List.length hb
            simp at this
            exact List.length_eq_zero_iff.mp (by omega)
          subst hb0
          simp at hb
          subst hb
          have h' : At x i (92 :: 117 :: (hs ++ [])) := by simpa using h
          have st := str_half (δ := δ) hx (r := []) h' h1 h2 ⟨h5, h6⟩ (by simp) hlen
          have h6' : At x (i + 6) [] := by
            have := h'.tail.tail.app
            rwa [h1] at this
          have e : signsA (vs ++ [hexF 0 hs]) = signsA vs ++ [.str (sg (hexF 0 hs))] := by simp [signsA]
          obtain ⟨ℓ', w⟩ := one (us := vs ++ [hexF 0 hs]) (str_end hx h6')
          rw [e] at w
          exact ⟨ℓ', WOk.step strT_true st (.inl rfl) w⟩

theorem str_bad {δ x} (hx : x.length < 2 ^ 24) : ∀ (ps : List Pc) (i : Nat) (vs l m : List Nat), (∀ p ∈ ps, p.ok) → m ≠ [] → textOf ps ++ [34] = l ++ m → At x i l → vs.length + ps.length < 2 ^ 24 →
    ∃ ℓ', WOk 1 nm57 (strL x i (signsA vs)) δ (.whileLoop strT strB []) (.exc "ValueError") ℓ' δ
  | [], i, vs, l, m, _, hm, hl, h, hf => by
    have : l = [] := by
      match l, hl with
      | [], _ => rfl
      | c :: r, hl => simp [textOf] at hl; exact absurd hl.2.2 hm
    subst this
    exact ⟨_, WOk.exc strT_true (str_end hx h)⟩
  | p :: ps, i, vs, l, m, hp, hm, hl, h, hf => by
    simp only [List.length_cons] at hf
    have e : textOf (p :: ps) = p.text ++ textOf ps := by simp [textOf]
    rw [e, List.append_assoc] at hl
    have hp0 := hp p (List.mem_cons_self ..)
    rcases List.append_eq_append_iff.mp hl with ⟨b, hb, hb2⟩ | ⟨b, hb, hb2⟩
    · subst hb
      obtain ⟨o, ho, hs⟩ := str_piece (δ := δ) hx (vs := vs) hp0 h (by omega)
      obtain ⟨ℓ', ih⟩ := str_bad hx ps (i + p.text.length) (vs ++ [p.val]) b m (fun q hq => hp q (List.mem_cons_of_mem _ hq)) hm hb2 h.app (by simp; omega)
      exact ⟨ℓ', WOk.step strT_true hs ho ih⟩
    · by_cases hb0 : b = []
      · subst hb0
        simp at hb hb2
        subst hb
        have h' : At x i (p.text ++ []) := by simpa using h
        obtain ⟨o, ho, hs⟩ := str_piece (δ := δ) hx (vs := vs) hp0 h' (by omega)
        obtain ⟨ℓ', ih⟩ := str_bad hx ps (i + p.text.length) (vs ++ [p.val]) [] m (fun q hq => hp q (List.mem_cons_of_mem _ hq)) hm (by simpa using hb2.symm) h'.app (by simp; omega)
        exact ⟨ℓ', WOk.step strT_true hs ho ih⟩
      · exact str_bad_turn hx hp0 hb0 hb h (by omega)

theorem string_at_bad {δ x} (hx : x.length < 2 ^ 24) {i : Nat} {ps : List Pc} {l m} (hp : ∀ p ∈ ps, p.ok) (hm : m ≠ []) (hl : textOf ps ++ [34] = l ++ m) (h : At x i l) (hf : ps.length < 2 ^ 24) :
    CallOk 2 57 [.str x, .int i] δ (.exc "ValueError") δ := by
  obtain ⟨ℓ', hw⟩ := str_bad (δ := δ) hx ps i [] l m hp hm hl h (by simpa using hf)
  refine CallOk.plain (o := .exc "ValueError") (ℓ' := ℓ') def_57 (by decide) (by decide) rfl (fun s vals hv => ?_) ?_ rfl
  · match vals, hv with
    | [a, b], _ => exact BindsTo.of_eq rfl
  exact XsOk.cons (ℓ1 := strL x i []) (δ1 := δ) (XOk.assignOwn EvLOk.nil rfl (Nat.zero_le _)) (XsOk.exc (XOk.while hw))
end Mine

namespace Mine
set_option maxRecDepth 100000

local macro_rules | `(tactic| walk_at "size") => `(tactic| first | omega | assumption | (simp only [Str.length_append, len_one, len_hex4, len_lit1, len_lit2, sizeLine_eq] <;> omega) | skip)
local macro_rules | `(tactic| walk_at "op") => `(tactic| first
  | exact BOk.addL | exact BOk.addLr | exact BOk.addN | exact BOk.add
  | (refine' BOk.subL ?oa; (case' oa => omega))
  | (refine' BOk.modL ?ob; (case' ob => decide))
  | (refine' BOk.divL ?oc; (case' oc => decide))
  | (refine' BOk.cat ?od; (case' od => walk_at "size"))
  | exact POk.eqS | exact POk.neS | exact POk.inS | exact POk.eqI | exact POk.neI | exact POk.ltI | exact POk.leI | exact POk.gtI | exact POk.geI | exact POk.isNone | exact POk.isB | exact POk.inI | exact POk.inD
  | skip)
local macro_rules | `(tactic| walk_at "side") => `(tactic| first | omega | assumption | decide | skip)
local macro_rules | `(tactic| walk_at "item") => `(tactic| first
  | exact GOk.strN (by omega) (by assumption)
  | (refine' GOk.hexd ?ia; (case' ia => omega))
  | (refine' GOk.list ?ib ?ic ?id; (case' ib => decide); (case' ic => decide); (case' id => rfl))
  | skip)
local macro_rules | `(tactic| walk_at "ev") => `(tactic| first
  | exact EvOk.name (by rfl) (by decide)
  | exact EvOk.int | exact EvOk.str | exact EvOk.none | exact EvOk.bool | exact EvOk.bytes
  | (refine' EvOk.bin ?ba ?bb ?bc; (case' ba => walk_at "ev"); (case' bb => walk_at "ev"); (case' bc => walk_at "op"))
  | (refine' EvOk.slice ?sa ?sb ?sc ?sd ?se; (case' sa => walk_at "ev"); (case' sb => walk_at "ev"); (case' sc => walk_at "ev"); (case' sd => walk_at "side"); (case' se => walk_at "side"))
  | (refine' EvOk.sliceTo ?ra ?rb ?rc; (case' ra => walk_at "ev"); (case' rb => walk_at "ev"); (case' rc => walk_at "side"))
  | (refine' EvOk.sub ?ua ?ub ?uc; (case' ua => walk_at "ev"); (case' ub => walk_at "ev"); (case' uc => walk_at "item"))
  | (refine' EvOk.tuple ?ta ?tb; (case' ta => walk_at "ev"); (case' tb => decide))
  | (refine' EvLOk.cons ?ca ?cb; (case' ca => walk_at "ev"); (case' cb => walk_at "ev"))
  | exact EvLOk.nil
  | exact EvOk.hexName (by rfl)
  | exact EvOk.escapes (by rfl)
  | exact EvOk.escaped (by rfl)
  | (refine' EvOk.bcall bn_len (by rfl) (by intro _; nofun) ?fa (FOk.lenS ?fb); (case' fa => walk_at "ev"); (case' fb => walk_at "side"))
  | (refine' EvOk.bcall bn_ord (by rfl) (by intro _; nofun) ?fc FOk.ord; (case' fc => walk_at "ev"))
  | (refine' EvOk.bcall bn_chr (by rfl) (by intro _; nofun) ?fd (FOk.chr ?fe ?ff); (case' fd => walk_at "ev"); (case' fe => walk_at "side"); (case' ff => walk_at "side"))
  | (refine' EvOk.bcall bn_str (by rfl) (by intro _; nofun) ?fg (FOk.strOf ?fh); (case' fg => walk_at "ev"); (case' fh => walk_at "side"))
  | (refine' EvOk.bcall bn_int (by rfl) (by intro _; nofun) ?fi (FOk.intOf ?fj ?fk); (case' fi => walk_at "ev"); (case' fj => walk_at "side"); (case' fk => walk_at "side"))
  | (refine' EvOk.bcall bn_range (by rfl) (by intro _; nofun) ?fl FOk.range; (case' fl => walk_at "ev"))
  | (refine' EvOk.bcall bn_abs (by rfl) (by intro _; nofun) ?fm FOk.abs; (case' fm => walk_at "ev"))
  | (refine' TOk.cmp' ?pa ?pb ?pc ?pd; (case' pa => walk_at "ev"); (case' pb => walk_at "ev"); (case' pc => walk_at "op"))
  | (refine' TOk.not ?na; (case' na => walk_at "ev"))
  | (refine' EvOk.cmp ?qa ?qb ?qc; (case' qa => walk_at "ev"); (case' qb => walk_at "ev"); (case' qc => walk_at "op"))
  | skip)

noncomputable def isDig (c : Nat) : Bool := decide (48 ≤ c ∧ c ≤ 57)
theorem dig_in (c : Nat) : decide (c ∈ (Str.ofString "0123456789").cps.toList) = isDig c := by
  have e : (Str.ofString "0123456789").cps.toList = [48, 49, 50, 51, 52, 53, 54, 55, 56, 57] := by decide +kernel
  rw [e, Bool.eq_iff_iff]
  simp only [isDig, decide_eq_true_eq, List.mem_cons, List.not_mem_nil, or_false]
  omega
noncomputable def isPoint (c : Nat) : Bool := decide (c = 46 ∨ c = 101 ∨ c = 69)
theorem point_in (c : Nat) : decide (c ∈ (Str.ofString ".eE").cps.toList) = isPoint c := by
  have e : (Str.ofString ".eE").cps.toList = [46, 101, 69] := by decide +kernel
  rw [e, Bool.eq_iff_iff]
  simp [isPoint]
theorem lit45 : Str.ofString "-" = sg 45 := by decide +kernel
theorem lit48 : Str.ofString "0" = sg 48 := by decide +kernel

theorem def_64 : DefAt 64 (fdOf 64) ["text", "at"] (bodyOf 64) := ⟨fun _ => rfl, fun _ => rfl, rfl, rfl, rfl, rfl, rfl, rfl, rfl, by decide⟩
noncomputable abbrev nm64 : List (Str × NameKind) := (fdOf 64).scope.names
noncomputable def numT : Expr := wT (stAt (bodyOf 64) 2)
noncomputable def numB : List Stmt := wB (stAt (bodyOf 64) 2)
noncomputable def numL (x : Str) (i e s : Nat) : Loc := [("text", .val (.str x)), ("at", .val (.int i)), ("end", .val (.int e)), ("start", .val (.int s))]
noncomputable def numE (x : Str) (i e : Nat) : Loc := [("text", .val (.str x)), ("at", .val (.int i)), ("end", .val (.int e))]

/-- what does not go on a number -/
noncomputable def NoDig (r : List Nat) : Prop := ∀ c t, r = c :: t → isDig c = false ∧ isPoint c = false

theorem num_loop {δ x} (hx : x.length < 2 ^ 24) {i s : Nat} {r} (hr : NoDig r) : ∀ (ds : List Nat) (j : Nat), (∀ c ∈ ds, isDig c = true) → At x j (ds ++ r) →
    WOk 0 nm64 (numL x i j s) δ (.whileLoop numT numB []) .next (numL x i (j + ds.length) s) δ
  | [], j, _, h => by
    match r, hr, h with
    | [], _, h =>
      have := h.nil
      refine' WOk.stop (TOk.bool (AllOk.andF ?_))
      walk_at "ev"
      exact decide_eq_false (by omega)
    | c :: t, hr, h =>
      have hg := At.get h
      have hl := At.lt h
      refine' WOk.stop (TOk.bool (AllOk.andT (δ1 := δ) ?_ (AllOk.andF ?_)))
      · walk_at "ev"
        exact decide_eq_true (by omega)
      · walk_at "ev"
        exact (dig_in c).trans (hr c t rfl).1
  | c :: ds, j, hd, h => by
    have hg := At.get h
    have hl := At.lt h
    have e : j + (c :: ds).length = (j + 1) + ds.length := by simp; omega
    rw [e]
    refine' WOk.step (δ1 := δ) (ℓ2 := numL x i (j + 1) s) (δ2 := δ) (TOk.bool (AllOk.andT (δ1 := δ) ?_ (AllOk.andT (δ1 := δ) ?_ AllOk.andNil))) (XsOk.cons (XOk.augL rfl EvOk.int rfl) XsOk.nil) (.inl rfl) (num_loop hx hr ds (j + 1) (fun d hd' => hd d (List.mem_cons_of_mem _ hd')) (At.tail h))
    · walk_at "ev"
      exact decide_eq_true (by omega)
    · walk_at "ev"
      exact (dig_in c).trans (hd c (List.mem_cons_self ..))

/-- where a number's signs begin -/
noncomputable def pre (neg : Bool) : List Nat := if neg then [45] else []

theorem num_start {δ x} (hx : x.length < 2 ^ 24) {i : Nat} {neg : Bool} {c : Nat} {r} (h : At x i (pre neg ++ c :: r)) (hc : c ≠ 45) {st : Stmt} (hst : st = stAt (bodyOf 64) 0) :
    XOk 0 nm64 [("text", .val (.str x)), ("at", .val (.int i))] δ st .next (numE x i (i + (pre neg).length)) δ := by
  subst hst
  cases neg with
  | false =>
    have h' : At x i (c :: r) := h
    have hg := h'.get
    have hl := h'.lt
    refine XOk.assign (x := "end") (av := .int (i : Nat)) (EvOk.ifFalse (δ1 := δ) ?_ (EvOk.name rfl)) rfl
    walk_at "ev"
    rw [lit45, sg_eq]
    exact decide_eq_false hc
  | true =>
    have h' : At x i (45 :: c :: r) := h
    have hg := h'.get
    have hl := h'.lt
    refine XOk.assign (x := "end") (av := .int (i + 1 : Nat)) (EvOk.ifTrue (δ1 := δ) ?_ (EvOk.bin (EvOk.name (av := .int (i : Nat)) rfl) EvOk.int BOk.addL)) rfl
    walk_at "ev"
    rw [lit45, sg_eq]
    rfl

theorem num_ok {δ x} (hx : x.length < 2 ^ 24) {i : Nat} {neg : Bool} {ds r : List Nat} {n : Int} (h : At x i (pre neg ++ (ds ++ r))) (hd : ∀ c ∈ ds, isDig c = true) (hne : ds ≠ []) (h0 : ds.head? = some 48 → ds = [48])
    (hr : NoDig r) (hn : PySem.intText? ⟨(pre neg ++ ds).toArray⟩ = some n) (hl : ds.length ≤ 600) :
    CallOk 1 64 [.str x, .int i] δ (.ok (.tuple [.int n, .int (i + (pre neg ++ ds).length : Nat)])) δ := by
  have hxl : x.length ≤ sizeLine := by rw [sizeLine_eq]; omega
  obtain ⟨c, t, rfl⟩ : ∃ c t, ds = c :: t := by cases ds with | nil => exact absurd rfl hne | cons c t => exact ⟨c, t, rfl⟩
  have hc := hd c (List.mem_cons_self ..)
  have hc45 : c ≠ 45 := by simp only [isDig, decide_eq_true_eq] at hc; omega
  have hs : At x (i + (pre neg).length) ((c :: t) ++ r) := h.app
  have he : At x (i + (pre neg).length + (c :: t).length) r := hs.app
  have elen : i + (pre neg ++ c :: t).length = i + (pre neg).length + (c :: t).length := by simp; omega
  have hsub : subS x i (i + (pre neg).length + (c :: t).length) = ⟨(pre neg ++ c :: t).toArray⟩ := by
    rw [← elen, h.sub, ← List.append_assoc, List.take_left]
  have hg : x.cps[i + (pre neg).length]? = some c := At.get (r := t ++ r) hs
  have hlt : i + (pre neg).length < x.length := At.lt (r := t ++ r) hs
  refine CallOk.plain (o := .ret _) (ℓ' := numL x i (i + (pre neg).length + (c :: t).length) (i + (pre neg).length)) def_64 (by decide) (by decide) rfl (fun s vals hv => ?_) ?_ rfl
  · match vals, hv with
    | [a, b], _ => exact BindsTo.of_eq rfl
  refine XsOk.cons (δ1 := δ) (num_start hx h hc45 rfl) (XsOk.cons (ℓ1 := numL x i (i + (pre neg).length) (i + (pre neg).length)) (δ1 := δ) (XOk.assign (x := "start") (av := .int (i + (pre neg).length : Nat)) (EvOk.name rfl) rfl)
    (XsOk.cons (δ1 := δ) (XOk.while (num_loop hx hr (c :: t) _ hd hs)) (XsOk.cons (δ1 := δ) (XOk.ifF (δ1 := δ) ?g1 XsOk.nil) (XsOk.cons (ℓ1 := numL x i (i + (pre neg).length + (c :: t).length) (i + (pre neg).length)) (δ1 := δ) ?g2 (XsOk.cons (δ1 := δ) (XOk.ifF (δ1 := δ) ?g3 XsOk.nil) (XsOk.ret (XOk.ret ?g4)))))))
  case g1 =>
    walk_at "ev"
    refine beq_eq_false_iff_ne.mpr ?_
    simp
    omega
  case g2 =>
    by_cases hz : c = 48
    · subst hz
      have := h0 rfl
      simp at this
      subst this
      refine XOk.ifT (δ1 := δ) ?_ (XsOk.cons (ℓ1 := numL x i (i + (pre neg).length + 1) (i + (pre neg).length)) (XOk.assign (x := "end") (av := .int (i + (pre neg).length + 1 : Nat)) (EvOk.bin (EvOk.name (av := .int (i + (pre neg).length : Nat)) rfl) EvOk.int BOk.addL) rfl) XsOk.nil)
      walk_at "ev"
      rw [lit48, sg_eq]
      rfl
    · refine XOk.ifF (δ1 := δ) ?_ XsOk.nil
      walk_at "ev"
      rw [lit48, sg_eq]
      exact decide_eq_false hz
  case g3 =>
    match r, hr, he with
    | [], _, h =>
      have := h.nil
      refine' TOk.bool (AllOk.andF ?_)
      walk_at "ev"
      exact decide_eq_false (by omega)
    | d :: t', hr, h =>
      have hg := At.get h
      have hl := At.lt h
      refine' TOk.bool (AllOk.andT (δ1 := δ) ?_ (AllOk.andF ?_))
      · walk_at "ev"
        exact decide_eq_true (by omega)
      · walk_at "ev"
        exact (point_in d).trans (hr d t' rfl).2
  case g4 =>
    rw [elen]
    refine EvOk.tuple (EvLOk.cons (EvOk.bcall bn_int rfl (fun _ => nofun) (EvLOk.cons (EvOk.slice (EvOk.name (av := .str x) rfl) (EvOk.name (av := .int (i : Nat)) rfl) (EvOk.name (av := .int (i + (pre neg).length + (c :: t).length : Nat)) rfl) (by omega) hxl) EvLOk.nil) (FOk.intOf ?_ ?_)) (EvLOk.cons (EvOk.name rfl) EvLOk.nil)) (by show 2 ≤ sizeLine; decide)
    · rw [hsub]; exact hn
    · rw [hsub]
      show (pre neg ++ c :: t).toArray.size ≤ 640
      rw [List.size_toArray, List.length_append]
      have : (pre neg).length ≤ 1 := by cases neg <;> decide
      omega

/-- no number here -/
theorem num_bad {δ x} (hx : x.length < 2 ^ 24) {i : Nat} {c : Nat} {r} (h : At x i (c :: r)) (hc : c ≠ 45) (hd : isDig c = false) : CallOk 1 64 [.str x, .int i] δ (.exc "ValueError") δ := by
  refine CallOk.plain (o := .exc "ValueError") (ℓ' := numL x i i i) def_64 (by decide) (by decide) rfl (fun s vals hv => ?_) ?_ rfl
  · match vals, hv with
    | [a, b], _ => exact BindsTo.of_eq rfl
  have hg := h.get
  have hl := h.lt
  refine XsOk.cons (δ1 := δ) (num_start (neg := false) hx h hc rfl) (XsOk.cons (ℓ1 := numL x i i i) (δ1 := δ) (XOk.assign (x := "start") (av := .int (i : Nat)) (EvOk.name rfl) rfl)
    (XsOk.cons (ℓ1 := numL x i i i) (δ1 := δ) (XOk.while ?g0) (XsOk.exc (XOk.ifT (δ1 := δ) ?g1 (XsOk.raiseV rfl)))))
  case g0 =>
    refine' WOk.stop (TOk.bool (AllOk.andT (δ1 := δ) ?_ (AllOk.andF ?_)))
    · walk_at "ev"
      exact decide_eq_true (by omega)
    · walk_at "ev"
      exact (dig_in c).trans hd
  case g1 =>
    walk_at "ev"
    exact beq_self_eq_true _
/-- a lone minus -/
theorem num_minus {δ x} (hx : x.length < 2 ^ 24) {i : Nat} (h : At x i [45]) : CallOk 1 64 [.str x, .int i] δ (.exc "ValueError") δ := by
  refine CallOk.plain (o := .exc "ValueError") (ℓ' := numL x i (i + 1) (i + 1)) def_64 (by decide) (by decide) rfl (fun s vals hv => ?_) ?_ rfl
  · match vals, hv with
    | [a, b], _ => exact BindsTo.of_eq rfl
  have hg := h.get
  have hl := h.lt
  have hnil := h.tail.nil
  refine XsOk.cons (ℓ1 := numE x i (i + 1)) (δ1 := δ) (XOk.assign (x := "end") (av := .int (i + 1 : Nat)) (EvOk.ifTrue (δ1 := δ) ?g2 (EvOk.bin (EvOk.name (av := .int (i : Nat)) rfl) EvOk.int BOk.addL)) rfl) (XsOk.cons (ℓ1 := numL x i (i + 1) (i + 1)) (δ1 := δ) (XOk.assign (x := "start") (av := .int (i + 1 : Nat)) (EvOk.name rfl) rfl)
    (XsOk.cons (ℓ1 := numL x i (i + 1) (i + 1)) (δ1 := δ) (XOk.while ?g0) (XsOk.exc (XOk.ifT (δ1 := δ) ?g1 (XsOk.raiseV rfl)))))
  case g2 =>
    walk_at "ev"
    rw [lit45, sg_eq]
    rfl
  case g0 =>
    refine' WOk.stop (TOk.bool (AllOk.andF ?_))
    walk_at "ev"
    exact decide_eq_false (by omega)
  case g1 =>
    walk_at "ev"
    exact beq_self_eq_true _
end Mine

namespace Mine
set_option maxRecDepth 100000

local macro_rules | `(tactic| walk_at "size") => `(tactic| first | omega | assumption | (simp only [Str.length_append, len_one, len_hex4, len_lit1, len_lit2, sizeLine_eq] <;> omega) | skip)
local macro_rules | `(tactic| walk_at "op") => `(tactic| first
  | exact BOk.addL | exact BOk.addLr | exact BOk.addN | exact BOk.add
  | (refine' BOk.subL ?oa; (case' oa => omega))
  | (refine' BOk.modL ?ob; (case' ob => decide))
  | (refine' BOk.divL ?oc; (case' oc => decide))
  | (refine' BOk.cat ?od; (case' od => walk_at "size"))
  | exact POk.eqS | exact POk.neS | exact POk.inS | exact POk.eqI | exact POk.neI | exact POk.ltI | exact POk.leI | exact POk.gtI | exact POk.geI | exact POk.isNone | exact POk.isB | exact POk.inI | exact POk.inD
  | skip)
local macro_rules | `(tactic| walk_at "side") => `(tactic| first | omega | assumption | decide | skip)
local macro_rules | `(tactic| walk_at "item") => `(tactic| first
  | exact GOk.strN (by omega) (by assumption)
  | (refine' GOk.hexd ?ia; (case' ia => omega))
  | (refine' GOk.list ?ib ?ic ?id; (case' ib => decide); (case' ic => decide); (case' id => rfl))
  | skip)
local macro_rules | `(tactic| walk_at "ev") => `(tactic| first
  | exact EvOk.name (by rfl) (by decide)
  | exact EvOk.int | exact EvOk.str | exact EvOk.none | exact EvOk.bool | exact EvOk.bytes
  | (refine' EvOk.bin ?ba ?bb ?bc; (case' ba => walk_at "ev"); (case' bb => walk_at "ev"); (case' bc => walk_at "op"))
  | (refine' EvOk.slice ?sa ?sb ?sc ?sd ?se; (case' sa => walk_at "ev"); (case' sb => walk_at "ev"); (case' sc => walk_at "ev"); (case' sd => walk_at "side"); (case' se => walk_at "side"))
  | (refine' EvOk.sliceTo ?ra ?rb ?rc; (case' ra => walk_at "ev"); (case' rb => walk_at "ev"); (case' rc => walk_at "side"))
  | (refine' EvOk.sub ?ua ?ub ?uc; (case' ua => walk_at "ev"); (case' ub => walk_at "ev"); (case' uc => walk_at "item"))
  | (refine' EvOk.tuple ?ta ?tb; (case' ta => walk_at "ev"); (case' tb => decide))
  | (refine' EvLOk.cons ?ca ?cb; (case' ca => walk_at "ev"); (case' cb => walk_at "ev"))
  | exact EvLOk.nil
  | exact EvOk.hexName (by rfl)
  | exact EvOk.escapes (by rfl)
  | exact EvOk.escaped (by rfl)
  | (refine' EvOk.bcall bn_len (by rfl) (by intro _; nofun) ?fa (FOk.lenS ?fb); (case' fa => walk_at "ev"); (case' fb => walk_at "side"))
  | (refine' EvOk.bcall bn_ord (by rfl) (by intro _; nofun) ?fc FOk.ord; (case' fc => walk_at "ev"))
  | (refine' EvOk.bcall bn_chr (by rfl) (by intro _; nofun) ?fd (FOk.chr ?fe ?ff); (case' fd => walk_at "ev"); (case' fe => walk_at "side"); (case' ff => walk_at "side"))
  | (refine' EvOk.bcall bn_str (by rfl) (by intro _; nofun) ?fg (FOk.strOf ?fh); (case' fg => walk_at "ev"); (case' fh => walk_at "side"))
  | (refine' EvOk.bcall bn_int (by rfl) (by intro _; nofun) ?fi (FOk.intOf ?fj ?fk); (case' fi => walk_at "ev"); (case' fj => walk_at "side"); (case' fk => walk_at "side"))
  | (refine' EvOk.bcall bn_range (by rfl) (by intro _; nofun) ?fl FOk.range; (case' fl => walk_at "ev"))
  | (refine' EvOk.bcall bn_abs (by rfl) (by intro _; nofun) ?fm FOk.abs; (case' fm => walk_at "ev"))
  | (refine' TOk.cmp' ?pa ?pb ?pc ?pd; (case' pa => walk_at "ev"); (case' pb => walk_at "ev"); (case' pc => walk_at "op"))
  | (refine' TOk.not ?na; (case' na => walk_at "ev"))
  | (refine' EvOk.cmp ?qa ?qb ?qc; (case' qa => walk_at "ev"); (case' qb => walk_at "ev"); (case' qc => walk_at "op"))
  | skip)

theorem XOk.unpackExc {k nm ℓ δ δ'} {elts : List Expr} {kk tp e p X} (h : EvOk k nm (peek ℓ) δ e (.exc X) δ')
    (hsw : ∀ env, swapsWithSole [.Tuple elts kk tp] e p.line env = pure false := by intro _; rfl) (hw : ∀ env, swappedStores [.Tuple elts kk tp] e env = pure none := by intro _; rfl) :
    XOk k nm ℓ δ (.Assign [.Tuple elts kk tp] e p) (.exc X) ℓ δ' := by
  constructor; intro F O s Q E K S hn hc hr he
  exact Assign_Tuple (h.run F.C s _ _ K.c (S.evPeek K) (fun v av1 s1 e1 a1 r1 => nomatch e1) fun e X s1 e1 x => he _ _ _ (by cases e1; rfl) (ExcStat.of K S x)) (hsw _) (hw _)

theorem lit91 : Str.ofString "[" = sg 91 := by decide +kernel
theorem lit93 : Str.ofString "]" = sg 93 := by decide +kernel
theorem lit123 : Str.ofString "{" = sg 123 := by decide +kernel
theorem lit125 : Str.ofString "}" = sg 125 := by decide +kernel
theorem lit44 : Str.ofString "," = sg 44 := by decide +kernel
theorem lit58 : Str.ofString ":" = sg 58 := by decide +kernel

/-! ## json_value_at -/
theorem def_71 : DefAt 71 (fdOf 71) ["text", "at"] (bodyOf 71) := ⟨fun _ => rfl, fun _ => rfl, rfl, rfl, rfl, rfl, rfl, rfl, rfl, by decide⟩
noncomputable abbrev nm71 : List (Str × NameKind) := (fdOf 71).scope.names
noncomputable def valS (x : Str) (i : Nat) (c : Nat) : Loc := [("text", .val (.str x)), ("at", .val (.int i)), ("sign", .val (.str (sg c)))]
noncomputable def valL (x : Str) (i : Nat) : Loc := [("text", .val (.str x)), ("at", .val (.int i))]

/-- the head of json_value_at -/
theorem value_head {k δ δ' x o} (hx : x.length < 2 ^ 24) {i c : Nat} {r} (h : At x i (c :: r)) {res} (ho : o.res = some res) (h2 : XsOk k nm71 (valS x i c) δ ((bodyOf 71).drop 2) o (valS x i c) δ') : CallOk (k + 1) 71 [.str x, .int i] δ res δ' := by
  have hg := h.get
  have hl := h.lt
  refine CallOk.plain (o := o) (ℓ' := valS x i c) def_71 (by decide) (by decide) rfl (fun s vals hv => ?_) ?_ ho
  · match vals, hv with
    | [a, b], _ => exact BindsTo.of_eq rfl
  refine XsOk.cons (ℓ1 := valL x i) (δ1 := δ) (XOk.ifF (δ1 := δ) ?g1 XsOk.nil) (XsOk.cons (ℓ1 := valS x i c) (δ1 := δ) (XOk.assign (av := .str (sg c)) ?g2 rfl) h2)
  case g1 => walk_at "ev"; exact decide_eq_false (by omega)
  case g2 => walk_at "ev"
/-- nothing left -/
theorem value_end {k δ x} (hx : x.length < 2 ^ 24) {i : Nat} (h : At x i []) : CallOk (k + 1) 71 [.str x, .int i] δ (.exc "ValueError") δ := by
  have hn := h.nil
  refine CallOk.plain (o := .exc "ValueError") (ℓ' := valL x i) def_71 (by decide) (by decide) rfl (fun s vals hv => ?_) ?_ rfl
  · match vals, hv with
    | [a, b], _ => exact BindsTo.of_eq rfl
  refine XsOk.exc (ℓ1 := valL x i) (XOk.ifT (δ1 := δ) ?g1 (XsOk.raiseV rfl))
  walk_at "ev"
  exact decide_eq_true (by omega)

noncomputable def outOf : ERes → Out
  | .ok v => .ret v
  | .exc X => .exc X
theorem outOf_res (r : ERes) : (outOf r).res = some r := by cases r <;> rfl
theorem XsOk.retR {k nm ℓ δ δ' e p rest r} (h : EvOk k nm (peek ℓ) δ e r δ') : XsOk k nm ℓ δ (.Return (some e) p :: rest) (outOf r) ℓ δ' := by
  cases r with
  | ok v => exact XsOk.ret (XOk.ret h)
  | exc X => exact XsOk.exc (XOk.retExc h)
theorem XsOk.ifRet {k nm ℓ δ δ1 δ' t b e p rest r} (ht : TOk k nm (peek ℓ) δ t true δ1) (h : XsOk k nm ℓ δ1 b (outOf r) ℓ δ') : XsOk k nm ℓ δ (.If t b e p :: rest) (outOf r) ℓ δ' := by
  cases r with
  | ok v => exact XsOk.ret (XOk.ifT ht h)
  | exc X => exact XsOk.exc (XOk.ifT ht h)

theorem sgn_is {k nm ℓ δ q a b p c d} {s : Str} (hs : s = sg d) (h : (peek ℓ).lookup (Str.ofString "sign") = some (.str (sg c))) : TOk k nm (peek ℓ) δ (.Compare (.Name "sign" p) [.Eq] [.Constant (.str s) a b] q) (decide (c = d)) δ := by
  subst hs
  rw [← sg_eq]
  exact TOk.cmp (EvOk.name h) EvOk.str POk.eqS

theorem value_str {k δ δ' x} (hx : x.length < 2 ^ 24) {i : Nat} {r res} (h : At x i (34 :: r)) (hc : CallOk k 57 [.str x, .int (i + 1 : Nat)] δ res δ') : CallOk (k + 1) 71 [.str x, .int i] δ res δ' := by
  refine value_head hx h (outOf_res res) (XsOk.ifRet (δ1 := δ) (sgn_is (c := 34) lit34 rfl) (XsOk.retR ?_))
  exact EvOk.call gn_json_string_at rfl fn_57 (EvLOk.cons (EvOk.name rfl) (EvLOk.cons (EvOk.bin (EvOk.name (av := .int (i : Nat)) rfl) EvOk.int BOk.addL) EvLOk.nil)) hc

theorem value_list {k δ δ' x} (hx : x.length < 2 ^ 24) {i : Nat} {r res} (h : At x i (91 :: r)) (hc : CallOk (k + 1) 78 [.str x, .int (spaceF x (i + 1))] δ res δ') : CallOk (k + 2) 71 [.str x, .int i] δ res δ' := by
  refine value_head hx h (outOf_res res) (XsOk.cons (δ1 := δ) (XOk.ifF (δ1 := δ) (sgn_is (c := 91) lit34 rfl) XsOk.nil) (XsOk.ifRet (δ1 := δ) (sgn_is (c := 91) lit91 rfl) (XsOk.retR ?_)))
  have hl := h.lt
  exact EvOk.call gn_json_list_at rfl fn_78 (EvLOk.cons (EvOk.name rfl) (EvLOk.cons (EvOk.call gn_json_space rfl fn_43 (EvLOk.cons (EvOk.name rfl) (EvLOk.cons (EvOk.bin (EvOk.name (av := .int (i : Nat)) rfl) EvOk.int BOk.addL) EvLOk.nil)) ((space_ok (by omega) (i + 1) (by omega)).mono (by omega))) EvLOk.nil)) hc
theorem value_dict {k δ δ' x} (hx : x.length < 2 ^ 24) {i : Nat} {r res} (h : At x i (123 :: r)) (hc : CallOk (k + 1) 85 [.str x, .int (spaceF x (i + 1))] δ res δ') : CallOk (k + 2) 71 [.str x, .int i] δ res δ' := by
  refine value_head hx h (outOf_res res) (XsOk.cons (δ1 := δ) (XOk.ifF (δ1 := δ) (sgn_is (c := 123) lit34 rfl) XsOk.nil) (XsOk.cons (δ1 := δ) (XOk.ifF (δ1 := δ) (sgn_is (c := 123) lit91 rfl) XsOk.nil) (XsOk.ifRet (δ1 := δ) (sgn_is (c := 123) lit123 rfl) (XsOk.retR ?_))))
  have hl := h.lt
  exact EvOk.call gn_json_dict_at rfl fn_85 (EvLOk.cons (EvOk.name rfl) (EvLOk.cons (EvOk.call gn_json_space rfl fn_43 (EvLOk.cons (EvOk.name rfl) (EvLOk.cons (EvOk.bin (EvOk.name (av := .int (i : Nat)) rfl) EvOk.int BOk.addL) EvLOk.nil)) ((space_ok (by omega) (i + 1) (by omega)).mono (by omega))) EvLOk.nil)) hc

noncomputable def wNull : List Nat := [110, 117, 108, 108]
noncomputable def wTrue : List Nat := [116, 114, 117, 101]
noncomputable def wFalse : List Nat := [102, 97, 108, 115, 101]
theorem litNull : Str.ofString "null" = ⟨wNull.toArray⟩ := by decide +kernel
theorem litTrue : Str.ofString "true" = ⟨wTrue.toArray⟩ := by decide +kernel
theorem litFalse : Str.ofString "false" = ⟨wFalse.toArray⟩ := by decide +kernel
theorem str_eq_toArray {a b : List Nat} : ((⟨a.toArray⟩ : Str) == ⟨b.toArray⟩) = decide (a = b) := by
  rw [Bool.eq_iff_iff]; simp

theorem slice_test {k δ} {x : Str} {i c : Nat} (n : Nat) {N : Int} {l w : List Nat} {s : Str} {q q2 a b p1 p2 p3 p4 p5 p6 a1} (hxl : x.length ≤ sizeLine) (h : At x i l) (hs : s = ⟨w.toArray⟩) (hN : N = (n : Int)) :
    TOk k nm71 (peek (valS x i c)) δ (.Compare (.Subscript (.Name "text" p1) (.Slice (some (.Name "at" p2)) (some (.BinOp (.Name "at" p3) .Add (.Constant (.int N) a1 p4) p5)) Option.none p6) q) [.Eq] [.Constant (.str s) a b] q2) (decide (l.take n = w)) δ := by
  subst hs hN
  have e : (subS x i (i + n) == (⟨w.toArray⟩ : Str)) = decide (l.take n = w) := by rw [h.sub, str_eq_toArray]
  refine TOk.cmp' (EvOk.slice (EvOk.name (av := .str x) rfl) (EvOk.name (av := .int (i : Nat)) rfl) (EvOk.bin (EvOk.name (av := .int (i : Nat)) rfl) EvOk.int BOk.addN) (Nat.le_add_right _ _) hxl) EvOk.str POk.eqS e

/-- none of the three openings -/
theorem value_other {k δ δ' x} (hx : x.length < 2 ^ 24) {i c : Nat} {r res} (h : At x i (c :: r)) (hc : c ≠ 34 ∧ c ≠ 91 ∧ c ≠ 123) (h5 : XsOk k nm71 (valS x i c) δ ((bodyOf 71).drop 5) (outOf res) (valS x i c) δ') : CallOk (k + 1) 71 [.str x, .int i] δ res δ' :=
  value_head hx h (outOf_res res) (XsOk.cons (δ1 := δ) (XOk.ifF (δ1 := δ) (decide_eq_false hc.1 ▸ sgn_is (c := c) lit34 rfl) XsOk.nil) (XsOk.cons (δ1 := δ) (XOk.ifF (δ1 := δ) (decide_eq_false hc.2.1 ▸ sgn_is (c := c) lit91 rfl) XsOk.nil)
    (XsOk.cons (δ1 := δ) (XOk.ifF (δ1 := δ) (decide_eq_false hc.2.2 ▸ sgn_is (c := c) lit123 rfl) XsOk.nil) h5)))
theorem TOk.of {k nm σ δ t a b δ'} (h : TOk k nm σ δ t a δ') (e : a = b) : TOk k nm σ δ t b δ' := e ▸ h

theorem value_null {k δ x} (hx : x.length < 2 ^ 24) {i : Nat} {r} (h : At x i (wNull ++ r)) : CallOk (k + 1) 71 [.str x, .int i] δ (.ok (.tuple [.none, .int (i + 4 : Nat)])) δ := by
  have hxl : x.length ≤ sizeLine := by rw [sizeLine_eq]; omega
  refine value_other hx (c := 110) (r := 117 :: 108 :: 108 :: r) h (by decide) (XsOk.ifRet (δ1 := δ) ((slice_test 4 hxl h litNull rfl).of rfl) (XsOk.retR ?_))
  exact EvOk.tuple (EvLOk.cons EvOk.none (EvLOk.cons (EvOk.bin (EvOk.name (av := .int (i : Nat)) rfl) EvOk.int BOk.addL) EvLOk.nil)) (by show 2 ≤ sizeLine; decide)
theorem value_true {k δ x} (hx : x.length < 2 ^ 24) {i : Nat} {r} (h : At x i (wTrue ++ r)) : CallOk (k + 1) 71 [.str x, .int i] δ (.ok (.tuple [.bool true, .int (i + 4 : Nat)])) δ := by
  have hxl : x.length ≤ sizeLine := by rw [sizeLine_eq]; omega
  refine value_other hx (c := 116) (r := 114 :: 117 :: 101 :: r) h (by decide) (XsOk.cons (δ1 := δ) (XOk.ifF (δ1 := δ) ((slice_test 4 hxl h litNull rfl).of rfl) XsOk.nil) (XsOk.ifRet (δ1 := δ) ((slice_test 4 hxl h litTrue rfl).of rfl) (XsOk.retR ?_)))
  exact EvOk.tuple (EvLOk.cons EvOk.bool (EvLOk.cons (EvOk.bin (EvOk.name (av := .int (i : Nat)) rfl) EvOk.int BOk.addL) EvLOk.nil)) (by show 2 ≤ sizeLine; decide)
theorem value_false {k δ x} (hx : x.length < 2 ^ 24) {i : Nat} {r} (h : At x i (wFalse ++ r)) : CallOk (k + 1) 71 [.str x, .int i] δ (.ok (.tuple [.bool false, .int (i + 5 : Nat)])) δ := by
  have hxl : x.length ≤ sizeLine := by rw [sizeLine_eq]; omega
  refine value_other hx (c := 102) (r := 97 :: 108 :: 115 :: 101 :: r) h (by decide) (XsOk.cons (δ1 := δ) (XOk.ifF (δ1 := δ) ((slice_test 4 hxl h litNull rfl).of rfl) XsOk.nil) (XsOk.cons (δ1 := δ) (XOk.ifF (δ1 := δ) ((slice_test 4 hxl h litTrue rfl).of rfl) XsOk.nil)
    (XsOk.ifRet (δ1 := δ) ((slice_test 5 hxl h litFalse rfl).of rfl) (XsOk.retR ?_))))
  exact EvOk.tuple (EvLOk.cons EvOk.bool (EvLOk.cons (EvOk.bin (EvOk.name (av := .int (i : Nat)) rfl) EvOk.int BOk.addL) EvLOk.nil)) (by show 2 ≤ sizeLine; decide)
/-- a number, or nothing at all -/
theorem value_num {k δ δ' x} (hx : x.length < 2 ^ 24) {i c : Nat} {r res} (h : At x i (c :: r)) (hc : c ≠ 34 ∧ c ≠ 91 ∧ c ≠ 123) (h1 : (c :: r).take 4 ≠ wNull) (h2 : (c :: r).take 4 ≠ wTrue) (h3 : (c :: r).take 5 ≠ wFalse)
    (hn : CallOk k 64 [.str x, .int i] δ res δ') : CallOk (k + 1) 71 [.str x, .int i] δ res δ' := by
  have hxl : x.length ≤ sizeLine := by rw [sizeLine_eq]; omega
  refine value_other hx h hc (XsOk.cons (δ1 := δ) (XOk.ifF (δ1 := δ) ((slice_test 4 hxl h litNull rfl).of (decide_eq_false h1)) XsOk.nil) (XsOk.cons (δ1 := δ) (XOk.ifF (δ1 := δ) ((slice_test 4 hxl h litTrue rfl).of (decide_eq_false h2)) XsOk.nil)
    (XsOk.cons (δ1 := δ) (XOk.ifF (δ1 := δ) ((slice_test 5 hxl h litFalse rfl).of (decide_eq_false h3)) XsOk.nil) (XsOk.retR ?_))))
  exact EvOk.call gn_json_number_at rfl fn_64 (EvLOk.cons (EvOk.name rfl) (EvLOk.cons (EvOk.name rfl) EvLOk.nil)) hn
end Mine

namespace Mine
set_option maxRecDepth 100000

/-! ## json_list_at -/
theorem def_78 : DefAt 78 (fdOf 78) ["text", "at"] (bodyOf 78) := ⟨fun _ => rfl, fun _ => rfl, rfl, rfl, rfl, rfl, rfl, rfl, rfl, by decide⟩
noncomputable abbrev nm78 : List (Str × NameKind) := (fdOf 78).scope.names
noncomputable def lisT : Expr := wT (stAt (bodyOf 78) 2)
noncomputable def lisB : List Stmt := wB (stAt (bodyOf 78) 2)
noncomputable def lisL (x : Str) (i : Nat) (vs : List AV) : Loc := [("text", .val (.str x)), ("at", .val (.int i)), ("found", .own vs)]
noncomputable def lisV (x : Str) (i : Nat) (vs : List AV) (v : AV) : Loc := [("text", .val (.str x)), ("at", .val (.int i)), ("found", .own vs), ("value", .val v)]
noncomputable def lisS (x : Str) (i : Nat) (vs : List AV) (v : AV) (s : Str) : Loc := [("text", .val (.str x)), ("at", .val (.int i)), ("found", .own vs), ("value", .val v), ("sign", .val (.str s))]
theorem lisT_true {k ℓ δ} : TOk k nm78 (peek ℓ) δ lisT true δ := by
  show TOk k nm78 (peek ℓ) δ (.Constant (.bool true) _ _) true δ
  exact TOk.val EvOk.bool

theorem spaceF_le {x : Str} {i : Nat} (h : i ≤ x.length) : i ≤ spaceF x i ∧ spaceF x i ≤ x.length := by
  have := (At.spaced (x := x) (i := i) ⟨rfl, h⟩).le
  unfold spaceF at *
  omega
theorem spaceF_le' {x : Str} {i : Nat} (h : i ≤ x.length + 1) : spaceF x i ≤ x.length + 1 := by
  by_cases h' : i ≤ x.length
  · have := spaceF_le h'; omega
  · rw [spaceF_end (by omega)]; exact h

/-- the sign that stands at e, or nothing -/
noncomputable def signAt (l : List Nat) : Str := ⟨(l.take 1).toArray⟩

/-- a value read, and what stands behind it -/
theorem list_turn {k δ x} (hx : x.length < 2 ^ 24) {i j e : Nat} {v : AV} {vs : List AV} {l o ℓ'} (hc : CallOk (k + 1) 71 [.str x, .int i] δ (.ok (.tuple [v, .int j])) δ) (hj : j ≤ x.length) (he : spaceF x j = e) (h : At x e l) (hn : vs.length ≤ 2 ^ 24)
    (hr : XsOk (k + 1) nm78 (lisS x (spaceF x (e + 1)) (vs ++ [v]) v (signAt l)) δ (lisB.drop 5) o ℓ' δ) : XsOk (k + 1) nm78 (lisL x i vs) δ lisB o ℓ' δ := by
  have hxl : x.length ≤ sizeLine := by rw [sizeLine_eq]; omega
  have hle := h.le
  refine XsOk.cons (ℓ1 := lisV x j vs v) (δ1 := δ) (XOk.unpackT [("value", _), ("at", _)] rfl (EvOk.call gn_json_value_at rfl fn_71 (EvLOk.cons (EvOk.name rfl) (EvLOk.cons (EvOk.name rfl) EvLOk.nil)) hc) (by decide) rfl)
    (XsOk.cons (ℓ1 := lisV x j (vs ++ [v]) v) (δ1 := δ) (XOk.append (av := v) rfl (EvOk.name rfl) (by rw [sizeLine_eq]; omega))
      (XsOk.cons (ℓ1 := lisV x e (vs ++ [v]) v) (δ1 := δ) (XOk.assign (av := .int e) ?g1 rfl)
        (XsOk.cons (ℓ1 := lisS x e (vs ++ [v]) v (signAt l)) (δ1 := δ) (XOk.assign (av := .str (signAt l)) ?g2 rfl)
          (XsOk.cons (δ1 := δ) (XOk.assign (av := .int (spaceF x (e + 1))) ?g3 rfl) hr))))
  case g1 =>
    rw [← he]
    exact EvOk.call gn_json_space rfl fn_43 (EvLOk.cons (EvOk.name rfl) (EvLOk.cons (EvOk.name rfl) EvLOk.nil)) ((space_ok (by omega) j (by omega)).mono (by omega))
  case g2 =>
    have e1 : signAt l = subS x e (e + 1) := by rw [h.sub]; rfl
    rw [e1]
    exact EvOk.slice (EvOk.name (av := .str x) rfl) (EvOk.name (av := .int (e : Nat)) rfl) (EvOk.bin (EvOk.name (av := .int (e : Nat)) rfl) EvOk.int BOk.addL) (Nat.le_add_right _ _) hxl
  case g3 =>
    exact EvOk.call gn_json_space rfl fn_43 (EvLOk.cons (EvOk.name rfl) (EvLOk.cons (EvOk.bin (EvOk.name (av := .int (e : Nat)) rfl) EvOk.int BOk.addL) EvLOk.nil)) ((space_ok (by omega) (e + 1) (by omega)).mono (by omega))

theorem list_more {k δ x} (hx : x.length < 2 ^ 24) {i j e : Nat} {v : AV} {vs : List AV} {l} (hc : CallOk (k + 1) 71 [.str x, .int i] δ (.ok (.tuple [v, .int j])) δ) (hj : j ≤ x.length) (he : spaceF x j = e) (h : At x e (44 :: l)) (hn : vs.length ≤ 2 ^ 24) :
    XsOk (k + 1) nm78 (lisL x i vs) δ lisB .next (lisL x (spaceF x (e + 1)) (vs ++ [v])) δ := by
  refine XsOk.forget (list_turn (ℓ' := lisS x (spaceF x (e + 1)) (vs ++ [v]) v (sg 44)) hx hc hj he h hn ?_) (.cons rfl (.cons rfl (.cons rfl .nil)))
  refine XsOk.cons (δ1 := δ) (XOk.ifF (δ1 := δ) (TOk.cmp' (EvOk.name (av := .str (sg 44)) rfl) EvOk.str POk.eqS (by rw [lit93, sg_eq]; rfl)) XsOk.nil) (XsOk.cons (δ1 := δ) (XOk.ifF (δ1 := δ) (TOk.cmp' (EvOk.name (av := .str (sg 44)) rfl) EvOk.str POk.neS (by rw [lit44, sg_ne]; rfl)) XsOk.nil) XsOk.nil)
theorem list_last {k δ x} (hx : x.length < 2 ^ 24) {i j e : Nat} {v : AV} {vs : List AV} {l} (hc : CallOk (k + 1) 71 [.str x, .int i] δ (.ok (.tuple [v, .int j])) δ) (hj : j ≤ x.length) (he : spaceF x j = e) (h : At x e (93 :: l)) (hn : vs.length ≤ 2 ^ 24) :
    XsOk (k + 1) nm78 (lisL x i vs) δ lisB (.ret (.tuple [.list (vs ++ [v]), .int (spaceF x (e + 1))])) (lisS x (spaceF x (e + 1)) (vs ++ [v]) v (sg 93)) δ := by
  refine list_turn hx hc hj he h hn ?_
  refine XsOk.ret (XOk.ifT (δ1 := δ) (TOk.cmp' (EvOk.name (av := .str (sg 93)) rfl) EvOk.str POk.eqS (by rw [lit93, sg_eq]; rfl)) (XsOk.ret (XOk.ret ?_)))
  exact EvOk.tuple (EvLOk.cons (EvOk.name rfl) (EvLOk.cons (EvOk.name rfl) EvLOk.nil)) (by show 2 ≤ sizeLine; decide)
theorem list_cut {k δ x} (hx : x.length < 2 ^ 24) {i j e : Nat} {v : AV} {vs : List AV} (hc : CallOk (k + 1) 71 [.str x, .int i] δ (.ok (.tuple [v, .int j])) δ) (hj : j ≤ x.length) (he : spaceF x j = e) (h : At x e []) (hn : vs.length ≤ 2 ^ 24) :
    XsOk (k + 1) nm78 (lisL x i vs) δ lisB (.exc "ValueError") (lisS x (spaceF x (e + 1)) (vs ++ [v]) v ⟨#[]⟩) δ := by
  refine list_turn hx hc hj he h hn ?_
  refine XsOk.cons (δ1 := δ) (XOk.ifF (δ1 := δ) (TOk.cmp' (EvOk.name (av := .str ⟨#[]⟩) rfl) EvOk.str POk.eqS (by rw [lit93]; rfl)) XsOk.nil) (XsOk.exc (XOk.ifT (δ1 := δ) (TOk.cmp' (EvOk.name (av := .str ⟨#[]⟩) rfl) EvOk.str POk.neS (by rw [lit44]; rfl)) (XsOk.raiseV rfl)))
theorem list_exc {k δ x} {i : Nat} {vs : List AV} (hc : CallOk (k + 1) 71 [.str x, .int i] δ (.exc "ValueError") δ) : XsOk (k + 1) nm78 (lisL x i vs) δ lisB (.exc "ValueError") (lisL x i vs) δ :=
  XsOk.exc (XOk.unpackExc (EvOk.call gn_json_value_at rfl fn_71 (EvLOk.cons (EvOk.name rfl) (EvLOk.cons (EvOk.name rfl) EvLOk.nil)) hc))

/-- the whole def, from its loop -/
theorem list_def {k δ x} (hx : x.length < 2 ^ 24) {i : Nat} {l o ℓ' res} (h : At x i l) (hl : l.head? ≠ some 93) (ho : o.res = some res) (hne : o ≠ .next) (hw : WOk (k + 1) nm78 (lisL x i []) δ (.whileLoop lisT lisB []) o ℓ' δ) : CallOk (k + 2) 78 [.str x, .int i] δ res δ := by
  have hxl : x.length ≤ sizeLine := by rw [sizeLine_eq]; omega
  refine CallOk.plain (o := o) (ℓ' := ℓ') def_78 (by decide) (by decide) rfl (fun s vals hv => ?_) ?_ ho
  · match vals, hv with
    | [a, b], _ => exact BindsTo.of_eq rfl
  refine XsOk.cons (ℓ1 := lisL x i []) (δ1 := δ) (XOk.assignOwn EvLOk.nil rfl (Nat.zero_le _)) (XsOk.cons (δ1 := δ) (XOk.ifF (δ1 := δ) ?g1 XsOk.nil) (XsOk.one (XOk.while hw)))
  have e : (subS x i (i + 1) == Str.ofString "]") = false := by
    rw [h.sub, lit93]
    refine beq_eq_false_iff_ne.mpr fun q => hl ?_
    have := congrArg (fun s : Str => s.cps.toList) q
    cases l with
    | nil => simp at this
    | cons c r => simp at this; simp [this]
  exact TOk.cmp' (EvOk.slice (EvOk.name (av := .str x) rfl) (EvOk.name (av := .int (i : Nat)) rfl) (EvOk.bin (EvOk.name (av := .int (i : Nat)) rfl) EvOk.int BOk.addL) (Nat.le_add_right _ _) hxl) EvOk.str POk.eqS e
theorem list_none {k δ x} (hx : x.length < 2 ^ 24) {i : Nat} {l} (h : At x i (93 :: l)) : CallOk (k + 2) 78 [.str x, .int i] δ (.ok (.tuple [.list [], .int (i + 1 : Nat)])) δ := by
  have hxl : x.length ≤ sizeLine := by rw [sizeLine_eq]; omega
  refine CallOk.plain (o := .ret (.tuple [.list [], .int (i + 1 : Nat)])) (ℓ' := lisL x i []) def_78 (by decide) (by decide) rfl (fun s vals hv => ?_) ?_ rfl
  · match vals, hv with
    | [a, b], _ => exact BindsTo.of_eq rfl
  refine XsOk.cons (ℓ1 := lisL x i []) (δ1 := δ) (XOk.assignOwn EvLOk.nil rfl (Nat.zero_le _)) (XsOk.ret (XOk.ifT (δ1 := δ) ?g1 (XsOk.ret (XOk.ret ?g2))))
  case g1 =>
    exact TOk.cmp' (EvOk.slice (EvOk.name (av := .str x) rfl) (EvOk.name (av := .int (i : Nat)) rfl) (EvOk.bin (EvOk.name (av := .int (i : Nat)) rfl) EvOk.int BOk.addL) (Nat.le_add_right _ _) hxl) EvOk.str POk.eqS (by rw [h.sub, lit93]; rfl)
  case g2 =>
    exact EvOk.tuple (EvLOk.cons (EvOk.name rfl) (EvLOk.cons (EvOk.bin (EvOk.name (av := .int (i : Nat)) rfl) EvOk.int BOk.addL) EvLOk.nil)) (by show 2 ≤ sizeLine; decide)
end Mine

namespace Mine
set_option maxRecDepth 100000

/-! ## json_dict_at -/
theorem def_85 : DefAt 85 (fdOf 85) ["text", "at"] (bodyOf 85) := ⟨fun _ => rfl, fun _ => rfl, rfl, rfl, rfl, rfl, rfl, rfl, rfl, by decide⟩
noncomputable abbrev nm85 : List (Str × NameKind) := (fdOf 85).scope.names
noncomputable def dicT : Expr := wT (stAt (bodyOf 85) 2)
noncomputable def dicB : List Stmt := wB (stAt (bodyOf 85) 2)
noncomputable def dicL (x : Str) (i : Nat) (es : List (Str × AV)) : Loc := [("text", .val (.str x)), ("at", .val (.int i)), ("found", .ownD es)]
noncomputable def dicK (x : Str) (i : Nat) (es : List (Str × AV)) (key : Str) : Loc := [("text", .val (.str x)), ("at", .val (.int i)), ("found", .ownD es), ("key", .val (.str key))]
noncomputable def dicV (x : Str) (i : Nat) (es : List (Str × AV)) (key : Str) (v : AV) : Loc := [("text", .val (.str x)), ("at", .val (.int i)), ("found", .ownD es), ("key", .val (.str key)), ("value", .val v)]
noncomputable def dicS (x : Str) (i : Nat) (es : List (Str × AV)) (key : Str) (v : AV) (s : Str) : Loc := [("text", .val (.str x)), ("at", .val (.int i)), ("found", .ownD es), ("key", .val (.str key)), ("value", .val v), ("sign", .val (.str s))]
theorem dicT_true {k ℓ δ} : TOk k nm85 (peek ℓ) δ dicT true δ := by
  show TOk k nm85 (peek ℓ) δ (.Constant (.bool true) _ _) true δ
  exact TOk.val EvOk.bool

/-- text[at:at+1] -/
theorem one_slice {k nm δ x i l σ p1 p2 p3 p4 p5 p6 a1 q} (hxl : x.length ≤ sizeLine) (h : At x i l) (ht : σ.lookup (Str.ofString "text") = some (.str x)) (ha : σ.lookup (Str.ofString "at") = some (.int (i : Nat))) :
    EvOk k nm σ δ (.Subscript (.Name "text" p1) (.Slice (some (.Name "at" p2)) (some (.BinOp (.Name "at" p3) .Add (.Constant (.int 1) a1 p4) p5)) Option.none p6) q) (.ok (.str (signAt l))) δ := by
  have e1 : signAt l = subS x i (i + 1) := by rw [h.sub]; rfl
  rw [e1]
  exact EvOk.slice (EvOk.name ht) (EvOk.name ha) (EvOk.bin (EvOk.name ha) EvOk.int BOk.addL) (Nat.le_add_right _ _) hxl
theorem signAt_cons {c l} : signAt (c :: l) = sg c := rfl
theorem signAt_nil : signAt [] = ⟨#[]⟩ := rfl
theorem at_space {k nm δ x i σ np pos p1 p2} (hx : x.length < 2 ^ 24) (hi : i ≤ x.length + 1) (hn : nm.lookup (Str.ofString "json_space") = some .globalImplicit) (ht : σ.lookup (Str.ofString "text") = some (.str x)) (ha : σ.lookup (Str.ofString "at") = some (.int (i : Nat))) :
    EvOk (k + 1) nm σ δ (.Call (.Name "json_space" np) [.Name "text" p1, .Name "at" p2] [] pos) (.ok (.int (spaceF x i))) δ :=
  EvOk.call gn_json_space hn fn_43 (EvLOk.cons (EvOk.name ht) (EvLOk.cons (EvOk.name ha) EvLOk.nil)) ((space_ok (by omega) i (by omega)).mono (by omega))
theorem at_space1 {k nm δ x i σ np pos p1 p2 p3 p4 a1} (hx : x.length < 2 ^ 24) (hi : i ≤ x.length + 1) (hn : nm.lookup (Str.ofString "json_space") = some .globalImplicit) (ht : σ.lookup (Str.ofString "text") = some (.str x)) (ha : σ.lookup (Str.ofString "at") = some (.int (i : Nat))) :
    EvOk (k + 1) nm σ δ (.Call (.Name "json_space" np) [.Name "text" p1, .BinOp (.Name "at" p2) .Add (.Constant (.int 1) a1 p3) p4] [] pos) (.ok (.int (spaceF x (i + 1)))) δ :=
  EvOk.call gn_json_space hn fn_43 (EvLOk.cons (EvOk.name ht) (EvLOk.cons (EvOk.bin (EvOk.name ha) EvOk.int BOk.addL) EvLOk.nil)) ((space_ok (by omega) (i + 1) (by omega)).mono (by omega))

/-- up to the colon -/
theorem dict_key {k δ x} (hx : x.length < 2 ^ 24) {i j e : Nat} {key : Str} {es : List (Str × AV)} {t : List Nat} {o ℓ'} (h0 : At x i (34 :: t)) (hc : CallOk (k + 1) 57 [.str x, .int (i + 1 : Nat)] δ (.ok (.tuple [.str key, .int j])) δ) (hj : j ≤ x.length) (he : spaceF x j = e)
    (hr : XsOk (k + 1) nm85 (dicK x e es key) δ (dicB.drop 3) o ℓ' δ) : XsOk (k + 1) nm85 (dicL x i es) δ dicB o ℓ' δ := by
  have hxl : x.length ≤ sizeLine := by rw [sizeLine_eq]; omega
  refine XsOk.cons (ℓ1 := dicL x i es) (δ1 := δ) (XOk.ifF (δ1 := δ) ?g0 XsOk.nil) (XsOk.cons (ℓ1 := dicK x j es key) (δ1 := δ) (XOk.unpackT [("key", _), ("at", _)] rfl (EvOk.call gn_json_string_at rfl fn_57 (EvLOk.cons (EvOk.name rfl) (EvLOk.cons (EvOk.bin (EvOk.name (av := .int (i : Nat)) rfl) EvOk.int BOk.addL) EvLOk.nil)) hc) (by decide) rfl)
      (XsOk.cons (ℓ1 := dicK x e es key) (δ1 := δ) (XOk.assign (av := .int e) ?g1 rfl) hr))
  case g0 => exact TOk.cmp' (one_slice hxl h0 rfl rfl) EvOk.str POk.neS (by rw [lit34, signAt_cons, sg_ne]; rfl)
  case g1 => rw [← he]; exact at_space hx (by omega) rfl rfl rfl

/-- the value, and what stands behind it -/
theorem dict_val {k δ x} (hx : x.length < 2 ^ 24) {i j e : Nat} {key : Str} {v : AV} {es : List (Str × AV)} {l t o ℓ'} (h0 : At x i (58 :: t)) (hc : CallOk (k + 1) 71 [.str x, .int (spaceF x (i + 1))] δ (.ok (.tuple [v, .int j])) δ) (hj : j ≤ x.length) (he : spaceF x j = e) (h : At x e l)
    (hn : es.length ≤ 2 ^ 24) (hk : key ∉ es.map (·.1))
    (hr : XsOk (k + 1) nm85 (dicS x (spaceF x (e + 1)) (es ++ [(key, v)]) key v (signAt l)) δ (dicB.drop 9) o ℓ' δ) : XsOk (k + 1) nm85 (dicK x i es key) δ (dicB.drop 3) o ℓ' δ := by
  have hxl : x.length ≤ sizeLine := by rw [sizeLine_eq]; omega
  have hle := h.le
  have hl0 := h0.lt
  refine XsOk.cons (ℓ1 := dicK x i es key) (δ1 := δ) (XOk.ifF (δ1 := δ) ?g0 XsOk.nil) (XsOk.cons (ℓ1 := dicV x j es key v) (δ1 := δ) (XOk.unpackT [("value", _), ("at", _)] rfl (EvOk.call gn_json_value_at rfl fn_71 (EvLOk.cons (EvOk.name rfl) (EvLOk.cons (at_space1 hx (by omega) rfl rfl rfl) EvLOk.nil)) hc) (by decide) rfl)
      (XsOk.cons (ℓ1 := dicV x j (es ++ [(key, v)]) key v) (δ1 := δ) (XOk.store (av := v) rfl (EvOk.name rfl) (EvOk.name rfl) hk (by rw [sizeLine_eq]; omega))
        (XsOk.cons (ℓ1 := dicV x e (es ++ [(key, v)]) key v) (δ1 := δ) (XOk.assign (av := .int e) ?g1 rfl)
          (XsOk.cons (ℓ1 := dicS x e (es ++ [(key, v)]) key v (signAt l)) (δ1 := δ) (XOk.assign (av := .str (signAt l)) (one_slice hxl h rfl rfl) rfl)
            (XsOk.cons (δ1 := δ) (XOk.assign (av := .int (spaceF x (e + 1))) (at_space1 hx (by omega) rfl rfl rfl) rfl) hr)))))
  case g0 => exact TOk.cmp' (one_slice hxl h0 rfl rfl) EvOk.str POk.neS (by rw [lit58, signAt_cons, sg_ne]; rfl)
  case g1 => rw [← he]; exact at_space hx (by omega) rfl rfl rfl

theorem dict_more {k δ x i es key v} : XsOk (k + 1) nm85 (dicS x i es key v (sg 44)) δ (dicB.drop 9) .next (dicL x i es) δ :=
  XsOk.forget (ℓ2 := dicS x i es key v (sg 44)) (XsOk.cons (δ1 := δ) (XOk.ifF (δ1 := δ) (TOk.cmp' (EvOk.name (av := .str (sg 44)) rfl) EvOk.str POk.eqS (by rw [lit125, sg_eq]; rfl)) XsOk.nil) (XsOk.cons (δ1 := δ) (XOk.ifF (δ1 := δ) (TOk.cmp' (EvOk.name (av := .str (sg 44)) rfl) EvOk.str POk.neS (by rw [lit44, sg_ne]; rfl)) XsOk.nil) XsOk.nil)) (.cons rfl (.cons rfl (.cons rfl .nil)))
theorem dict_last {k δ x es key v} {i : Nat} : XsOk (k + 1) nm85 (dicS x i es key v (sg 125)) δ (dicB.drop 9) (.ret (.tuple [.dict es, .int i])) (dicS x i es key v (sg 125)) δ := by
  refine XsOk.ret (XOk.ifT (δ1 := δ) (TOk.cmp' (EvOk.name (av := .str (sg 125)) rfl) EvOk.str POk.eqS (by rw [lit125, sg_eq]; rfl)) (XsOk.ret (XOk.ret ?_)))
  exact EvOk.tuple (EvLOk.cons (EvOk.name rfl) (EvLOk.cons (EvOk.name rfl) EvLOk.nil)) (by show 2 ≤ sizeLine; decide)
theorem dict_cut {k δ x i es key v} : XsOk (k + 1) nm85 (dicS x i es key v (signAt [])) δ (dicB.drop 9) (.exc "ValueError") (dicS x i es key v (signAt [])) δ :=
  XsOk.cons (δ1 := δ) (XOk.ifF (δ1 := δ) (TOk.cmp' (EvOk.name (av := .str ⟨#[]⟩) rfl) EvOk.str POk.eqS (by rw [lit125]; rfl)) XsOk.nil) (XsOk.exc (XOk.ifT (δ1 := δ) (TOk.cmp' (EvOk.name (av := .str ⟨#[]⟩) rfl) EvOk.str POk.neS (by rw [lit44]; rfl)) (XsOk.raiseV rfl)))
/-- cut off ahead of a key, in a key, ahead of the colon, in a value -/
theorem dict_noKey {k δ x} (hx : x.length < 2 ^ 24) {i : Nat} {es} (h : At x i []) : XsOk (k + 1) nm85 (dicL x i es) δ dicB (.exc "ValueError") (dicL x i es) δ := by
  have hxl : x.length ≤ sizeLine := by rw [sizeLine_eq]; omega
  exact XsOk.exc (XOk.ifT (δ1 := δ) (TOk.cmp' (one_slice hxl h rfl rfl) EvOk.str POk.neS (by rw [lit34]; rfl)) (XsOk.raiseV rfl))
theorem dict_badKey {k δ x} (hx : x.length < 2 ^ 24) {i : Nat} {es t} (h0 : At x i (34 :: t)) (hc : CallOk (k + 1) 57 [.str x, .int (i + 1 : Nat)] δ (.exc "ValueError") δ) : XsOk (k + 1) nm85 (dicL x i es) δ dicB (.exc "ValueError") (dicL x i es) δ := by
  have hxl : x.length ≤ sizeLine := by rw [sizeLine_eq]; omega
  refine XsOk.cons (ℓ1 := dicL x i es) (δ1 := δ) (XOk.ifF (δ1 := δ) ?g0 XsOk.nil) (XsOk.exc (XOk.unpackExc (EvOk.call gn_json_string_at rfl fn_57 (EvLOk.cons (EvOk.name rfl) (EvLOk.cons (EvOk.bin (EvOk.name (av := .int (i : Nat)) rfl) EvOk.int BOk.addL) EvLOk.nil)) hc)))
  case g0 => exact TOk.cmp' (one_slice hxl h0 rfl rfl) EvOk.str POk.neS (by rw [lit34, signAt_cons, sg_ne]; rfl)
theorem dict_noColon {k δ x} (hx : x.length < 2 ^ 24) {i : Nat} {es key} (h : At x i []) : XsOk (k + 1) nm85 (dicK x i es key) δ (dicB.drop 3) (.exc "ValueError") (dicK x i es key) δ := by
  have hxl : x.length ≤ sizeLine := by rw [sizeLine_eq]; omega
  exact XsOk.exc (XOk.ifT (δ1 := δ) (TOk.cmp' (one_slice hxl h rfl rfl) EvOk.str POk.neS (by rw [lit58]; rfl)) (XsOk.raiseV rfl))
theorem dict_badVal {k δ x} (hx : x.length < 2 ^ 24) {i : Nat} {es key t} (h0 : At x i (58 :: t)) (hc : CallOk (k + 1) 71 [.str x, .int (spaceF x (i + 1))] δ (.exc "ValueError") δ) : XsOk (k + 1) nm85 (dicK x i es key) δ (dicB.drop 3) (.exc "ValueError") (dicK x i es key) δ := by
  have hxl : x.length ≤ sizeLine := by rw [sizeLine_eq]; omega
  have hl0 := h0.lt
  refine XsOk.cons (ℓ1 := dicK x i es key) (δ1 := δ) (XOk.ifF (δ1 := δ) ?g0 XsOk.nil) (XsOk.exc (XOk.unpackExc (EvOk.call gn_json_value_at rfl fn_71 (EvLOk.cons (EvOk.name rfl) (EvLOk.cons (at_space1 hx (by omega) rfl rfl rfl) EvLOk.nil)) hc)))
  case g0 => exact TOk.cmp' (one_slice hxl h0 rfl rfl) EvOk.str POk.neS (by rw [lit58, signAt_cons, sg_ne]; rfl)

theorem dict_def {k δ x} (hx : x.length < 2 ^ 24) {i : Nat} {l o ℓ' res} (h : At x i l) (hl : l.head? ≠ some 125) (ho : o.res = some res) (hw : WOk (k + 1) nm85 (dicL x i []) δ (.whileLoop dicT dicB []) o ℓ' δ) : CallOk (k + 2) 85 [.str x, .int i] δ res δ := by
  have hxl : x.length ≤ sizeLine := by rw [sizeLine_eq]; omega
  refine CallOk.plain (o := o) (ℓ' := ℓ') def_85 (by decide) (by decide) rfl (fun s vals hv => ?_) ?_ ho
  · match vals, hv with
    | [a, b], _ => exact BindsTo.of_eq rfl
  refine XsOk.cons (ℓ1 := dicL x i []) (δ1 := δ) (XOk.assignOwnD rfl) (XsOk.cons (δ1 := δ) (XOk.ifF (δ1 := δ) ?g1 XsOk.nil) (XsOk.one (XOk.while hw)))
  have e : (signAt l == Str.ofString "}") = false := by
    rw [lit125]
    refine beq_eq_false_iff_ne.mpr fun q => hl ?_
    have := congrArg (fun s : Str => s.cps.toList) q
    cases l with
    | nil => simp [signAt] at this
    | cons c r => simp [signAt] at this; simp [this]
  exact TOk.cmp' (one_slice hxl h rfl rfl) EvOk.str POk.eqS e
theorem dict_none {k δ x} (hx : x.length < 2 ^ 24) {i : Nat} {l} (h : At x i (125 :: l)) : CallOk (k + 2) 85 [.str x, .int i] δ (.ok (.tuple [.dict [], .int (i + 1 : Nat)])) δ := by
  have hxl : x.length ≤ sizeLine := by rw [sizeLine_eq]; omega
  refine CallOk.plain (o := .ret (.tuple [.dict [], .int (i + 1 : Nat)])) (ℓ' := dicL x i []) def_85 (by decide) (by decide) rfl (fun s vals hv => ?_) ?_ rfl
  · match vals, hv with
    | [a, b], _ => exact BindsTo.of_eq rfl
  refine XsOk.cons (ℓ1 := dicL x i []) (δ1 := δ) (XOk.assignOwnD rfl) (XsOk.ret (XOk.ifT (δ1 := δ) (TOk.cmp' (one_slice hxl h rfl rfl) EvOk.str POk.eqS (by rw [lit125]; rfl)) (XsOk.ret (XOk.ret ?g2))))
  exact EvOk.tuple (EvLOk.cons (EvOk.name rfl) (EvLOk.cons (EvOk.bin (EvOk.name (av := .int (i : Nat)) rfl) EvOk.int BOk.addL) EvLOk.nil)) (by show 2 ≤ sizeLine; decide)
end Mine

namespace Mine
set_option maxRecDepth 100000

/-! ## texts as trees -/
mutual
inductive JT where
  | null | tru | fls
  | num (neg : Bool) (ds : List Nat) (n : Int)
  | str (ps : List Pc)
  | list (b0 : List Nat) (its : JL)
  | dict (b0 : List Nat) (es : JD)
inductive JL where
  | nil
  | cons (a : List Nat) (t : JT) (b : List Nat) (r : JL)
inductive JD where
  | nil
  | cons (a : List Nat) (ps : List Pc) (b c : List Nat) (t : JT) (d : List Nat) (r : JD)
end

mutual
noncomputable def JT.text : JT → List Nat
  | .null => wNull
  | .tru => wTrue
  | .fls => wFalse
  | .num neg ds _ => pre neg ++ ds
  | .str ps => 34 :: (textOf ps ++ [34])
  | .list b0 its => 91 :: its.open b0
  | .dict b0 es => 123 :: es.open b0
noncomputable def JL.open : JL → List Nat → List Nat
  | .nil, b0 => b0 ++ [93]
  | .cons a t b r, _ => a ++ (t.text ++ (b ++ r.rest))
noncomputable def JL.rest : JL → List Nat
  | .nil => [93]
  | .cons a t b r => 44 :: (a ++ (t.text ++ (b ++ r.rest)))
noncomputable def JD.open : JD → List Nat → List Nat
  | .nil, b0 => b0 ++ [125]
  | .cons a ps b c t d r, _ => a ++ (34 :: (textOf ps ++ 34 :: (b ++ 58 :: (c ++ (t.text ++ (d ++ r.rest))))))
noncomputable def JD.rest : JD → List Nat
  | .nil => [125]
  | .cons a ps b c t d r => 44 :: (a ++ (34 :: (textOf ps ++ 34 :: (b ++ 58 :: (c ++ (t.text ++ (d ++ r.rest)))))))
end

noncomputable def keyOf (ps : List Pc) : Str := ⟨(valOf ps).toArray⟩
mutual
noncomputable def JT.val : JT → AV
  | .null => .none
  | .tru => .bool true
  | .fls => .bool false
  | .num _ _ n => .int n
  | .str ps => .str (keyOf ps)
  | .list _ its => .list its.vals
  | .dict _ es => .dict es.vals
noncomputable def JL.vals : JL → List AV
  | .nil => []
  | .cons _ t _ r => t.val :: r.vals
noncomputable def JD.vals : JD → List (Str × AV)
  | .nil => []
  | .cons _ ps _ _ t _ r => (keyOf ps, t.val) :: r.vals
end

noncomputable def Blk (b : List Nat) : Prop := ∀ c ∈ b, blank c = true
noncomputable def PsOk (ps : List Pc) : Prop := (∀ p ∈ ps, p.ok) ∧ ps.length < 1000
noncomputable def NumOk (neg : Bool) (ds : List Nat) (n : Int) : Prop :=
  (∀ c ∈ ds, isDig c = true) ∧ ds ≠ [] ∧ (ds.head? = some 48 → ds = [48]) ∧ PySem.intText? ⟨(pre neg ++ ds).toArray⟩ = some n ∧ ds.length ≤ 600
mutual
noncomputable def JT.ok : JT → Prop
  | .null | .tru | .fls => True
  | .num neg ds n => NumOk neg ds n
  | .str ps => PsOk ps
  | .list b0 its => Blk b0 ∧ its.ok
  | .dict b0 es => Blk b0 ∧ es.ok []
noncomputable def JL.ok : JL → Prop
  | .nil => True
  | .cons a t b r => Blk a ∧ t.ok ∧ Blk b ∧ r.ok
noncomputable def JD.ok : JD → List Str → Prop
  | .nil, _ => True
  | .cons a ps b c t d r, prev => (Blk a ∧ Blk b ∧ Blk c ∧ Blk d) ∧ PsOk ps ∧ t.ok ∧ keyOf ps ∉ prev ∧ r.ok (prev ++ [keyOf ps])
end
mutual
noncomputable def JT.dep : JT → Nat
  | .list _ its => its.dep + 1
  | .dict _ es => es.dep + 1
  | _ => 0
noncomputable def JL.dep : JL → Nat
  | .nil => 0
  | .cons _ t _ r => max t.dep r.dep
noncomputable def JD.dep : JD → Nat
  | .nil => 0
  | .cons _ _ _ _ t _ r => max t.dep r.dep
end
noncomputable def JL.len : JL → Nat
  | .nil => 0
  | .cons _ _ _ r => r.len + 1
noncomputable def JD.len : JD → Nat
  | .nil => 0
  | .cons _ _ _ _ _ _ r => r.len + 1

theorem JL.len_le : ∀ its : JL, its.len ≤ its.rest.length
  | .nil => Nat.zero_le _
  | .cons a t b r => by have := JL.len_le r; simp [JL.len, JL.rest]; omega
theorem JD.len_le : ∀ es : JD, es.len ≤ es.rest.length
  | .nil => Nat.zero_le _
  | .cons a ps b c t d r => by have := JD.len_le r; simp [JD.len, JD.rest]; omega

/-! ## blanks skipped -/
theorem spaces_skip : ∀ {b : List Nat} {l : List Nat}, Blk b → (∀ c t, l = c :: t → blank c = false) → spaces (b ++ l) = b.length
  | [], [], _, _ => rfl
  | [], c :: t, _, h => by simp [spaces, h c t rfl]
  | d :: b, l, hb, h => by
    have h1 := hb d (List.mem_cons_self ..)
    have h2 := spaces_skip (b := b) (l := l) (fun c hc => hb c (List.mem_cons_of_mem _ hc)) h
    simp only [List.cons_append, spaces, h1, if_true, h2, List.length_cons]
theorem At.skip {x i b l} (h : At x i (b ++ l)) (hb : Blk b) (hl : ∀ c t, l = c :: t → blank c = false) : spaceF x i = i + b.length ∧ At x (i + b.length) l :=
  ⟨by rw [h.space, spaces_skip hb hl], h.app⟩
theorem spaceF_idem {x : Str} {i : Nat} : spaceF x (spaceF x i) = spaceF x i := by
  by_cases h : i ≤ x.length
  · have h1 := At.spaced (x := x) (i := i) ⟨rfl, h⟩
    have key : ∀ l : List Nat, spaces (l.drop (spaces l)) = 0 := by
      intro l
      induction l with
      | nil => rfl
      | cons c r ih =>
        by_cases hc : blank c = true
        · simp only [spaces, hc, if_true, List.drop_succ_cons]; exact ih
        · simp [spaces, hc]
    rw [h1.space, key]; rfl
  · rw [spaceF_end (i := i) (by omega), spaceF_end (by omega)]

/-- the first sign of a tree's text -/
theorem JT.head {t : JT} (h : t.ok) : ∃ c l, t.text = c :: l ∧ blank c = false ∧ c ≠ 93 ∧ c ≠ 125 := by
  cases t with
  | null => exact ⟨_, _, rfl, by decide⟩
  | tru => exact ⟨_, _, rfl, by decide⟩
  | fls => exact ⟨_, _, rfl, by decide⟩
  | num neg ds n =>
    obtain ⟨h1, h2, _⟩ := h
    cases neg with
    | true => exact ⟨45, ds, rfl, by decide⟩
    | false =>
      cases ds with
      | nil => exact absurd rfl h2
      | cons c r =>
        have := h1 c (List.mem_cons_self ..)
        simp only [isDig, decide_eq_true_eq] at this
        refine ⟨c, r, rfl, ?_, by omega, by omega⟩
        simp [blank]
        omega
  | str ps => exact ⟨_, _, rfl, by decide⟩
  | list b0 its => exact ⟨_, _, rfl, by decide⟩
  | dict b0 es => exact ⟨_, _, rfl, by decide⟩

theorem noDig_of {c : Nat} {t : List Nat} (h : isDig c = false ∧ isPoint c = false) : NoDig (c :: t) := fun _ _ e => by cases e; exact h
theorem noDig_nil : NoDig [] := fun _ _ e => nomatch e
theorem noDig_blk {b l : List Nat} (hb : Blk b) (hl : NoDig l) : NoDig (b ++ l) := by
  cases b with
  | nil => exact hl
  | cons c r =>
    refine noDig_of ?_
    have := hb c (List.mem_cons_self ..)
    simp only [blank, Bool.or_eq_true, beq_iff_eq] at this
    rcases this with ((h | h) | h) | h <;> subst h <;> decide
theorem JL.rest_head (r : JL) (l : List Nat) : NoDig (r.rest ++ l) ∧ ∀ c t, r.rest ++ l = c :: t → blank c = false := by
  cases r with
  | nil => exact ⟨noDig_of (by decide), fun c t e => by simp [JL.rest] at e; rw [← e.1]; rfl⟩
  | cons a t b r => exact ⟨noDig_of (by decide), fun c t e => by simp [JL.rest] at e; rw [← e.1]; rfl⟩
theorem JD.rest_head (r : JD) (l : List Nat) : NoDig (r.rest ++ l) ∧ ∀ c t, r.rest ++ l = c :: t → blank c = false := by
  cases r with
  | nil => exact ⟨noDig_of (by decide), fun c t e => by simp [JD.rest] at e; rw [← e.1]; rfl⟩
  | cons a ps b c t d r => exact ⟨noDig_of (by decide), fun c t e => by simp [JD.rest] at e; rw [← e.1]; rfl⟩
theorem JT.text_head {t : JT} (h : t.ok) (l : List Nat) : ∀ c s, t.text ++ l = c :: s → blank c = false := by
  obtain ⟨c, s, e, hb, _⟩ := JT.head h
  intro d s' e'
  rw [e] at e'
  simp at e'
  rw [← e'.1]; exact hb
end Mine

namespace Mine
set_option maxRecDepth 100000

noncomputable def ValAt (k : Nat) (x : Str) (i e : Nat) (v : AV) : Prop := ∃ j, (j = e ∨ j = spaceF x e) ∧ ∀ δ, CallOk k 71 [.str x, .int i] δ (.ok (.tuple [v, .int j])) δ

theorem value_num_ok {x} (hx : x.length < 2 ^ 24) {k i neg ds n r} (hk : 2 ≤ k) (h0 : NumOk neg ds n) (h : At x i (pre neg ++ (ds ++ r))) (hr : NoDig r) : ValAt k x i (i + (pre neg ++ ds).length) (.int n) := by
  obtain ⟨h1, h2, h3, h4, h5⟩ := h0
  refine ⟨_, .inl rfl, fun δ => ?_⟩
  have hn := num_ok (δ := δ) hx h h1 h2 h3 hr h4 h5
  obtain ⟨c, t, e, hc⟩ : ∃ c t, pre neg ++ (ds ++ r) = c :: t ∧ (c = 45 ∨ (48 ≤ c ∧ c ≤ 57)) := by
    cases neg with
    | true => exact ⟨45, ds ++ r, rfl, .inl rfl⟩
    | false =>
      cases ds with
      | nil => exact absurd rfl h2
      | cons c t =>
        have := h1 c (List.mem_cons_self ..)
        simp only [isDig, decide_eq_true_eq] at this
        exact ⟨c, t ++ r, rfl, .inr this⟩
  rw [e] at h
  have hne : ∀ d, (d = 110 ∨ d = 116 ∨ d = 102 ∨ d = 34 ∨ d = 91 ∨ d = 123) → c ≠ d := by omega
  refine (value_num hx h ⟨hne 34 (by simp), hne 91 (by simp), hne 123 (by simp)⟩ ?_ ?_ ?_ hn).mono (by omega)
  · intro q; simp [wNull] at q; exact hne 110 (by simp) q.1
  · intro q; simp [wTrue] at q; exact hne 116 (by simp) q.1
  · intro q; simp [wFalse] at q; exact hne 102 (by simp) q.1

theorem str_len' {ps : List Pc} (h : PsOk ps) : ps.length ≤ 2 ^ 24 := by have := h.2; omega

mutual
theorem value_ok {x} (hx : x.length < 2 ^ 24) : ∀ (t : JT), t.ok → ∀ {k i r}, 2 * t.dep + 3 ≤ k → At x i (t.text ++ r) → NoDig r → ValAt k x i (i + t.text.length) t.val
  | .null, _, k, i, r, hk, h, _ => ⟨_, .inl rfl, fun δ => (value_null (k := 0) hx h).mono (by omega)⟩
  | .tru, _, k, i, r, hk, h, _ => ⟨_, .inl rfl, fun δ => (value_true (k := 0) hx h).mono (by omega)⟩
  | .fls, _, k, i, r, hk, h, _ => ⟨_, .inl rfl, fun δ => (value_false (k := 0) hx h).mono (by omega)⟩
  | .num neg ds n, ho, k, i, r, hk, h, hr => value_num_ok hx (by simp only [JT.dep] at hk; omega) ho (by simpa [JT.text, List.append_assoc] using h) hr
  | .str ps, ho, k, i, r, hk, h, _ => by
    have h' : At x i (34 :: (textOf ps ++ 34 :: r)) := by simpa [JT.text] using h
    refine ⟨_, .inl rfl, fun δ => ?_⟩
    have hs := string_at_ok (δ := δ) hx ho.1 h'.tail (str_len' ho)
    have e : i + 1 + (textOf ps).length + 1 = i + (JT.str ps).text.length := by simp [JT.text]; omega
    rw [e] at hs
    exact (value_str hx h' hs).mono (by simp only [JT.dep] at hk; omega)
  | .list b0 .nil, ho, k, i, r, hk, h, _ => by
    have h' : At x i (91 :: (b0 ++ 93 :: r)) := by simpa [JT.text, JL.open] using h
    obtain ⟨e1, h1⟩ := h'.tail.skip ho.1 (fun c t e => by cases e; rfl)
    refine ⟨_, .inl rfl, fun δ => ?_⟩
    have hl := list_none (k := 0) (δ := δ) hx h1
    have e : i + 1 + b0.length + 1 = i + (JT.list b0 .nil).text.length := by simp [JT.text, JL.open]; omega
    rw [e] at hl
    rw [← e1] at hl
    exact (value_list hx h' hl).mono (by simp only [JT.dep] at hk; omega)
  | .list b0 (.cons a t b r'), ho, k, i, r, hk, h, _ => by
    have h' : At x i (91 :: (a ++ (t.text ++ (b ++ (r'.rest ++ r))))) := by simpa [JT.text, JL.open, List.append_assoc] using h
    have hoc : (JL.cons a t b r').ok := ho.2
    obtain ⟨ha, hto, hb, hro⟩ := hoc
    obtain ⟨e1, h1⟩ := h'.tail.skip ha (JT.text_head hto _)
    simp only [JT.dep] at hk
    obtain ⟨k', rfl⟩ : ∃ k', k = k' + 3 := ⟨k - 3, by omega⟩
    have hlen := h1.len
    have hll := (JL.cons a t b r').len_le
    have key := items_ok hx (.cons a t b r') ho.2 (k := k') (by omega) (i + 1 + a.length) [] r h1 (by simp [JL.rest] at hll hlen ⊢; omega)
    refine ⟨_, .inr rfl, fun δ => ?_⟩
    obtain ⟨ℓ', hw⟩ := key δ
    obtain ⟨c, s, ec, _, hc93, _⟩ := JT.head hto
    have hl := list_def (δ := δ) hx h1 (by rw [ec]; simpa using hc93) (o := .ret (.tuple [.list _, .int _])) rfl (by intro q; cases q) hw
    have e : i + 1 + a.length + (t.text ++ (b ++ r'.rest)).length = i + (JT.list b0 (.cons a t b r')).text.length := by simp [JT.text, JL.open]; omega
    rw [e] at hl
    rw [← e1] at hl
    exact value_list hx h' hl
  | .dict b0 .nil, ho, k, i, r, hk, h, _ => by
    have h' : At x i (123 :: (b0 ++ 125 :: r)) := by simpa [JT.text, JD.open] using h
    obtain ⟨e1, h1⟩ := h'.tail.skip ho.1 (fun c t e => by cases e; rfl)
    refine ⟨_, .inl rfl, fun δ => ?_⟩
    have hl := dict_none (k := 0) (δ := δ) hx h1
    have e : i + 1 + b0.length + 1 = i + (JT.dict b0 .nil).text.length := by simp [JT.text, JD.open]; omega
    rw [e] at hl
    rw [← e1] at hl
    exact (value_dict hx h' hl).mono (by simp only [JT.dep] at hk; omega)
  | .dict b0 (.cons a ps b c t d r'), ho, k, i, r, hk, h, _ => by
    have h' : At x i (123 :: (a ++ (34 :: (textOf ps ++ 34 :: (b ++ 58 :: (c ++ (t.text ++ (d ++ (r'.rest ++ r))))))))) := by simpa [JT.text, JD.open, List.append_assoc] using h
    have hoc : (JD.cons a ps b c t d r').ok [] := ho.2
    obtain ⟨⟨ha, _⟩, _⟩ := hoc
    obtain ⟨e1, h1⟩ := h'.tail.skip ha (fun c t e => by cases e; rfl)
    simp only [JT.dep] at hk
    obtain ⟨k', rfl⟩ : ∃ k', k = k' + 3 := ⟨k - 3, by omega⟩
    have hlen := h1.len
    have hll := (JD.cons a ps b c t d r').len_le
    have key := entries_ok hx (.cons a ps b c t d r') [] ho.2 (k := k') (by omega) (i + 1 + a.length) r h1 (by simp [JD.rest] at hll hlen ⊢; omega)
    refine ⟨_, .inr rfl, fun δ => ?_⟩
    obtain ⟨ℓ', hw⟩ := key δ
    have hl := dict_def (δ := δ) hx h1 (by simp) (o := .ret (.tuple [.dict _, .int _])) rfl hw
    have e : i + 1 + a.length + (34 :: (textOf ps ++ 34 :: (b ++ 58 :: (c ++ (t.text ++ (d ++ r'.rest)))))).length = i + (JT.dict b0 (.cons a ps b c t d r')).text.length := by simp [JT.text, JD.open]; omega
    rw [e] at hl
    rw [← e1] at hl
    exact value_dict hx h' hl
theorem items_ok {x} (hx : x.length < 2 ^ 24) : ∀ (its : JL), its.ok → ∀ {k}, 2 * its.dep + 2 ≤ k → ∀ (p : Nat) (vs : List AV) (rr : List Nat), match its with
    | .nil => True
    | .cons a t b r => At x p (t.text ++ (b ++ (r.rest ++ rr))) → vs.length + (JL.cons a t b r).len ≤ 2 ^ 24 →
      ∀ δ, ∃ ℓ', WOk (k + 1) nm78 (lisL x p vs) δ (.whileLoop lisT lisB []) (.ret (.tuple [.list (vs ++ (JL.cons a t b r).vals), .int (spaceF x (p + (t.text ++ (b ++ r.rest)).length))])) ℓ' δ
  | .nil, _, _, _, _, _, _ => trivial
  | .cons a t b r, ho, k, hk, p, vs, rr => by
    intro h hn δ
    obtain ⟨ha, hto, hb, hro⟩ := ho
    simp only [JL.dep] at hk
    simp only [JL.len] at hn
    obtain ⟨hrd, hrb⟩ := JL.rest_head r rr
    obtain ⟨j, hj, hc⟩ := value_ok hx t hto (k := k + 1) (by omega) h (noDig_blk hb hrd)
    have hE : At x (p + t.text.length) (b ++ (r.rest ++ rr)) := h.app
    obtain ⟨e2, h2⟩ := hE.skip hb hrb
    have hjl : j ≤ x.length := by
      have := (spaceF_le hE.le).2
      have := hE.le
      rcases hj with rfl | rfl <;> omega
    have hje : spaceF x j = p + t.text.length + b.length := by
      rcases hj with rfl | rfl
      · exact e2
      · rw [spaceF_idem]; exact e2
    cases r with
    | nil =>
      have := list_last (δ := δ) (vs := vs) hx (hc δ) hjl hje h2 (by omega)
      have e : p + (t.text ++ (b ++ JL.nil.rest)).length = p + t.text.length + b.length + 1 := by simp [JL.rest]; omega
      rw [e]
      exact ⟨_, WOk.ret lisT_true this⟩
    | cons a' t' b' r' =>
      have h2' : At x (p + t.text.length + b.length) (44 :: (a' ++ (t'.text ++ (b' ++ (r'.rest ++ rr))))) := by simpa [JL.rest, List.append_assoc] using h2
      have hro' := hro
      obtain ⟨ha', hto', _, _⟩ := hro'
      obtain ⟨e3, h3⟩ := h2'.tail.skip ha' (JT.text_head hto' _)
      have st := list_more (δ := δ) (vs := vs) hx (hc δ) hjl hje h2' (by omega)
      rw [e3] at st
      obtain ⟨ℓ', hw⟩ := items_ok hx (.cons a' t' b' r') hro (k := k) (by simp only [JL.dep] at hk ⊢; omega) (p + t.text.length + b.length + 1 + a'.length) (vs ++ [t.val]) rr h3 (by simp; omega) δ
      refine ⟨ℓ', WOk.step lisT_true st (.inl rfl) ?_⟩
      have ev : vs ++ (JL.cons a t b (.cons a' t' b' r')).vals = (vs ++ [t.val]) ++ (JL.cons a' t' b' r').vals := by simp [JL.vals]
      have e : p + (t.text ++ (b ++ (JL.cons a' t' b' r').rest)).length = p + t.text.length + b.length + 1 + a'.length + (t'.text ++ (b' ++ r'.rest)).length := by simp [JL.rest]; omega
      rw [ev, e]
      exact hw
theorem entries_ok {x} (hx : x.length < 2 ^ 24) : ∀ (its : JD) (es : List (Str × AV)), its.ok (es.map (·.1)) → ∀ {k}, 2 * its.dep + 2 ≤ k → ∀ (p : Nat) (rr : List Nat), match its with
    | .nil => True
    | .cons a ps b c t d r => At x p (34 :: (textOf ps ++ 34 :: (b ++ 58 :: (c ++ (t.text ++ (d ++ (r.rest ++ rr))))))) → es.length + (JD.cons a ps b c t d r).len ≤ 2 ^ 24 →
      ∀ δ, ∃ ℓ', WOk (k + 1) nm85 (dicL x p es) δ (.whileLoop dicT dicB []) (.ret (.tuple [.dict (es ++ (JD.cons a ps b c t d r).vals), .int (spaceF x (p + (34 :: (textOf ps ++ 34 :: (b ++ 58 :: (c ++ (t.text ++ (d ++ r.rest)))))).length))])) ℓ' δ
  | .nil, _, _, _, _, _, _ => trivial
  | .cons a ps b c t d r, es, ho, k, hk, p, rr => by
    intro h hn δ
    obtain ⟨⟨ha, hb, hc', hd⟩, hps, hto, hkey, hro⟩ := ho
    simp only [JD.dep] at hk
    simp only [JD.len] at hn
    obtain ⟨hrd, hrb⟩ := JD.rest_head r rr
    -- the key
    have hs := (string_at_ok (δ := δ) hx hps.1 h.tail (str_len' hps)).mono (show 2 ≤ k + 1 by omega)
    have h1 : At x (p + 1 + (textOf ps).length + 1) (b ++ 58 :: (c ++ (t.text ++ (d ++ (r.rest ++ rr))))) := h.tail.app.tail
    obtain ⟨e1, h1'⟩ := h1.skip hb (fun c t e => by cases e; rfl)
    -- the value
    have h2 := h1'.tail
    obtain ⟨e2, h2'⟩ := h2.skip hc' (JT.text_head hto _)
    obtain ⟨j, hj, hc⟩ := value_ok hx t hto (k := k + 1) (by omega) h2' (noDig_blk hd hrd)
    rw [← e2] at hc
    have hE := h2'.app
    obtain ⟨e3, h3⟩ := hE.skip hd hrb
    have hjl : j ≤ x.length := by
      have := (spaceF_le hE.le).2
      have := hE.le
      rcases hj with rfl | rfl <;> omega
    have hje := show spaceF x j = _ from (by
      rcases hj with rfl | rfl
      · exact e3
      · rw [spaceF_idem]; exact e3)
    cases r with
    | nil =>
      have e : p + (34 :: (textOf ps ++ 34 :: (b ++ 58 :: (c ++ (t.text ++ (d ++ JD.nil.rest)))))).length = p + 1 + (textOf ps).length + 1 + b.length + 1 + c.length + t.text.length + d.length + 1 := by simp [JD.rest]; omega
      rw [e]
      exact ⟨_, WOk.ret dicT_true (dict_key hx h hs h1.le e1 (dict_val hx h1' (hc δ) hjl hje h3 (by omega) hkey dict_last))⟩
    | cons a' ps' b' c'' t' d' r' =>
      have h3' : At x (p + 1 + (textOf ps).length + 1 + b.length + 1 + c.length + t.text.length + d.length) (44 :: (a' ++ (34 :: (textOf ps' ++ 34 :: (b' ++ 58 :: (c'' ++ (t'.text ++ (d' ++ (r'.rest ++ rr))))))))) := by simpa [JD.rest, List.append_assoc] using h3
      have hro' := hro
      obtain ⟨⟨ha', _⟩, _⟩ := hro'
      obtain ⟨e4, h4⟩ := h3'.tail.skip ha' (fun c t e => by cases e; rfl)
      have st := dict_key hx h hs h1.le e1 (dict_val hx h1' (hc δ) hjl hje h3' (by omega) hkey dict_more)
      rw [e4] at st
      have em : (es ++ [(keyOf ps, t.val)]).map (·.1) = es.map (·.1) ++ [keyOf ps] := by simp
      obtain ⟨ℓ', hw⟩ := entries_ok hx (.cons a' ps' b' c'' t' d' r') (es ++ [(keyOf ps, t.val)]) (by rw [em]; exact hro) (k := k) (by simp only [JD.dep] at hk ⊢; omega) _ rr h4 (by simp; omega) δ
      refine ⟨ℓ', WOk.step dicT_true st (.inl rfl) ?_⟩
      have ev : es ++ (JD.cons a ps b c t d (.cons a' ps' b' c'' t' d' r')).vals = (es ++ [(keyOf ps, t.val)]) ++ (JD.cons a' ps' b' c'' t' d' r').vals := by simp [JD.vals]
      have e : p + (34 :: (textOf ps ++ 34 :: (b ++ 58 :: (c ++ (t.text ++ (d ++ (JD.cons a' ps' b' c'' t' d' r').rest)))))).length
          = p + 1 + (textOf ps).length + 1 + b.length + 1 + c.length + t.text.length + d.length + 1 + a'.length + (34 :: (textOf ps' ++ 34 :: (b' ++ 58 :: (c'' ++ (t'.text ++ (d' ++ r'.rest)))))).length := by simp [JD.rest]; omega
      rw [ev, e]
      exact hw
end
end Mine

namespace Mine
set_option maxRecDepth 100000

mutual
noncomputable def JT.bare : JT → Prop
  | .list b0 its => b0 = [] ∧ its.bare
  | .dict b0 es => b0 = [] ∧ es.bare
  | _ => True
noncomputable def JL.bare : JL → Prop
  | .nil => True
  | .cons a t b r => a = [] ∧ t.bare ∧ b = [] ∧ r.bare
noncomputable def JD.bare : JD → Prop
  | .nil => True
  | .cons a _ b c t d r => (a = [] ∧ b = [] ∧ c = [] ∧ d = []) ∧ t.bare ∧ r.bare
end

/-- refused, or read up to the text's very end -/
noncomputable def JT.isBr : JT → Bool
  | .list _ _ | .dict _ _ => true
  | _ => false
noncomputable def CutAt (br : Bool) (k : Nat) (x : Str) (i : Nat) : Prop := (∀ δ, CallOk k 71 [.str x, .int i] δ (.exc "ValueError") δ) ∨ br = false ∧ ∃ v, ∀ δ, CallOk k 71 [.str x, .int i] δ (.ok (.tuple [v, .int x.length])) δ

theorem CutAt.mono {br k k' x i} (h : CutAt br k x i) (hk : k ≤ k') : CutAt br k' x i := h.imp (fun h δ => (h δ).mono hk) fun ⟨q, v, h⟩ => ⟨q, v, fun δ => (h δ).mono hk⟩

theorem word_cut {x} (hx : x.length < 2 ^ 24) {i} {w l m : List Nat} (hw : w = wNull ∨ w = wTrue ∨ w = wFalse) (hm : m ≠ []) (hl : w = l ++ m) (h : At x i l) : CutAt false 3 x i := by
  refine .inl fun δ => ?_
  cases l with
  | nil => exact (value_end (k := 0) hx h).mono (by omega)
  | cons c r =>
    have hml : 0 < m.length := List.length_pos_iff.mpr hm
    have hlen := congrArg List.length hl
    simp at hlen
    have hc : c = 110 ∨ c = 116 ∨ c = 102 := by
      rcases hw with rfl | rfl | rfl <;> simp [wNull, wTrue, wFalse] at hl <;> simp [← hl.1]
    have hlw : (c :: r).length < w.length := by simp; omega
    have hpre : ∀ n, (c :: r).take n = w → False := fun n q => by
      have := congrArg List.length q
      simp at this
      omega
    have hd : isDig c = false := by rcases hc with rfl | rfl | rfl <;> decide
    have hn := num_bad (δ := δ) hx h (by omega) hd
    -- the other words begin with another sign, or are longer than what is left
    have e1 : (c :: r).take 4 ≠ wNull := fun q => by
      rcases hw with rfl | rfl | rfl
      · exact hpre _ q
      · simp [wNull, wTrue] at q hl; omega
      · simp [wNull, wFalse] at q hl; omega
    have e2 : (c :: r).take 4 ≠ wTrue := fun q => by
      rcases hw with rfl | rfl | rfl
      · simp [wNull, wTrue] at q hl; omega
      · exact hpre _ q
      · simp [wTrue, wFalse] at q hl; omega
    have e3 : (c :: r).take 5 ≠ wFalse := fun q => by
      rcases hw with rfl | rfl | rfl
      · simp [wNull, wFalse] at q hl; omega
      · simp [wTrue, wFalse] at q hl; omega
      · exact hpre _ q
    exact (value_num hx h ⟨by omega, by omega, by omega⟩ e1 e2 e3 hn).mono (by omega)

theorem num_cut {x} (hx : x.length < 2 ^ 24) {i} {neg ds n} {l m : List Nat} (ho : NumOk neg ds n) (hm : m ≠ []) (hl : pre neg ++ ds = l ++ m) (h : At x i l) : CutAt false 3 x i := by
  obtain ⟨h1, h2, h3, h4, h5⟩ := ho
  have hml : 0 < m.length := List.length_pos_iff.mpr hm
  -- a part of the digits is a number, too
  have part : ∀ (c : Nat) (t : List Nat), ds = (c :: t) ++ m → At x i (pre neg ++ (c :: t)) → CutAt false 3 x i := fun c t e h => by
    have hd : ∀ d ∈ (c :: t), isDig d = true := fun d hd => h1 d (by rw [e]; exact List.mem_append_left _ hd)
    have hz : (c :: t).head? = some 48 → (c :: t) = [48] := fun q => by
      exfalso
      simp at q
      subst q
      have := h3 (by rw [e]; rfl)
      rw [e] at this
      simp at this
      exact hm this.2
    have hlen := congrArg List.length e
    simp at hlen
    have hall : PySem.NumText.AllDigits (c :: t) := fun d hd' => by
      have := hd d hd'
      simpa only [isDig, decide_eq_true_eq] using this
    have hn : ∃ n', PySem.intText? ⟨(pre neg ++ (c :: t)).toArray⟩ = some n' := by
      cases neg with
      | false => exact ⟨_, PySem.intText_digits (x := ⟨(c :: t).toArray⟩) hall (by simp) (by show (c :: t).toArray.size ≤ 4300; simp; omega)⟩
      | true => exact ⟨_, PySem.intText_neg (x := ⟨(45 :: c :: t).toArray⟩) (cs := c :: t) rfl hall (by simp) (by show (45 :: c :: t).toArray.size ≤ 4300; simp; omega)⟩
    obtain ⟨n', hn⟩ := hn
    have ho' : NumOk neg (c :: t) n' := ⟨hd, by simp, hz, hn, by simp; omega⟩
    have h' : At x i (pre neg ++ ((c :: t) ++ [])) := by simpa using h
    obtain ⟨j, hj, hc⟩ := value_num_ok (k := 3) hx (by omega) ho' h' noDig_nil
    have he : i + (pre neg ++ (c :: t)).length = x.length := h.len.symm
    rw [he] at hj
    have hj' : j = x.length := by
      rcases hj with rfl | rfl
      · rfl
      · exact spaceF_end (Nat.le_refl _)
    subst hj'
    exact .inr ⟨rfl, _, hc⟩
  cases l with
  | nil => exact .inl fun δ => (value_end (k := 0) hx h).mono (by omega)
  | cons c r =>
    cases neg with
    | false => exact part c r (by simpa [pre] using hl) h
    | true =>
      simp [pre] at hl
      obtain ⟨rfl, hl⟩ := hl
      cases r with
      | nil =>
        refine .inl fun δ => ?_
        exact (value_num (k := 1) hx h (by decide) (by decide) (by decide) (by decide) (num_minus (δ := δ) hx h)).mono (by omega)
      | cons d t => exact part d t (by simpa using hl) h

theorem split_two {a b l m : List Nat} (h : a ++ b = l ++ m) : (∃ c, c ≠ [] ∧ a = l ++ c) ∨ ∃ c, l = a ++ c ∧ b = c ++ m := by
  rcases List.append_eq_append_iff.mp h with ⟨c, h1, h2⟩ | ⟨c, h1, h2⟩
  · exact .inr ⟨c, h1, h2⟩
  · by_cases hc : c = []
    · subst hc
      exact .inr ⟨[], by simpa using h1.symm, by simpa using h2.symm⟩
    · exact .inl ⟨c, hc, h1⟩

theorem JL.rest_cut {r : JL} {c m : List Nat} (h : r.rest = c ++ m) (hm : m ≠ []) : c = [] ∨ ∃ a t b r' c', r = .cons a t b r' ∧ c = 44 :: c' ∧ a ++ (t.text ++ (b ++ r'.rest)) = c' ++ m := by
  cases c with
  | nil => exact .inl rfl
  | cons d c' =>
    cases r with
    | nil => simp [JL.rest] at h; exact absurd h.2.2 hm
    | cons a t b r' => simp [JL.rest] at h; obtain ⟨rfl, h⟩ := h; exact .inr ⟨a, t, b, r', c', rfl, rfl, h⟩
theorem JD.rest_cut {r : JD} {c m : List Nat} (h : r.rest = c ++ m) (hm : m ≠ []) : c = [] ∨ ∃ a ps b cc t d r' c', r = .cons a ps b cc t d r' ∧ c = 44 :: c' ∧ a ++ (34 :: (textOf ps ++ 34 :: (b ++ 58 :: (cc ++ (t.text ++ (d ++ r'.rest)))))) = c' ++ m := by
  cases c with
  | nil => exact .inl rfl
  | cons e c' =>
    cases r with
    | nil => simp [JD.rest] at h; exact absurd h.2.2 hm
    | cons a ps b cc t d r' => simp [JD.rest] at h; obtain ⟨rfl, h⟩ := h; exact .inr ⟨a, ps, b, cc, t, d, r', c', rfl, rfl, h⟩

/-- where a value ends that stands at the text's end, or ahead of a sign that is no blank -/
theorem val_end {x : Str} {e j : Nat} {c : List Nat} (h : At x e c) (hb : ∀ d t, c = d :: t → blank d = false) (hj : j = e ∨ j = spaceF x e) : j = e ∧ spaceF x j = e := by
  have h0 : spaceF x e = e := by
    have := (At.skip (b := []) h (fun _ q => nomatch q) hb).1
    simpa using this
  rcases hj with rfl | rfl
  · exact ⟨rfl, h0⟩
  · rw [h0]; exact ⟨rfl, h0⟩

theorem blk_nil : Blk [] := fun _ q => nomatch q

mutual
theorem value_cut {x} (hx : x.length < 2 ^ 24) : ∀ (t : JT), t.ok → t.bare → ∀ {k i l m}, 2 * t.dep + 3 ≤ k → m ≠ [] → t.text = l ++ m → At x i l → CutAt t.isBr k x i
  | .null, _, _, k, i, l, m, hk, hm, hl, h => (word_cut hx (.inl rfl) hm hl h).mono (by simp only [JT.dep] at hk; omega)
  | .tru, _, _, k, i, l, m, hk, hm, hl, h => (word_cut hx (.inr (.inl rfl)) hm hl h).mono (by simp only [JT.dep] at hk; omega)
  | .fls, _, _, k, i, l, m, hk, hm, hl, h => (word_cut hx (.inr (.inr rfl)) hm hl h).mono (by simp only [JT.dep] at hk; omega)
  | .num neg ds n, ho, _, k, i, l, m, hk, hm, hl, h => (num_cut hx ho hm hl h).mono (by simp only [JT.dep] at hk; omega)
  | .str ps, ho, _, k, i, l, m, hk, hm, hl, h => by
    simp only [JT.dep] at hk
    cases l with
    | nil => exact .inl fun δ => (value_end (k := 0) hx h).mono (by omega)
    | cons c r =>
      simp [JT.text] at hl
      obtain ⟨rfl, hl⟩ := hl
      exact .inl fun δ => (value_str hx h (string_at_bad (δ := δ) hx ho.1 hm hl h.tail (by have := ho.2; omega))).mono (by omega)
  | .list b0 its, ho, hb, k, i, l, m, hk, hm, hl, h => by
    simp only [JT.dep] at hk
    cases l with
    | nil => exact .inl fun δ => (value_end (k := 0) hx h).mono (by omega)
    | cons c r =>
      simp [JT.text] at hl
      obtain ⟨rfl, hl⟩ := hl
      obtain ⟨k', rfl⟩ : ∃ k', k = k' + 3 := ⟨k - 3, by omega⟩
      obtain ⟨hb0, hbi⟩ := hb
      subst hb0
      have hnb : ∀ d t, r = d :: t → blank d = false := by
        intro d t e
        cases its with
        | nil => simp [JL.open, e] at hl; rw [← hl.1]; rfl
        | cons a t0 b r' =>
          obtain ⟨rfl, _, rfl, _⟩ := hbi
          have hto : t0.ok := ho.2.2.1
          obtain ⟨c0, s0, e0, hc0, _⟩ := JT.head hto
          simp [JL.open, e, e0] at hl
          rw [← hl.1]; exact hc0
      have hsp : spaceF x (i + 1) = i + 1 := by
        have := (At.skip (b := []) h.tail blk_nil hnb).1
        simpa using this
      refine .inl fun δ => ?_
      have key : ∃ ℓ', WOk (k' + 1) nm78 (lisL x (i + 1) []) δ (.whileLoop lisT lisB []) (.exc "ValueError") ℓ' δ := by
        cases its with
        | nil =>
          have : r = [] := by
            cases r with
            | nil => rfl
            | cons d t => simp [JL.open] at hl; exact absurd hl.2.2 hm
          subst this
          exact ⟨_, WOk.exc lisT_true (list_exc ((value_end (k := 0) hx h.tail).mono (by omega)))⟩
        | cons a t0 b r' =>
          obtain ⟨rfl, _, rfl, _⟩ := id hbi
          refine items_cut hx (.cons [] t0 [] r') ho.2 hbi (k := k') (by omega) (i + 1) [] r m hm (by simpa [JL.open] using hl) h.tail (by simp) δ
      obtain ⟨ℓ', hw⟩ := key
      have hh : r.head? ≠ some 93 := by
        intro q
        cases r with
        | nil => simp at q
        | cons d t =>
          simp at q
          subst q
          cases its with
          | nil => simp [JL.open] at hl; exact absurd hl.2 hm
          | cons a t0 b r' =>
            obtain ⟨rfl, _, rfl, _⟩ := hbi
            have hto : t0.ok := ho.2.2.1
            obtain ⟨c0, s0, e0, hc0, h93, _⟩ := JT.head hto
            simp [JL.open, e0] at hl
            exact h93 hl.1
      have hl := list_def (δ := δ) hx h.tail hh (o := .exc "ValueError") rfl (by intro q; cases q) hw
      rw [← hsp] at hl
      exact value_list hx h hl
  | .dict b0 es, ho, hb, k, i, l, m, hk, hm, hl, h => by
    simp only [JT.dep] at hk
    cases l with
    | nil => exact .inl fun δ => (value_end (k := 0) hx h).mono (by omega)
    | cons c r =>
      simp [JT.text] at hl
      obtain ⟨rfl, hl⟩ := hl
      obtain ⟨k', rfl⟩ : ∃ k', k = k' + 3 := ⟨k - 3, by omega⟩
      obtain ⟨hb0, hbi⟩ := hb
      subst hb0
      have hnb : ∀ d t, r = d :: t → blank d = false ∧ (d = 125 → es = .nil) := by
        intro d t e
        cases es with
        | nil => simp [JD.open, e] at hl; rw [← hl.1]; exact ⟨rfl, fun _ => rfl⟩
        | cons a ps b c t0 d0 r' =>
          obtain ⟨⟨rfl, _⟩, _⟩ := hbi
          simp [JD.open, e] at hl
          rw [← hl.1]; exact ⟨rfl, fun q => by cases q⟩
      have hsp : spaceF x (i + 1) = i + 1 := by
        have := (At.skip (b := []) h.tail blk_nil fun d t e => (hnb d t e).1).1
        simpa using this
      refine .inl fun δ => ?_
      have key : ∃ ℓ', WOk (k' + 1) nm85 (dicL x (i + 1) []) δ (.whileLoop dicT dicB []) (.exc "ValueError") ℓ' δ := by
        cases es with
        | nil =>
          have : r = [] := by
            cases r with
            | nil => rfl
            | cons d t => simp [JD.open] at hl; exact absurd hl.2.2 hm
          subst this
          exact ⟨_, WOk.exc dicT_true (dict_noKey hx h.tail)⟩
        | cons a ps b c t0 d0 r' =>
          obtain ⟨⟨rfl, rfl, rfl, rfl⟩, _⟩ := id hbi
          refine entries_cut hx (.cons [] ps [] [] t0 [] r') [] ho.2 hbi (k := k') (by omega) (i + 1) r m hm (by simpa [JD.open] using hl) h.tail (by simp) δ
      obtain ⟨ℓ', hw⟩ := key
      have hh : r.head? ≠ some 125 := by
        intro q
        cases r with
        | nil => simp at q
        | cons d t =>
          simp at q
          subst q
          have := (hnb _ _ rfl).2 rfl
          subst this
          simp [JD.open] at hl
          exact absurd hl.2 hm
      have hl := dict_def (δ := δ) hx h.tail hh (o := .exc "ValueError") rfl hw
      rw [← hsp] at hl
      exact value_dict hx h hl
theorem items_cut {x} (hx : x.length < 2 ^ 24) : ∀ (its : JL), its.ok → its.bare → ∀ {k}, 2 * its.dep + 2 ≤ k → ∀ (p : Nat) (vs : List AV) (l m : List Nat), m ≠ [] → match its with
    | .nil => True
    | .cons a t b r => t.text ++ r.rest = l ++ m → At x p l → vs.length ≤ p →
      ∀ δ, ∃ ℓ', WOk (k + 1) nm78 (lisL x p vs) δ (.whileLoop lisT lisB []) (.exc "ValueError") ℓ' δ
  | .nil, _, _, _, _, _, _, _, _, _ => trivial
  | .cons a t b r, ho, hb, k, hk, p, vs, l, m, hm => by
    intro hl h hn δ
    obtain ⟨ha, hto, hbb, hro⟩ := ho
    obtain ⟨rfl, hbt, rfl, hbr⟩ := hb
    simp only [JL.dep] at hk
    have hpx := h.le
    have hcut : ∀ {v : AV} {j : Nat}, (∀ δ, CallOk (k + 1) 71 [.str x, .int p] δ (.ok (.tuple [v, .int j])) δ) → j = x.length → ∃ ℓ', WOk (k + 1) nm78 (lisL x p vs) δ (.whileLoop lisT lisB []) (.exc "ValueError") ℓ' δ := fun {v j} hc hj => by
      subst hj
      exact ⟨_, WOk.exc lisT_true (list_cut (vs := vs) hx (hc δ) (Nat.le_refl _) (spaceF_end (Nat.le_refl _)) ⟨List.drop_eq_nil_of_le (by rw [str_len]; exact Nat.le_refl _), Nat.le_refl _⟩ (by omega))⟩
    rcases split_two hl with ⟨c, hc, h1⟩ | ⟨c, h1, h2⟩
    · rcases value_cut hx t hto hbt (k := k + 1) (by omega) hc h1 h with he | ⟨_, v, hv⟩
      · exact ⟨_, WOk.exc lisT_true (list_exc (he δ))⟩
      · exact hcut hv rfl
    · subst h1
      have hnd : NoDig c ∧ ∀ d s, c = d :: s → blank d = false := by
        rcases JL.rest_cut h2 hm with rfl | ⟨_, _, _, _, _, _, rfl, _⟩
        · exact ⟨noDig_nil, fun _ _ q => nomatch q⟩
        · exact ⟨noDig_of (by decide), fun _ _ q => by cases q; rfl⟩
      obtain ⟨j, hj, hc⟩ := value_ok hx t hto (k := k + 1) (by omega) h hnd.1
      obtain ⟨rfl, hje⟩ := val_end h.app hnd.2 hj
      rcases JL.rest_cut h2 hm with rfl | ⟨a', t', b', r', c', rfl, rfl, h3⟩
      · exact hcut hc h.app.nil
      · have st := list_more (δ := δ) (vs := vs) hx (hc δ) h.app.le hje h.app (by omega)
        obtain ⟨rfl, hbt', rfl, hbr'⟩ := id hbr
        have hc' : ∀ d s, c' = d :: s → blank d = false := by
          intro d s e
          obtain ⟨c0, s0, e0, hc0, _⟩ := JT.head hro.2.1
          simp [e, e0] at h3
          rw [← h3.1]; exact hc0
        have h4 := h.app.tail
        have e4 : spaceF x (p + t.text.length + 1) = p + t.text.length + 1 := by
          have := (At.skip (b := []) h4 blk_nil hc').1
          simpa using this
        rw [e4] at st
        have htl : 0 < t.text.length := by
          obtain ⟨c0, s0, e0, _⟩ := JT.head hto
          rw [e0]; simp
        obtain ⟨ℓ', hw⟩ := items_cut hx (.cons [] t' [] r') hro hbr (k := k) (by simp only [JL.dep] at hk ⊢; omega) (p + t.text.length + 1) (vs ++ [t.val]) c' m hm (by simpa using h3) h4 (by simp; omega) δ
        exact ⟨ℓ', WOk.step lisT_true st (.inl rfl) hw⟩
theorem entries_cut {x} (hx : x.length < 2 ^ 24) : ∀ (its : JD) (es : List (Str × AV)), its.ok (es.map (·.1)) → its.bare → ∀ {k}, 2 * its.dep + 2 ≤ k → ∀ (p : Nat) (l m : List Nat), m ≠ [] → match its with
    | .nil => True
    | .cons a ps b c t d r => 34 :: (textOf ps ++ 34 :: 58 :: (t.text ++ r.rest)) = l ++ m → At x p l → es.length ≤ p →
      ∀ δ, ∃ ℓ', WOk (k + 1) nm85 (dicL x p es) δ (.whileLoop dicT dicB []) (.exc "ValueError") ℓ' δ
  | .nil, _, _, _, _, _, _, _, _, _ => trivial
  | .cons a ps b c t d r, es, ho, hb, k, hk, p, l, m, hm => by
    intro hl h hn δ
    obtain ⟨_, hps, hto, hkey, hro⟩ := ho
    obtain ⟨⟨rfl, rfl, rfl, rfl⟩, hbt, hbr⟩ := hb
    simp only [JD.dep] at hk
    have hpx := h.le
    cases l with
    | nil => exact ⟨_, WOk.exc dicT_true (dict_noKey hx h)⟩
    | cons q l1 =>
      simp only [List.cons_append, List.cons.injEq] at hl
      obtain ⟨rfl, hl⟩ := hl
      have hl' : (textOf ps ++ [34]) ++ (58 :: (t.text ++ r.rest)) = l1 ++ m := by simpa using hl
      rcases split_two hl' with ⟨c, hc, h1⟩ | ⟨l2, h1, h2⟩
      · exact ⟨_, WOk.exc dicT_true (dict_badKey hx h ((string_at_bad (δ := δ) hx hps.1 hc h1 h.tail (by have := hps.2; omega)).mono (by omega)))⟩
      · subst h1
        have ht1 : At x (p + 1) (textOf ps ++ 34 :: l2) := by simpa using h.tail
        have hs := (string_at_ok (δ := δ) hx hps.1 ht1 (str_len' hps)).mono (show 2 ≤ k + 1 by omega)
        have h5 : At x (p + 1 + (textOf ps).length + 1) l2 := ht1.app.tail
        have hl2 : ∀ d s, l2 = d :: s → blank d = false := by
          intro d s e
          simp [e] at h2
          rw [← h2.1]; rfl
        have e5 : spaceF x (p + 1 + (textOf ps).length + 1) = p + 1 + (textOf ps).length + 1 := by
          have := (At.skip (b := []) h5 blk_nil hl2).1
          simpa using this
        cases l2 with
        | nil => exact ⟨_, WOk.exc dicT_true (dict_key hx h hs h5.le e5 (dict_noColon hx h5))⟩
        | cons q l3 =>
          simp only [List.cons_append, List.cons.injEq] at h2
          obtain ⟨rfl, h2⟩ := h2
          have h6 := h5.tail
          have hl3 : ∀ d s, l3 = d :: s → blank d = false := by
            intro d s e
            obtain ⟨c0, s0, e0, hc0, _⟩ := JT.head hto
            simp [e, e0] at h2
            rw [← h2.1]; exact hc0
          have e6 : spaceF x (p + 1 + (textOf ps).length + 1 + 1) = p + 1 + (textOf ps).length + 1 + 1 := by
            have := (At.skip (b := []) h6 blk_nil hl3).1
            simpa using this
          have hcut : ∀ {v : AV} {j : Nat}, (∀ δ, CallOk (k + 1) 71 [.str x, .int (spaceF x (p + 1 + (textOf ps).length + 1 + 1))] δ (.ok (.tuple [v, .int j])) δ) → j = x.length → ∃ ℓ', WOk (k + 1) nm85 (dicL x p es) δ (.whileLoop dicT dicB []) (.exc "ValueError") ℓ' δ := fun {v j} hc hj => by
            subst hj
            exact ⟨_, WOk.exc dicT_true (dict_key hx h hs h5.le e5 (dict_val hx h5 (hc δ) (Nat.le_refl _) (spaceF_end (Nat.le_refl _)) ⟨List.drop_eq_nil_of_le (by rw [str_len]; exact Nat.le_refl _), Nat.le_refl _⟩ (by omega) hkey dict_cut))⟩
          rcases split_two h2 with ⟨c, hc, h1⟩ | ⟨c, h1, h3⟩
          · rcases value_cut hx t hto hbt (k := k + 1) (by omega) hc h1 h6 with he | ⟨_, v, hv⟩
            · rw [← e6] at he
              exact ⟨_, WOk.exc dicT_true (dict_key hx h hs h5.le e5 (dict_badVal hx h5 (he δ)))⟩
            · rw [← e6] at hv
              exact hcut hv rfl
          · subst h1
            have hnd : NoDig c ∧ ∀ d s, c = d :: s → blank d = false := by
              rcases JD.rest_cut h3 hm with rfl | ⟨_, _, _, _, _, _, _, _, _, rfl, _⟩
              · exact ⟨noDig_nil, fun _ _ q => nomatch q⟩
              · exact ⟨noDig_of (by decide), fun _ _ q => by cases q; rfl⟩
            obtain ⟨j, hj, hc⟩ := value_ok hx t hto (k := k + 1) (by omega) h6 hnd.1
            obtain ⟨rfl, hje⟩ := val_end h6.app hnd.2 hj
            have hc : ∀ δ, CallOk (k + 1) 71 [.str x, .int (spaceF x (p + 1 + (textOf ps).length + 1 + 1))] δ (.ok (.tuple [t.val, .int (p + 1 + (textOf ps).length + 1 + 1 + t.text.length : Nat)])) δ := fun δ => by
              rw [e6]; exact hc δ
            rcases JD.rest_cut h3 hm with rfl | ⟨a', ps', b', cc, t', d', r', c', rfl, rfl, h7⟩
            · exact hcut hc h6.app.nil
            · obtain ⟨⟨rfl, rfl, rfl, rfl⟩, hbt', hbr'⟩ := id hbr
              have hc' : ∀ d s, c' = d :: s → blank d = false := by
                intro d s e
                simp [e] at h7
                rw [← h7.1]; rfl
              have hj' := h6.app
              have h8 := hj'.tail
              have e8 : spaceF x (p + 1 + (textOf ps).length + 1 + 1 + t.text.length + 1) = p + 1 + (textOf ps).length + 1 + 1 + t.text.length + 1 := by
                have := (At.skip (b := []) h8 blk_nil hc').1
                simpa using this
              have st := dict_key hx h hs h5.le e5 (dict_val hx h5 (hc δ) hj'.le hje hj' (by omega) hkey dict_more)
              rw [e8] at st
              have em : (es ++ [(keyOf ps, t.val)]).map (·.1) = es.map (·.1) ++ [keyOf ps] := by simp
              obtain ⟨ℓ', hw⟩ := entries_cut hx (.cons [] ps' [] [] t' [] r') (es ++ [(keyOf ps, t.val)]) (by rw [em]; exact hro) hbr (k := k) (by simp only [JD.dep] at hk ⊢; omega) _ c' m hm (by simpa using h7) h8 (by simp; omega) δ
              exact ⟨ℓ', WOk.step dicT_true st (.inl rfl) hw⟩
end
end Mine

namespace Mine
set_option maxRecDepth 100000

/-- the plain data of this law -/
noncomputable def AV.data : AV → Bool
  | .none | .bool _ | .int _ | .str _ | .bytes _ | .list _ | .dict _ | .idict _ => true
  | _ => false
noncomputable def AV.isStr : AV → Bool
  | .str _ => true
  | _ => false
noncomputable def AV.isInt : AV → Bool
  | .int _ | .bool _ => true
  | _ => false
noncomputable def AV.isList : AV → Bool
  | .list _ => true
  | _ => false
noncomputable def AV.isDict : AV → Bool
  | .dict _ | .idict _ => true
  | _ => false
noncomputable def AV.isBytes : AV → Bool
  | .bytes _ => true
  | _ => false

theorem isi_bytes_false {w : World} {A : Around} {E : Value → Shared → Prop} {s : Shared} {Q : Value → Shared → Prop} {b : Array UInt8} {u : Tok} {T : String} (hne : (Value.type "bytes" == Value.type T) = false) (hty : typeOf (.type T) = pure (.type "type"))
    (hsub : isSubtype (.type "bytes") (.type T) = pure false) (h : Q (.bool false) { s with toks := s.toks + 1 }) : wpAny (MM w) A (call (.builtin "isinstance") [.bytes b u, .type T]) Q E s :=
  call_isinstance (S := fun _ R s => R (.ok (.ret (.bool false))) { s with toks := s.toks + 1 }) (fun _ _ _ _ s hs => by
    obtain ⟨h, g, d, t, os⟩ := s
    exact isinstance_outer (isinstance_nested_false_bytes hne hty hsub hs)) h

section
variable {k : Nat}
theorem FOk.isiStr {v : AV} (hv : v.data = true) : FOk k (.builtin "isinstance") [v, .typ "str"] (.bool v.isStr) := by
  constructor; intro C σ δ s vals Q E nm O S r hq
  cases r with | cons r1 r2 =>
  cases r2 with | cons r2 r3 =>
  cases r3; cases r2
  cases r1 with
  | none => exact IsiPair.NoneType_str (hq _ _ (Aft.of_tok S) (.bool _))
  | bool b => exact IsiPair.bool_str (hq _ _ (Aft.of_tok S) (.bool _))
  | int i t => exact IsiPair.int_str (hq _ _ (Aft.of_tok S) (.bool _))
  | str i t => exact IsiPair.str_str (hq _ _ (Aft.refl S) (.bool _))
  | bytes i t => exact isi_bytes_false (by decide) F.isi_meta_str F.sub_bytes_str (hq _ _ (Aft.of_tok S) (.bool _))
  | list h1 _ _ _ => obtain ⟨o, ho, hc, _⟩ := h1; exact IsiPair.list_str ho hc (hq _ _ (Aft.of_tok S) (.bool _))
  | dict h1 _ _ _ _ => obtain ⟨o, _, _, ho, hc, _⟩ := h1; exact IsiPair.dict_str ho hc.1 (hq _ _ (Aft.of_tok S) (.bool _))
  | idict h1 _ _ _ _ => obtain ⟨o, _, _, ho, hc, _⟩ := h1; exact IsiPair.dict_str ho hc.1 (hq _ _ (Aft.of_tok S) (.bool _))
  | _ => cases hv
theorem FOk.isiInt {v : AV} (hv : v.data = true) : FOk k (.builtin "isinstance") [v, .typ "int"] (.bool v.isInt) := by
  constructor; intro C σ δ s vals Q E nm O S r hq
  cases r with | cons r1 r2 =>
  cases r2 with | cons r2 r3 =>
  cases r3; cases r2
  cases r1 with
  | none => exact IsiPair.NoneType_int (hq _ _ (Aft.of_tok S) (.bool _))
  | bool b => exact IsiPair.bool_int (hq _ _ (Aft.refl S) (.bool _))
  | int i t => exact IsiPair.int_int (hq _ _ (Aft.refl S) (.bool _))
  | str i t => exact IsiPair.str_int (hq _ _ (Aft.of_tok S) (.bool _))
  | bytes i t => exact isi_bytes_false (by decide) F.isi_meta_int F.sub_bytes_int (hq _ _ (Aft.of_tok S) (.bool _))
  | list h1 _ _ _ => obtain ⟨o, ho, hc, _⟩ := h1; exact IsiPair.list_int ho hc (hq _ _ (Aft.of_tok S) (.bool _))
  | dict h1 _ _ _ _ => obtain ⟨o, _, _, ho, hc, _⟩ := h1; exact IsiPair.dict_int ho hc.1 (hq _ _ (Aft.of_tok S) (.bool _))
  | idict h1 _ _ _ _ => obtain ⟨o, _, _, ho, hc, _⟩ := h1; exact IsiPair.dict_int ho hc.1 (hq _ _ (Aft.of_tok S) (.bool _))
  | _ => cases hv
theorem FOk.isiDict {v : AV} (hv : v.data = true) : FOk k (.builtin "isinstance") [v, .typ "dict"] (.bool v.isDict) := by
  constructor; intro C σ δ s vals Q E nm O S r hq
  cases r with | cons r1 r2 =>
  cases r2 with | cons r2 r3 =>
  cases r3; cases r2
  cases r1 with
  | none => exact IsiPair.NoneType_dict (hq _ _ (Aft.of_tok S) (.bool _))
  | bool b => exact IsiPair.bool_dict (hq _ _ (Aft.of_tok S) (.bool _))
  | int i t => exact IsiPair.int_dict (hq _ _ (Aft.of_tok S) (.bool _))
  | str i t => exact IsiPair.str_dict (hq _ _ (Aft.of_tok S) (.bool _))
  | bytes i t => exact isi_bytes_false (by decide) F.isi_meta_dict F.sub_bytes_dict (hq _ _ (Aft.of_tok S) (.bool _))
  | list h1 _ _ _ => obtain ⟨o, ho, hc, _⟩ := h1; exact IsiPair.list_dict ho hc (hq _ _ (Aft.of_tok S) (.bool _))
  | dict h1 _ _ _ _ => obtain ⟨o, _, _, ho, hc, _⟩ := h1; exact IsiPair.dict_dict ho hc.1 (hq _ _ (Aft.refl S) (.bool _))
  | idict h1 _ _ _ _ => obtain ⟨o, _, _, ho, hc, _⟩ := h1; exact IsiPair.dict_dict ho hc.1 (hq _ _ (Aft.refl S) (.bool _))
  | _ => cases hv
theorem FOk.isiList {v : AV} (hv : v.data = true) : FOk k (.builtin "isinstance") [v, .typ "list"] (.bool v.isList) := by
  constructor; intro C σ δ s vals Q E nm O S r hq
  cases r with | cons r1 r2 =>
  cases r2 with | cons r2 r3 =>
  cases r3; cases r2
  cases r1 with
  | none => exact IsiPair.NoneType_list (hq _ _ (Aft.of_tok S) (.bool _))
  | bool b => exact IsiPair.bool_list (hq _ _ (Aft.of_tok S) (.bool _))
  | int i t => exact IsiPair.int_list (hq _ _ (Aft.of_tok S) (.bool _))
  | str i t => exact IsiPair.str_list (hq _ _ (Aft.of_tok S) (.bool _))
  | bytes i t => exact isi_bytes_false (by decide) F.isi_meta_list F.sub_bytes_list (hq _ _ (Aft.of_tok S) (.bool _))
  | list h1 _ _ _ => obtain ⟨o, ho, hc, _⟩ := h1; exact IsiPair.list_list ho hc (hq _ _ (Aft.refl S) (.bool _))
  | dict h1 _ _ _ _ => obtain ⟨o, _, _, ho, hc, _⟩ := h1; exact IsiPair.dict_list ho hc.1 (hq _ _ (Aft.of_tok S) (.bool _))
  | idict h1 _ _ _ _ => obtain ⟨o, _, _, ho, hc, _⟩ := h1; exact IsiPair.dict_list ho hc.1 (hq _ _ (Aft.of_tok S) (.bool _))
  | _ => cases hv
theorem FOk.isiBytesS {x : Str} : FOk k (.builtin "isinstance") [.str x, .typ "bytes"] (.bool false) := by
  constructor; intro C σ δ s vals Q E nm O S r hq
  cases r with | cons r1 r2 =>
  cases r2 with | cons r2 r3 =>
  cases r3; cases r2; cases r1
  exact IsiPair.str_bytes (hq _ _ (Aft.of_tok S) (.bool _))
theorem FOk.isiBytesB {x : Array UInt8} : FOk k (.builtin "isinstance") [.bytes x, .typ "bytes"] (.bool true) := by
  constructor; intro C σ δ s vals Q E nm O S r hq
  cases r with | cons r1 r2 =>
  cases r2 with | cons r2 r3 =>
  cases r3; cases r2; cases r1
  exact call_isinstance (isinstance_true F.isi_meta_bytes F.sub_bytes_bytes) ⟨rfl, hq _ _ (Aft.refl S) (.bool _)⟩

theorem ans_bytes_false {b : Array UInt8} {u : Tok} {T : String} (hne : (Value.type "bytes" == Value.type T) = false) (hty : typeOf (.type T) = pure (.type "type")) (hsub : isSubtype (.type "bytes") (.type T) = pure false) :
    Answers (fun s => s.TypeIs (.bytes b u) "bytes") (.bytes b u) (.type T) false :=
  fun _ _ _ _ _ _ s hs => by
    obtain ⟨h, g, d, t, os⟩ := s
    exact isinstance_nested_false_bytes hne hty hsub (hs.2 (t + 1))

/-- isinstance(v, (list, tuple)) -/
theorem FOk.isiSeq {v : AV} (hv : v.data = true) (h0 : v ≠ .none) (h1 : ∀ b, v ≠ .bool b) : FOk k (.builtin "isinstance") [v, .types ["list", "tuple"]] (.bool v.isList) := by
  constructor; intro C σ δ s vals Q E nm O S r hq
  cases r with | cons r1 r2 =>
  cases r2 with | cons r2 r3 =>
  cases r3
  cases r2 with | types ht hH =>
  have go : ∀ {x Tx} {v1 v2 : Bool}, Answers (fun s => s.TypeIs x Tx) x (.type "list") v1 → Answers (fun s => s.TypeIs x Tx) x (.type "tuple") v2 → s.TypeIs x Tx → (∀ tk, Q (.bool (v1 || v2)) { s with toks := tk }) → wpAny (MM C.w) C.A (call (.builtin "isinstance") [x, .ref _]) Q E s :=
    fun {x Tx v1 v2} a1 a2 hx h => IsiPair.tupleOfB (vs := [v1, v2]) (AnswersAll.cons a1 (AnswersAll.cons a2 AnswersAll.nil)) hx ht (by simp) h
  cases r1 with
  | none => exact absurd rfl h0
  | bool b => exact absurd rfl (h1 b)
  | int i t => exact go (Answers.of_false_int (by decide) F.isi_meta_list F.sub_int_list) (Answers.of_false_int (by decide) F.isi_meta_tuple F.sub_int_tuple) rfl fun tk => hq _ _ (Aft.of_tok S) (.bool _)
  | str i t => exact go (Answers.of_false_str (by decide) F.isi_meta_list F.sub_str_list) (Answers.of_false_str (by decide) F.isi_meta_tuple F.sub_str_tuple) rfl fun tk => hq _ _ (Aft.of_tok S) (.bool _)
  | bytes i t => exact go (ans_bytes_false (by decide) F.isi_meta_list F.sub_bytes_list) (ans_bytes_false (by decide) F.isi_meta_tuple F.sub_bytes_tuple) rfl fun tk => hq _ _ (Aft.of_tok S) (.bool _)
  | list g1 _ _ _ => obtain ⟨o, ho, hc, _⟩ := g1; exact go (Answers.of_true F.isi_meta_list F.sub_list_list) (Answers.of_false_list (by decide) F.isi_meta_tuple F.sub_list_tuple) ⟨o, ho, hc⟩ fun tk => hq _ _ (Aft.of_tok S) (.bool _)
  | dict g1 _ _ _ _ => obtain ⟨o, _, _, ho, hc, _⟩ := g1; exact go (Answers.of_false_dict (by decide) F.isi_meta_list F.sub_dict_list) (Answers.of_false_dict (by decide) F.isi_meta_tuple F.sub_dict_tuple) ⟨o, ho, hc.1⟩ fun tk => hq _ _ (Aft.of_tok S) (.bool _)
  | idict g1 _ _ _ _ => obtain ⟨o, _, _, ho, hc, _⟩ := g1; exact go (Answers.of_false_dict (by decide) F.isi_meta_list F.sub_dict_list) (Answers.of_false_dict (by decide) F.isi_meta_tuple F.sub_dict_tuple) ⟨o, ho, hc.1⟩ fun tk => hq _ _ (Aft.of_tok S) (.bool _)
  | _ => cases hv

/-- a tuple of types named -/
theorem EvOk.typesT {nm σ δ p1 p2 x1 pos T1 T2} {n1 n2 : Str} (h1 : BName n1 (.type T1)) (h2 : BName n2 (.type T2)) (g1 : nm.lookup n1 = some .globalImplicit) (g2 : nm.lookup n2 = some .globalImplicit) :
    EvOk k nm σ δ (.Tuple [.Name n1 p1, .Name n2 p2] x1 pos) (.ok (.types [T1, T2])) δ := by
  constructor; intro C s Q E O S hq he
  have ha : EvLOk k nm σ δ [.Name n1 p1, .Name n2 p2] (.ok [.typ T1, .typ T2]) δ := EvLOk.cons (EvOk.bname h1 g1) (EvLOk.cons (EvOk.bname h2 g2) EvLOk.nil)
  refine wpAny_Tuple_spliced (ha.run C s _ _ _ O S (fun vs av1 s1 e1 a1 r1 => ?_) fun e X s1 e1 _ => nomatch e1)
  cases e1
  cases r1 with | cons q1 q2 =>
  cases q2 with | cons q2 q3 =>
  cases q3; cases q1; cases q2
  have S1 := S.aft O a1
  have a2 := Aft.of_push (t := s1.toks) S1 { cls := .type "tuple", data := .seq ([Value.type T1, Value.type T2] : List Value).toArray }
  exact ⟨(by show 2 ≤ sizeLine; decide), hq _ _ _ rfl (a1.trans a2) (.types (Heap.get?_push_size _ rfl) (hid_push S1))⟩
end
end Mine

namespace Mine
set_option maxRecDepth 100000

/-! ## json_value -/
theorem def_92 : DefAt 92 (fdOf 92) ["text"] (bodyOf 92) := ⟨fun _ => rfl, fun _ => rfl, rfl, rfl, rfl, rfl, rfl, rfl, rfl, by decide⟩
noncomputable abbrev nm92 : List (Str × NameKind) := (fdOf 92).scope.names
noncomputable def jvL (x : Str) : Loc := [("text", .val (.str x))]
noncomputable def jvV (x : Str) (v : AV) (j : Nat) : Loc := [("text", .val (.str x)), ("value", .val v), ("at", .val (.int j))]

/-- text given as a text, or as octets that are read as it -/
noncomputable def Told (k : Nat) (a : AV) (x : Str) : Prop := a = .str x ∨ ∃ b, a = .bytes b ∧ FOk k (.builtin "bytes.decode") [.bytes b, .str (Str.ofString "utf-8")] (.str x)

theorem jv_start {k δ o res a} {x : Str} (ha : Told k a x) (ho : o.res = some res) {ℓ'} (h : XsOk k nm92 (jvL x) δ ((bodyOf 92).drop 1) o ℓ' δ) : CallOk (k + 1) 92 [a] δ res δ := by
  refine CallOk.plain (o := o) (ℓ' := ℓ') def_92 (by decide) (by decide) rfl (fun s vals hv => ?_) ?_ ho
  · match vals, hv with
    | [a], _ => exact BindsTo.of_eq rfl
  rcases ha with rfl | ⟨b, rfl, hb⟩
  · refine XsOk.cons (ℓ1 := jvL x) (δ1 := δ) (XOk.ifF (δ1 := δ) (TOk.val (EvOk.bcall bn_isinstance rfl (fun _ => nofun) (EvLOk.cons (EvOk.name rfl) (EvLOk.cons (EvOk.bname bn_bytes rfl) EvLOk.nil)) FOk.isiBytesS)) XsOk.nil) h
  · refine XsOk.cons (ℓ1 := jvL x) (δ1 := δ) (XOk.ifT (δ1 := δ) (TOk.val (EvOk.bcall bn_isinstance rfl (fun _ => nofun) (EvLOk.cons (EvOk.name rfl) (EvLOk.cons (EvOk.bname bn_bytes rfl) EvLOk.nil)) FOk.isiBytesB)) (XsOk.cons (ℓ1 := jvL x) (δ1 := δ) (XOk.assign (av := .str x) ?_ rfl) XsOk.nil)) h
    exact EvOk.meth (EvOk.name (av := .bytes b) rfl) (EvLOk.cons EvOk.str EvLOk.nil) rfl FB.plainAttrs_bytes FB.slot_bytes_decode FB.type_bytes_decode hb

theorem jv_end {k δ o ℓ'} {x : Str} (hx : x.length < 2 ^ 24) {v : AV} {p j : Nat} (hp : spaceF x 0 = p) (hc : CallOk (k + 1) 71 [.str x, .int p] δ (.ok (.tuple [v, .int j])) δ) (h : XsOk (k + 1) nm92 (jvV x v j) δ ((bodyOf 92).drop 2) o ℓ' δ) : XsOk (k + 1) nm92 (jvL x) δ ((bodyOf 92).drop 1) o ℓ' δ := by
  subst hp
  refine XsOk.cons (ℓ1 := jvV x v j) (δ1 := δ) (XOk.unpackT [("value", _), ("at", _)] rfl (EvOk.call gn_json_value_at rfl fn_71 (EvLOk.cons (EvOk.name rfl) (EvLOk.cons (EvOk.call gn_json_space rfl fn_43 (EvLOk.cons (EvOk.name rfl) (EvLOk.cons EvOk.int EvLOk.nil)) ((space_ok (by omega) 0 (by omega)).mono (by omega))) EvLOk.nil)) hc) (by decide) rfl) h

/-- a whole text read -/
theorem json_value_ok {k δ a} {x : Str} (hx : x.length < 2 ^ 24) (ha : Told k a x) {b1 b2 : List Nat} {t : JT} (hxt : x.cps.toList = b1 ++ (t.text ++ b2)) (h1 : Blk b1) (h2 : Blk b2) (ht : t.ok) (hk : 2 * t.dep + 3 ≤ k) : CallOk (k + 1) 92 [a] δ (.ok t.val) δ := by
  obtain ⟨k, rfl⟩ : ∃ k', k = k' + 1 := ⟨k - 1, by omega⟩
  have h0 : At x 0 (b1 ++ (t.text ++ b2)) := ⟨hxt, Nat.zero_le _⟩
  obtain ⟨e0, hA⟩ := h0.skip h1 (JT.text_head ht _)
  have hnd : NoDig b2 := by have := noDig_blk h2 noDig_nil; simpa using this
  obtain ⟨j, hj, hc⟩ := value_ok hx t ht hk hA hnd
  have hE := hA.app
  have hE' : At x (0 + b1.length + t.text.length) (b2 ++ []) := by simpa using hE
  obtain ⟨e1, hZ⟩ := hE'.skip h2 (fun _ _ q => nomatch q)
  have hlen := hZ.nil
  have hje : spaceF x j = x.length := by
    rcases hj with rfl | rfl
    · rw [e1]; exact hlen
    · rw [spaceF_idem, e1]; exact hlen
  have hjl : j ≤ x.length := by
    have := (spaceF_le hE.le).2
    have := hE.le
    rcases hj with rfl | rfl <;> omega
  refine jv_start (o := .ret t.val) ha rfl (jv_end hx e0 (hc δ) (XsOk.cons (ℓ1 := jvV x t.val j) (δ1 := δ) (XOk.ifF (δ1 := δ) ?_ XsOk.nil) (XsOk.ret (XOk.ret (EvOk.name rfl)))))
  refine TOk.cmp' (at_space hx (by omega) rfl rfl rfl) (EvOk.bcall bn_len rfl (fun _ => nofun) (EvLOk.cons (EvOk.name (av := .str x) rfl) EvLOk.nil) (FOk.lenS (by omega))) POk.neI ?_
  rw [hje]
  simp

/-- a text that is refused by json_value_at -/
theorem json_value_exc {k δ} {x : Str} {p : Nat} (hx : x.length < 2 ^ 24) (hp : spaceF x 0 = p) (hc : CallOk (k + 1) 71 [.str x, .int p] δ (.exc "ValueError") δ) : CallOk (k + 2) 92 [.str x] δ (.exc "ValueError") δ := by
  subst hp
  exact jv_start (o := .exc "ValueError") (.inl rfl) rfl (XsOk.exc (XOk.unpackExc (EvOk.call gn_json_value_at rfl fn_71 (EvLOk.cons (EvOk.name rfl) (EvLOk.cons (EvOk.call gn_json_space rfl fn_43 (EvLOk.cons (EvOk.name rfl) (EvLOk.cons EvOk.int EvLOk.nil)) ((space_ok (by omega) 0 (by omega)).mono (by omega))) EvLOk.nil)) hc)))

/-- something behind the value -/
theorem json_value_extra {k δ} {x : Str} (hx : x.length < 2 ^ 24) {t : JT} {s : List Nat} (hxt : x.cps.toList = t.text ++ s) (ht : t.ok) (hnd : NoDig s) (hs : spaces s < s.length) (hk : 2 * t.dep + 3 ≤ k) : CallOk (k + 1) 92 [.str x] δ (.exc "ValueError") δ := by
  obtain ⟨k, rfl⟩ : ∃ k', k = k' + 1 := ⟨k - 1, by omega⟩
  have h0 : At x 0 (t.text ++ s) := ⟨hxt, Nat.zero_le _⟩
  have e0 : spaceF x 0 = 0 := by
    have := (At.skip (b := []) h0 blk_nil (JT.text_head ht _)).1
    simpa using this
  obtain ⟨j, hj, hc⟩ := value_ok hx t ht hk h0 hnd
  have hE := h0.app
  have hje : spaceF x j = 0 + t.text.length + spaces s := by
    rcases hj with rfl | rfl
    · rw [hE.space]
    · rw [spaceF_idem, hE.space]
  have hlen := hE.len
  have hjl : j ≤ x.length := by
    have := (spaceF_le hE.le).2
    have := hE.le
    rcases hj with rfl | rfl <;> omega
  refine jv_start (o := .exc "ValueError") (.inl rfl) rfl (jv_end hx e0 (hc δ) (XsOk.exc (ℓ1 := jvV x t.val j) (XOk.ifT (δ1 := δ) ?_ (XsOk.raiseV rfl))))
  refine TOk.cmp' (at_space hx (by omega) rfl rfl rfl) (EvOk.bcall bn_len rfl (fun _ => nofun) (EvLOk.cons (EvOk.name (av := .str x) rfl) EvLOk.nil) (FOk.lenS (by omega))) POk.neI ?_
  rw [hje, bne_iff_ne]
  omega

/-- a cut text -/
theorem json_value_cut {k δ} {x : Str} (hx : x.length < 2 ^ 24) {t : JT} {m : List Nat} (hxt : t.text = x.cps.toList ++ m) (hm : m ≠ []) (ht : t.ok) (hb : t.bare) (hbr : t.isBr = true) (hk : 2 * t.dep + 3 ≤ k) : CallOk (k + 1) 92 [.str x] δ (.exc "ValueError") δ := by
  obtain ⟨k, rfl⟩ : ∃ k', k = k' + 1 := ⟨k - 1, by omega⟩
  have h0 : At x 0 x.cps.toList := At.zero
  have e0 : spaceF x 0 = 0 := by
    have hnb : ∀ c s, x.cps.toList = c :: s → blank c = false := by
      intro c s e
      obtain ⟨c0, s0, ec, hc0, _⟩ := JT.head ht
      rw [ec, e] at hxt
      simp at hxt
      rw [← hxt.1]; exact hc0
    have := (At.skip (b := []) h0 blk_nil hnb).1
    simpa using this
  rcases value_cut hx t ht hb (k := k + 1) (by omega) hm hxt h0 with he | ⟨q, _⟩
  · exact json_value_exc hx e0 (he δ)
  · rw [hbr] at q; cases q

/-- a comma twice -/
theorem json_value_double {k δ} {x : Str} (hx : x.length < 2 ^ 24) {t : JT} {r : List Nat} (hxt : x.cps.toList = 91 :: (t.text ++ 44 :: 44 :: r)) (ht : t.ok) (hk : 2 * t.dep + 3 ≤ k) : CallOk (k + 3) 92 [.str x] δ (.exc "ValueError") δ := by
  obtain ⟨k, rfl⟩ : ∃ k', k = k' + 1 := ⟨k - 1, by omega⟩
  have h0 : At x 0 (91 :: (t.text ++ 44 :: 44 :: r)) := ⟨hxt, Nat.zero_le _⟩
  have e0 : spaceF x 0 = 0 := by
    have := (At.skip (b := []) h0 blk_nil (fun c t e => by cases e; rfl)).1
    simpa using this
  have h1 := h0.tail
  have e1 : spaceF x (0 + 1) = 0 + 1 := by
    have := (At.skip (b := []) h1 blk_nil (JT.text_head ht _)).1
    simpa using this
  obtain ⟨j, hj, hc⟩ := value_ok hx t ht hk h1 (noDig_of (by decide))
  obtain ⟨rfl, hje⟩ := val_end h1.app (fun d t e => by cases e; rfl) hj
  have h2 := h1.app
  have h3 := h2.tail
  have e3 : spaceF x (0 + 1 + t.text.length + 1) = 0 + 1 + t.text.length + 1 := by
    have := (At.skip (b := []) h3 blk_nil (fun c t e => by cases e; rfl)).1
    simpa using this
  have st := list_more (δ := δ) (vs := []) hx (hc δ) h2.le hje h2 (Nat.zero_le _)
  rw [e3] at st
  have hn := value_num (k := 1) (δ := δ) hx h3 (by decide) (by simp [wNull]) (by simp [wTrue]) (by simp [wFalse]) (num_bad (δ := δ) hx h3 (by decide) (by decide))
  have hw : WOk (k + 1) nm78 (lisL x (0 + 1) []) δ (.whileLoop lisT lisB []) (.exc "ValueError") _ δ := WOk.step lisT_true st (.inl rfl) (WOk.exc lisT_true (list_exc (hn.mono (by omega))))
  obtain ⟨c, s, ec, _, hc93, _⟩ := JT.head ht
  have hl := list_def (δ := δ) hx h1 (by rw [ec]; simpa using hc93) (o := .exc "ValueError") rfl (by intro q; cases q) hw
  rw [← e1] at hl
  exact json_value_exc hx e0 (value_list hx h0 hl)
end Mine

namespace Mine
set_option maxRecDepth 100000

theorem noteFrame_congr {e : Value} {env env' : Env} (h : env.frame = env'.frame) : noteFrame e env = noteFrame e env' := by
  unfold noteFrame PySem.frameOf
  rw [h]

/-! ## comprehensions -/
/-- the names of a comprehension's own scope, as the frame around it has them -/
noncomputable def relabelN (nm names : List (Str × NameKind)) : List (Str × NameKind) := names.map fun p => if (p.2 == .free && nm.lookup p.1 == some .cell) then (p.1, .cell) else p
theorem relabel_names {scope : Scope} {env : Env} {nm : List (Str × NameKind)} (hk : env.scope.kind = .function) (hn : ∀ x, env.kindOf x = nm.lookup x) : (relabel scope env).names = relabelN nm scope.names := by
  unfold relabel relabelN
  simp only [hk, hn]
  refine List.map_congr_left fun p _ => ?_
  obtain ⟨n, k⟩ := p
  simp

/-- the cells that a comprehension takes along -/
noncomputable def closN (cells : List (Str × Addr)) : List (Str × NameKind) → List (Str × Addr) → List (Str × Addr)
  | [], acc => acc
  | (n, k) :: r, acc => closN cells r (if k == .free then (n, (cells.lookup n).getD 0) :: acc else acc)

theorem clos_loop {env : Env} : ∀ (names : List (Str × NameKind)) (acc : List (Str × Addr)), (∀ p ∈ names, p.2 = .free → ∃ c, env.cells.lookup p.1 = some c) →
    (forIn names acc fun (x : Str × NameKind) (cs : List (Str × Addr)) => (if x.2 == .free then do let a ← cellOf env x.1; pure (ForInStep.yield ((x.1, a) :: cs)) else pure (ForInStep.yield cs) : Sem (ForInStep (List (Str × Addr))))) = pure (closN env.cells names acc)
  | [], acc, _ => rfl
  | (n, k) :: r, acc, h => by
    rw [List.forIn_cons]
    have hr := fun p hp => h p (List.mem_cons_of_mem _ hp)
    by_cases hk : k = .free
    · subst hk
      obtain ⟨c, hc⟩ := h (n, .free) (List.mem_cons_self ..) rfl
      have e : cellOf env n = pure c := by unfold cellOf; rw [hc]
      simp only [beq_self_eq_true, if_true, e]
      show (forIn r ((n, c) :: acc) _ : Sem _) = _
      rw [clos_loop r _ hr]
      simp [closN, hc]
    · have hb : (k == NameKind.free) = false := by simpa using hk
      simp only [hb, Bool.false_eq_true, if_false]
      show (forIn r acc _ : Sem _) = _
      rw [clos_loop r _ hr]
      simp [closN, hb]
theorem closureFor_eq {scope : Scope} {env : Env} (h : ∀ p ∈ scope.names, p.2 = .free → ∃ c, env.cells.lookup p.1 = some c) : closureFor scope env = pure (closN env.cells scope.names []) := by
  unfold closureFor
  have := clos_loop (env := env) scope.names [] h
  exact (congrArg (fun t : Sem (List (Str × Addr)) => t >>= fun cs => pure cs) this).trans rfl
theorem closN_lookup {cells : List (Str × Addr)} : ∀ (names : List (Str × NameKind)) (acc : List (Str × Addr)) (x : Str), (∀ c, acc.lookup x = some c → cells.lookup x = some c) → (∀ p ∈ names, p.2 = .free → (cells.lookup p.1).isSome) →
    ∀ c, (closN cells names acc).lookup x = some c → cells.lookup x = some c
  | [], acc, x, h, _, c, e => h c e
  | (n, k) :: r, acc, x, h, hf, c, e => by
    refine closN_lookup r _ x (fun c' e' => ?_) (fun p hp => hf p (List.mem_cons_of_mem _ hp)) c e
    by_cases hk : (k == NameKind.free) = true
    · rw [if_pos hk, List.lookup_cons] at e'
      cases hx : x == n with
      | true =>
        rw [hx] at e'
        have : x = n := by simpa using hx
        subst this
        have hs := hf (x, k) (List.mem_cons_self ..) (by simpa using hk)
        obtain ⟨d, hd⟩ := Option.isSome_iff_exists.mp hs
        rw [hd] at e' ⊢
        simpa using e'
      | false => rw [hx] at e'; exact h c' e'
    · rw [if_neg hk] at e'; exact h c' e'
theorem closN_has {cells : List (Str × Addr)} : ∀ (names : List (Str × NameKind)) (acc : List (Str × Addr)) (x : Str), (x, .free) ∈ names ∨ (acc.lookup x).isSome → ((closN cells names acc).lookup x).isSome
  | [], acc, x, h => by simpa [closN] using h
  | (n, k) :: r, acc, x, h => by
    refine closN_has r _ x ?_
    rcases h with h | h
    · rcases List.mem_cons.mp h with h | h
      · cases h
        right
        simp
      · exact .inl h
    · right
      by_cases hk : (k == NameKind.free) = true
      · rw [if_pos hk, List.lookup_cons]
        cases x == n <;> simp [h]
      · rw [if_neg hk]; exact h

/-! ## the comprehension's loop -/
noncomputable def TestsOk (k : Nat) (nm : List (Str × NameKind)) (σ : List (Str × AV)) (δ : Draw) (ifs : List Expr) (b : Bool) : Prop :=
  (ifs = [] ∧ b = true) ∨ ∃ c, ifs = [c] ∧ TOk k nm σ δ c b δ

/-- what a comprehension makes of the items that are left -/
inductive CompR (k : Nat) (nm : List (Str × NameKind)) (σ : List (Str × AV)) (δ : Draw) (x : Str) (ifs : List Expr) (elt : Expr) : List AV → LRes → Prop
  | nil : CompR k nm σ δ x ifs elt [] (.ok [])
  | skip {a r res} : TestsOk k nm ((x, a) :: σ) δ ifs false → CompR k nm σ δ x ifs elt r res → CompR k nm σ δ x ifs elt (a :: r) res
  | take {a r v vs} : TestsOk k nm ((x, a) :: σ) δ ifs true → EvOk k nm ((x, a) :: σ) δ elt (.ok v) δ → CompR k nm σ δ x ifs elt r (.ok vs) → CompR k nm σ δ x ifs elt (a :: r) (.ok (v :: vs))
  | later {a r v X} : TestsOk k nm ((x, a) :: σ) δ ifs true → EvOk k nm ((x, a) :: σ) δ elt (.ok v) δ → CompR k nm σ δ x ifs elt r (.exc X) → CompR k nm σ δ x ifs elt (a :: r) (.exc X)
  | exc {a r X} : TestsOk k nm ((x, a) :: σ) δ ifs true → EvOk k nm ((x, a) :: σ) δ elt (.exc X) δ → CompR k nm σ δ x ifs elt (a :: r) (.exc X)

noncomputable def LRes.after (done : List AV) : LRes → LRes
  | .ok vs => .ok (done ++ vs)
  | .exc X => .exc X

/-- the state between two turns; s0 stood ahead of the iterator -/
structure CInv (C : Cx) (s0 s : Shared) (I D L : Addr) (done : List AV) (δ : Draw) : Prop where
  same : Same s0 s
  keep : (C.v s0).StaysIn (C.v s)
  dr : DrawAt C.w C.D s.heap δ
  sz : s0.heap.objs.size ≤ s.heap.objs.size
  lt : I < s.heap.objs.size ∧ D < s.heap.objs.size ∧ L < s.heap.objs.size
  ns : ∃ m, (C.v s).Ns L m
  acc : ∃ ys, s.heap.PlainList D ys ∧ RdL C.w C.D s.heap (C.H ++ [I, D, L]) ys.toList done

/-- the context of a comprehension's own expressions -/
noncomputable def Cx.comp (C : Cx) (scope : Scope) (cl : List (Str × Addr)) (I D L : Addr) : Cx := { C with env := compEnvC scope cl L C.env, H := C.H ++ [I, D, L] }

section
variable {C : Cx} {s0 s s' : Shared} {I D L : Addr} {done : List AV} {δ : Draw} {σ σc : List (Str × AV)} {k : Nat} {nm nm' : List (Str × NameKind)} {scope : Scope} {cl : List (Str × Addr)}

theorem comp_ok (O : C.Ok k nm) (hk : scope.kind = .function) (hn : nm' = relabelN nm scope.names) : (C.comp scope cl I D L).Ok k nm' where
  room := O.room
  fr := O.fr
  ff := O.ff
  ef := O.ef
  kind := hk
  names := by
    show (relabel scope C.env).names = nm'
    rw [hn]; exact relabel_names O.kind O.kindOf
  gl := O.gl
  bl := O.bl
  dsub := fun a ha => List.mem_append_left _ (O.dsub a ha)

/-- what the comprehension may see of the names around it -/
structure Seen (C : Cx) (s0 : Shared) (nm' : List (Str × NameKind)) (cl : List (Str × Addr)) (x : Str) (σc : List (Str × AV)) : Prop where
  loc : nm'.lookup x = some .local
  val : ∀ y av, σc.lookup y = some av → y ≠ x ∧ (nm'.lookup y = some .cell ∨ (nm'.lookup y = some .free ∧ y ≠ "__classdict__")) ∧ ∃ c v, cl.lookup y = some c ∧ (C.v s0).IsCell c (some v) ∧ Rd C.w C.D s0.heap C.H v av

theorem CInv.ev (O : C.Ok k nm) (O' : (C.comp scope cl I D L).Ok k nm') (S0 : EvSt C σ δ s0) (h : CInv C s0 s I D L done δ) (fr : s0.heap.objs.size ≤ I ∧ s0.heap.objs.size ≤ D ∧ s0.heap.objs.size ≤ L) {x : Str} (sn : Seen C s0 nm' cl x σc)
    {a : AV} {v : Value} {m : Str → Option Value} (hm : (C.v s).Ns L m) (hx : m x = some v) (hr : Rd C.w C.D s.heap (C.H ++ [I, D, L]) v a) : EvSt (C.comp scope cl I D L) ((x, a) :: σc) δ s where
  gl := S0.gl.keeps h.keep
  base := stays_trans S0.base h.keep
  ff := funFrames_keeps h.keep S0.ff
  dr := h.dr
  hid := fun b hb => by
    have g := gl_big S0.gl
    have := h.lt
    rcases List.mem_append.mp hb with hb | hb
    · exact ⟨(S0.hid b hb).1, Nat.lt_of_lt_of_le (S0.hid b hb).2 h.sz⟩
    · simp only [List.mem_cons, List.not_mem_nil, or_false] at hb
      rcases hb with rfl | rfl | rfl
      · exact ⟨Nat.lt_of_lt_of_le g fr.1, h.lt.1⟩
      · exact ⟨Nat.lt_of_lt_of_le g fr.2.1, h.lt.2.1⟩
      · exact ⟨Nat.lt_of_lt_of_le g fr.2.2, h.lt.2.2⟩
  names := fun y av e => by
    rw [List.lookup_cons] at e
    cases hy : y == x with
    | true =>
      rw [hy] at e
      cases e
      have : y = x := by simpa using hy
      subst this
      exact ⟨v, .inl ⟨(O'.kindOf y).trans sn.loc, m, hm, hx⟩, hr⟩
    | false =>
      rw [hy] at e
      obtain ⟨_, h1, c, u, h2, h3, h4⟩ := sn.val y av e
      refine ⟨u, .inr ⟨?_, c, h2, h3.keeps h.keep⟩, (h4.fresh (H' := C.H ++ [I, D, L]) (Nat.le_refl _) fun b hb => ?_).keep ((v_keep h.keep).mono fun b hb => List.mem_append_left _ (O.dsub b hb))⟩
      · rw [O'.kindOf y]; exact h1
      · rcases List.mem_append.mp hb with hb | hb
        · exact .inr hb
        · simp only [List.mem_cons, List.not_mem_nil, or_false] at hb
          rcases hb with rfl | rfl | rfl
          · exact .inl fr.1
          · exact .inl fr.2.1
          · exact .inl fr.2.2
end
end Mine

namespace Mine
set_option maxRecDepth 100000

section
variable {C : Cx} {s0 s s' : Shared} {I D L : Addr} {done done' : List AV} {δ : Draw} {σ σc : List (Str × AV)} {k : Nat} {nm nm' : List (Str × NameKind)} {scope : Scope} {cl : List (Str × Addr)}

theorem CInv.move (h : CInv C s0 s I D L done δ) (fr : s0.heap.objs.size ≤ I ∧ s0.heap.objs.size ≤ D ∧ s0.heap.objs.size ≤ L) (same : Same s s') (hk : Keep (Dl C.D ++ [I, D, L]) s.heap s'.heap) (dr : DrawAt C.w C.D s'.heap δ) (sz : s.heap.objs.size ≤ s'.heap.objs.size)
    (ns : ∃ m, (C.v s').Ns L m) (acc : ∃ ys, s'.heap.PlainList D ys ∧ RdL C.w C.D s'.heap (C.H ++ [I, D, L]) ys.toList done') : CInv C s0 s' I D L done' δ where
  same := h.same.trans same
  keep := fun b o e => by
    have e1 := h.keep b o e
    have hb := Heap.lt_size (v_get e)
    refine get_v (hk b o (fun q => ?_) (v_get e1)) (v_notin e1)
    simp only [List.mem_append, List.mem_cons, List.not_mem_nil, or_false] at q
    rcases q with q | rfl | rfl | rfl
    · exact v_notin e1 q
    · exact Nat.lt_irrefl _ (Nat.lt_of_lt_of_le hb fr.1)
    · exact Nat.lt_irrefl _ (Nat.lt_of_lt_of_le hb fr.2.1)
    · exact Nat.lt_irrefl _ (Nat.lt_of_lt_of_le hb fr.2.2)
  dr := dr
  sz := Nat.le_trans h.sz sz
  lt := ⟨Nat.lt_of_lt_of_le h.lt.1 sz, Nat.lt_of_lt_of_le h.lt.2.1 sz, Nat.lt_of_lt_of_le h.lt.2.2 sz⟩
  ns := ns
  acc := acc

/-- one of the loop's own objects changes -/
theorem keep_own {a : Addr} {h h' : Heap} (ha : a ∈ [I, D, L]) (hk : ∀ b o, b ≠ a → h.get? b = some o → h'.get? b = some o) : Keep (Dl C.D ++ [I, D, L]) h h' := fun b o hb e => hk b o (fun q => hb (List.mem_append_right _ (q ▸ ha))) e
theorem draw_own (h : CInv C s0 s I D L done δ) (fr : s0.heap.objs.size ≤ I ∧ s0.heap.objs.size ≤ D ∧ s0.heap.objs.size ≤ L) (dr0 : DrawAt C.w C.D s0.heap δ) {a : Addr} {h' : Heap} (ha : a ∈ [I, D, L]) (hk : ∀ b o, b ≠ a → s.heap.get? b = some o → h'.get? b = some o) : DrawAt C.w C.D h' δ :=
  h.dr.of_eq fun b hb o e => ⟨o.slots, hk b o (fun q => by
    have := dr0.lt b hb
    subst q
    simp only [List.mem_cons, List.not_mem_nil, or_false] at ha
    rcases ha with rfl | rfl | rfl
    · exact Nat.lt_irrefl _ (Nat.lt_of_lt_of_le this fr.1)
    · exact Nat.lt_irrefl _ (Nat.lt_of_lt_of_le this fr.2.1)
    · exact Nat.lt_irrefl _ (Nat.lt_of_lt_of_le this fr.2.2)) e⟩

theorem comp_mem {b : Addr} (h : b ∈ [I, D, L]) : b ∈ C.H ++ [I, D, L] := List.mem_append_right _ h

structure Own3 (C : Cx) (s0 : Shared) (I D L : Addr) : Prop where
  fr : s0.heap.objs.size ≤ I ∧ s0.heap.objs.size ≤ D ∧ s0.heap.objs.size ≤ L
  id : I ≠ D
  il : I ≠ L
  dl : D ≠ L

theorem upto_ns {h h' : Heap} {L : Addr} {m : Str → Option Value} (hn : h.Ns L m) (u : h.UpToSlots h') : h'.Ns L m := by
  obtain ⟨o, es, ep, ho, hd, r⟩ := hn
  obtain ⟨sl, e⟩ := u L o ho fun vs q => by rw [hd] at q; cases q
  exact ⟨_, es, ep, e, hd, r⟩

theorem comp_loop {elt iter : Expr} {x : Str} {px : Pos} {ifs : List Expr} {pos : Pos} {R : Result → Shared → Prop} {fp : List Addr} {N : Nat} {P : Nat → Value → Prop} {St : Nat → Heap → Prop} {items : List AV} {res0 : LRes}
    (O : C.Ok k nm) (O' : (C.comp scope cl I D L).Ok k nm') (S0 : EvSt C σ δ s0) (w3 : Own3 C s0 I D L) (sn : Seen C s0 nm' cl x σc) (W : Walks pw C.w C.A I fp [I] N P St) (hfp : ∀ b ∈ fp, b ∉ Dl C.D ∧ b ≠ D ∧ b ≠ L)
    (h0 : CInv C s0 s I D L [] δ) (hst : St 0 s.heap) (hN : items.length = N) (hP : ∀ j v, j < items.length → P j v → ∃ av, items[j]? = some av ∧ Rd C.w C.D s.heap (C.H ++ [I, D, L]) v av) (hR : CompR k nm' σc δ x ifs elt items res0) (hsz : items.length ≤ sizeLine)
    (hok : ∀ s' vs, res0 = .ok vs → CInv C s0 s' I D L vs δ → R (.ok .next) s')
    (hex : ∀ e X s', res0 = .exc X → Same s0 s' → (C.v s0).UpToSlots (C.v s') → DrawAt C.w C.D s'.heap δ → ExcHeld C X e s'.heap → (∃ m, s'.heap.Ns L m) → R (.error (.ref e)) s') :
    codeAny (MM C.w) C.A (.compLoop (.ListComp elt [⟨.Name x px, iter, ifs, 0⟩] scope pos) 0 (.ref I) (.ref D) (compEnvC scope cl L C.env)) R s := by
  refine codeAny_compLoop_tests (fun n s => ∃ rest res done i, n = rest.length + 1 ∧ i + rest.length = N ∧ St i s.heap ∧ CInv C s0 s I D L done δ ∧ CompR k nm' σc δ x ifs elt rest res ∧ LRes.after done res = res0 ∧ done.length + rest.length ≤ sizeLine ∧
    (∀ j v, j < rest.length → P (i + j) v → ∃ av, rest[j]? = some av ∧ Rd C.w C.D s.heap (C.H ++ [I, D, L]) v av)) ?_ (items.length + 1)
    ⟨items, res0, [], 0, rfl, by omega, hst, h0, hR, by cases res0 <;> rfl, by simpa using hsz, fun j v hj hv => hP j v hj (by simpa using hv)⟩
  rintro n s ⟨rest, res, done, i, rfl, hi, hst, h, hr, hres, hlen, hP⟩
  have fr := w3.fr
  cases rest with
  | nil =>
    cases hr
    have : i = N := by simpa using hi
    subst this
    refine wpAny_size (W.done _ _ _ hst fun h' tk hk hz => ?_)
    have hk' : ∀ b o, b ≠ I → s.heap.get? b = some o → h'.get? b = some o := fun b o hb e => hk b o (by simpa using hb) e
    obtain ⟨m, hm⟩ := h.ns
    obtain ⟨ys, hys, hrd⟩ := h.acc
    refine hok _ done (by simpa [LRes.after] using hres.symm) (h.move (s' := { s with heap := h', toks := tk }) fr ⟨rfl, rfl, rfl⟩ (keep_own (C := C) (by simp) hk') (draw_own h fr S0.dr (by simp) hk') hz ⟨m, ?_⟩ ⟨ys, ?_, ?_⟩)
    · obtain ⟨o, es, ep, ho, r⟩ := hm
      exact ⟨o, es, ep, get_v (hk' _ o w3.il.symm (v_get ho)) (v_notin ho), r⟩
    · exact hys.at fun o e => hk' _ o w3.id.symm e
    · exact hrd.keep fun b o hb e => hk' b o (fun q => hb (comp_mem (by simp [q]))) e
  | cons a rest =>
    have hiN : i < N := by simp at hi; omega
    refine wpAny_size (W.item i _ _ _ hiN hst fun v h1 tk hv hst1 hk hz => ?_)
    have hk1 : ∀ b o, b ≠ I → s.heap.get? b = some o → h1.get? b = some o := fun b o hb e => hk b o (by simpa using hb) e
    obtain ⟨av, hav, hrv⟩ := hP 0 v (by simp) hv
    have : a = av := by simpa using hav
    subst this
    obtain ⟨m, hm⟩ := h.ns
    obtain ⟨ys, hys, hrd⟩ := h.acc
    have hxk : (compEnvC scope cl L C.env).kindOf x = some .local := (O'.kindOf x).trans sn.loc
    have hmL : h1.Ns L m := by
      obtain ⟨o, es, ep, ho, r⟩ := hm
      exact ⟨o, es, ep, hk1 _ o w3.il.symm (v_get ho), r⟩
    have kd := O'.kind
    refine wpAny_assign_Name (wpAny_storeName_local hxk (m := m) hmL (fun h2 hn2 hs2 => ?_) (by rw [show (compEnvC scope cl L C.env).scope.kind = .function from kd]; rfl))
    have hs2' : ∀ b o, b ≠ L → h1.get? b = some o → h2.get? b = some o := fun b o hb e => hs2.extBut b o hb e
    -- behind the item and the name
    have kp2 : Keep (Dl C.D ++ [I, D, L]) s.heap h2 := fun b o hb e => by
      simp only [List.mem_append, List.mem_cons, List.not_mem_nil, or_false, not_or] at hb
      exact hs2' b o hb.2.2.2 (hk1 b o hb.2.1 e)
    have kH2 : Keep (C.H ++ [I, D, L]) s.heap h2 := kp2.mono fun b hb => by
      rcases List.mem_append.mp hb with q | q
      · exact List.mem_append_left _ (O.dsub b q)
      · exact List.mem_append_right _ q
    have hLD : L ∉ Dl C.D := fun q => Nat.lt_irrefl _ (Nat.lt_of_lt_of_le (S0.dr.lt _ q) fr.2.2)
    have dr2 : DrawAt C.w C.D h2 δ := by
      have d1 := draw_own h fr S0.dr (a := I) (by simp) hk1
      exact d1.of_eq fun b hb o e => ⟨o.slots, hs2' b o (fun q => hLD (q ▸ hb)) e⟩
    have z2 : s.heap.objs.size ≤ h2.objs.size := by rw [hs2.1]; exact hz
    have nL2 : (V C.D h2).Ns L (fun y => if y = x then some v else m y) := by
      obtain ⟨o, es, ep, ho, r⟩ := hn2
      exact ⟨o, es, ep, get_v ho hLD, r⟩
    have C2 : CInv C s0 { s with heap := h2, toks := tk + 1 } I D L done δ := h.move fr ⟨rfl, rfl, rfl⟩ kp2 dr2 z2 ⟨_, nL2⟩ ⟨ys, hys.at fun o e => hs2' _ o w3.dl (hk1 _ o w3.id.symm e), hrd.keep kH2⟩
    have E2 := C2.ev O O' S0 fr sn nL2 (by simp) (hrv.keep kH2)
    have hst2 : St (i + 1) h2 := W.frame _ _ _ hst1 fun b hb o e => hs2' b o (hfp b hb).2.2 e
    have hP2 : ∀ j v, j < rest.length → P (i + 1 + j) v → ∃ av, rest[j]? = some av ∧ Rd C.w C.D h2 (C.H ++ [I, D, L]) v av := fun j v hj hv => by
      obtain ⟨av, q1, q2⟩ := hP (j + 1) v (by simpa using hj) (by rw [show i + (j + 1) = i + 1 + j by omega]; exact hv)
      exact ⟨av, by simpa using q1, q2.keep kH2⟩
    -- behind an expression
    have mv : ∀ {t t' : Shared} {dn}, CInv C s0 t I D L dn δ → Aft (C.comp scope cl I D L) t t' δ → St (i + 1) t.heap → CInv C s0 t' I D L dn δ ∧ St (i + 1) t'.heap ∧ Keep (C.H ++ [I, D, L]) t.heap t'.heap := fun {t t' dn} ht ha hst => by
      have kd := v_keep ha.keep
      have kH : Keep (C.H ++ [I, D, L]) t.heap t'.heap := kd.mono fun b hb => List.mem_append_left _ (O.dsub b hb)
      obtain ⟨m, hm⟩ := ht.ns
      obtain ⟨ys, hys, hrd⟩ := ht.acc
      have hDD : D ∉ Dl C.D := fun q => Nat.lt_irrefl _ (Nat.lt_of_lt_of_le (S0.dr.lt _ q) fr.2.1)
      refine ⟨ht.move fr ha.same (kd.mono fun b hb => List.mem_append_left _ hb) ha.dr ha.sz ⟨m, hm.keeps ha.keep⟩ ⟨ys, hys.at fun o e => kd _ o hDD e, hrd.keep kH⟩, W.frame _ _ _ hst fun b hb o e => kd b o (hfp b hb).1 e, kH⟩
    have tests : ∀ {b : Bool} {Q : Bool → Shared → Prop} {E : Value → Shared → Prop}, TestsOk k nm' ((x, a) :: σc) δ ifs b → (∀ t', Aft (C.comp scope cl I D L) { s with heap := h2, toks := tk + 1 } t' δ → Q b t') →
        wpAny (MM C.w) C.A (forIn ifs true fun c r => if r = true then do let ok ← isTrue c (compEnvC scope cl L C.env) (eval c (compEnvC scope cl L C.env)); pure (ForInStep.yield ok) else pure (ForInStep.yield r)) Q E { s with heap := h2, toks := tk + 1 } := fun {b Q E} ht hq => by
      rcases ht with ⟨rfl, rfl⟩ | ⟨c, rfl, ht⟩
      · exact wpAny_tests_nil (hq _ (Aft.refl E2))
      · exact wpAny_tests_one (ht.run (C.comp scope cl I D L) _ _ _ O' E2 fun t' ha => hq t' ha)
    have again : ∀ {t : Shared} {dn res'}, CInv C s0 t I D L dn δ → St (i + 1) t.heap → Keep (C.H ++ [I, D, L]) h2 t.heap → CompR k nm' σc δ x ifs elt rest res' → LRes.after dn res' = res0 → dn.length + rest.length ≤ sizeLine →
        ∃ n', n' < (a :: rest).length + 1 ∧ ∃ rest' res' done i, n' = rest'.length + 1 ∧ i + rest'.length = N ∧ St i t.heap ∧ CInv C s0 t I D L done δ ∧ CompR k nm' σc δ x ifs elt rest' res' ∧ LRes.after done res' = res0 ∧ done.length + rest'.length ≤ sizeLine ∧
          (∀ j v, j < rest'.length → P (i + j) v → ∃ av, rest'[j]? = some av ∧ Rd C.w C.D t.heap (C.H ++ [I, D, L]) v av) := fun {t dn res'} ht hst hk hr he hl =>
      ⟨rest.length + 1, by simp, rest, res', dn, i + 1, rfl, by simp at hi; omega, hst, ht, hr, he, hl, fun j v hj hv => let ⟨av, q1, q2⟩ := hP2 j v hj hv; ⟨av, q1, q2.keep hk⟩⟩
    have taken : ∀ {u : AV} {t : Shared} {y : Value} {res'} {E : Value → Shared → Prop}, CInv C s0 t I D L done δ → St (i + 1) t.heap → Keep (C.H ++ [I, D, L]) h2 t.heap → Rd C.w C.D t.heap (C.H ++ [I, D, L]) y u → CompR k nm' σc δ x ifs elt rest res' → LRes.after (done ++ [u]) res' = res0 →
        wpAny (MM C.w) C.A (call (.builtin "list.append") [.ref D, y]) (fun _ t' => ∃ n', n' < (a :: rest).length + 1 ∧ ∃ rest' res' done i, n' = rest'.length + 1 ∧ i + rest'.length = N ∧ St i t'.heap ∧ CInv C s0 t' I D L done δ ∧ CompR k nm' σc δ x ifs elt rest' res' ∧ LRes.after done res' = res0 ∧ done.length + rest'.length ≤ sizeLine ∧
          (∀ j v, j < rest'.length → P (i + j) v → ∃ av, rest'[j]? = some av ∧ Rd C.w C.D t'.heap (C.H ++ [I, D, L]) v av)) E t := fun {u t y res' E} ht hst hk hy hr he => by
      obtain ⟨ys, hys, hrd⟩ := ht.acc
      obtain ⟨m, hm⟩ := ht.ns
      have hyl : ys.size = done.length := by have := hrd.length; simpa using this
      refine wpAny_list_append_plain (hsz := by simp at hlen; omega) hys fun h5 hl5 hs5 => ?_
      have hk5 : ∀ b o, b ≠ D → t.heap.get? b = some o → h5.get? b = some o := fun b o hb e => hs5.extBut b o hb e
      have kH5 : Keep (C.H ++ [I, D, L]) t.heap h5 := fun b o hb e => hk5 b o (fun q => hb (comp_mem (by simp [q]))) e
      refine again (t := { t with heap := h5 }) (dn := done ++ [u]) (ht.move fr ⟨rfl, rfl, rfl⟩ (keep_own (C := C) (by simp) hk5) (draw_own ht fr S0.dr (by simp) hk5) (Nat.le_of_eq hs5.1.symm) ⟨m, ?_⟩ ⟨ys.push y, hl5, ?_⟩) (W.frame _ _ _ hst fun b hb o e => hk5 b o (hfp b hb).2.1 e) (fun b o hb e => kH5 b o hb (hk b o hb e)) hr he (by simp at hlen ⊢; omega)
      · obtain ⟨o, es, ep, ho, r⟩ := hm
        exact ⟨o, es, ep, get_v (hk5 _ o w3.dl.symm (v_get ho)) (v_notin ho), r⟩
      · rw [Array.toList_push]
        exact (hrd.keep kH5).append (.cons (hy.keep kH5) .nil)
    cases hr with
    | skip ht hr =>
      refine tests ht fun t ha => ?_
      obtain ⟨c3, s3, k3⟩ := mv C2 ha hst2
      simp only [Bool.false_eq_true, if_false]
      exact again c3 s3 k3 hr hres (by simp at hlen; omega)
    | take ht he hr =>
      refine tests ht fun t ha => ?_
      obtain ⟨c3, s3, k3⟩ := mv C2 ha hst2
      simp only [if_true]
      refine he.run (C.comp scope cl I D L) t _ _ O' (E2.aft O' ha) (fun y u t2 e2 a2 r2 => ?_) fun e X s1 e1 _ => nomatch e1
      cases e2
      obtain ⟨c4, s4, k4⟩ := mv c3 a2 s3
      exact taken c4 s4 (fun b o hb e => k4 b o hb (k3 b o hb e)) r2 hr (by simpa [LRes.after] using hres)
    | later ht he hr =>
      refine tests ht fun t ha => ?_
      obtain ⟨c3, s3, k3⟩ := mv C2 ha hst2
      simp only [if_true]
      refine he.run (C.comp scope cl I D L) t _ _ O' (E2.aft O' ha) (fun y u t2 e2 a2 r2 => ?_) fun e X s1 e1 _ => nomatch e1
      cases e2
      obtain ⟨c4, s4, k4⟩ := mv c3 a2 s3
      exact taken c4 s4 (fun b o hb e => k4 b o hb (k3 b o hb e)) r2 hr (by simpa [LRes.after] using hres)
    | exc ht he =>
      refine tests ht fun t ha => ?_
      obtain ⟨c3, s3, k3⟩ := mv C2 ha hst2
      simp only [if_true]
      refine he.run (C.comp scope cl I D L) t _ _ O' (E2.aft O' ha) (fun y u t2 e2 a2 r2 => nomatch e2) fun e X t2 e1 xa => ?_
      cases e1
      unfold notedBy
      rw [noteFrame_congr (env' := C.fenv) (show (compEnvC scope cl L C.env).frame = C.fenv.frame from O.ef.trans O.ff.symm)]
      obtain ⟨m3, hm3⟩ := c3.ns
      refine noteAny O.fr O.ff (.inl xa.exc) fun h' hh u => ?_
      refine hex e _ _ hres.symm (c3.same.trans xa.same) (((Heap.UpToSlots.of_keeps c3.keep).trans xa.upto).trans (upto_v u)) (xa.dr.upto u) hh ⟨m3, ?_⟩
      exact upto_ns (upto_ns hm3 xa.upto |>.keeps v_stays_real) u
end
end Mine

namespace Mine
set_option maxRecDepth 100000

structure CScope (nm nm' : List (Str × NameKind)) (σ σc : List (Str × AV)) (x : Str) (scope : Scope) : Prop where
  kind : scope.kind = .function
  nocell : ∀ y ∈ scope.names, y.2 ≠ .cell
  names : ∀ y ∈ scope.names, y.2 = .local → scope.names.lookup y.1 = some .local
  rel : nm' = relabelN nm scope.names
  loc : nm'.lookup x = some .local
  frees : (scope.names.filter fun p => p.2 == .free).map (·.1) = σc.map (·.1)
  cells : ∀ y ∈ σc.map (·.1), y ≠ x ∧ nm.lookup y = some .cell ∧ nm'.lookup y = some .cell
  vals : ∀ p ∈ σc, σ.lookup p.1 = some p.2

section
variable {C : Cx} {s : Shared} {σ σc : List (Str × AV)} {δ δ1 : Draw} {k : Nat} {nm nm' : List (Str × NameKind)} {scope : Scope} {x : Str}

theorem cell_of (O : C.Ok k nm) (S : EvSt C σ δ s) {y : Str} {av : AV} (hk : nm.lookup y = some .cell) (hv : σ.lookup y = some av) : ∃ c v, C.env.cells.lookup y = some c ∧ (C.v s).IsCell c (some v) ∧ Rd C.w C.D s.heap C.H v av := by
  obtain ⟨v, hn, hr⟩ := S.names y av hv
  rcases hn with ⟨h1, _⟩ | ⟨_, c, hc, hi⟩
  · rw [O.kindOf y, hk] at h1; cases h1
  · exact ⟨c, v, hc, hi, hr⟩

theorem lookup_mem {y : Str} {av : AV} : ∀ {l : List (Str × AV)}, l.lookup y = some av → (y, av) ∈ l
  | [], h => by simp at h
  | (z, u) :: r, h => by
    rw [List.lookup_cons] at h
    cases hy : y == z with
    | true => rw [hy] at h; cases h; have : y = z := by simpa using hy
              subst this; exact List.mem_cons_self ..
    | false => rw [hy] at h; exact List.mem_cons_of_mem _ (lookup_mem h)

theorem CScope.closure (P : CScope nm nm' σ σc x scope) (O : C.Ok k nm) (S : EvSt C σ δ s) : closureFor scope C.env = pure (closN C.env.cells scope.names []) := by
  refine closureFor_eq fun p hp hf => ?_
  have : p.1 ∈ σc.map (·.1) := by
    rw [← P.frees]
    exact List.mem_map.mpr ⟨p, List.mem_filter.mpr ⟨hp, by simp [hf]⟩, rfl⟩
  obtain ⟨q, hq, e⟩ := List.mem_map.mp this
  obtain ⟨c, _, hc, _⟩ := cell_of O S (P.cells _ this).2.1 (e ▸ P.vals q hq)
  exact ⟨c, hc⟩

theorem CScope.seen (P : CScope nm nm' σ σc x scope) (O : C.Ok k nm) (S : EvSt C σ δ s) : Seen C s nm' (closN C.env.cells scope.names []) x σc where
  loc := P.loc
  val := fun y av e => by
    have hm := lookup_mem e
    have hy : y ∈ σc.map (·.1) := List.mem_map.mpr ⟨_, hm, rfl⟩
    obtain ⟨h1, h2, h3⟩ := P.cells y hy
    obtain ⟨c, v, hc, hi, hr⟩ := cell_of O S h2 (P.vals _ hm)
    refine ⟨h1, .inl h3, c, v, ?_, hi, hr⟩
    have hfm : (y, NameKind.free) ∈ scope.names := by
      have := P.frees ▸ hy
      obtain ⟨p, hp, e'⟩ := List.mem_map.mp this
      obtain ⟨hp1, hp2⟩ := List.mem_filter.mp hp
      obtain ⟨n, kd⟩ := p
      simp at hp2 e'
      subst hp2 e'
      exact hp1
    obtain ⟨c', hc'⟩ := Option.isSome_iff_exists.mp (closN_has (cells := C.env.cells) scope.names [] y (.inl hfm))
    have hall : ∀ p ∈ scope.names, p.2 = .free → (C.env.cells.lookup p.1).isSome := fun p hp hf => by
      have : p.1 ∈ σc.map (·.1) := by
        rw [← P.frees]
        exact List.mem_map.mpr ⟨p, List.mem_filter.mpr ⟨hp, by simp [hf]⟩, rfl⟩
      obtain ⟨q, hq, e⟩ := List.mem_map.mp this
      obtain ⟨c, _, hc, _⟩ := cell_of O S (P.cells _ this).2.1 (e ▸ P.vals q hq)
      rw [hc]; rfl
    have := closN_lookup scope.names [] y (fun _ q => nomatch q) hall c' hc'
    rw [hc] at this
    rw [hc', this]

theorem comp_eval {elt iter : Expr} {px : Pos} {ifs : List Expr} {pos : Pos} {a : AV} {items : List AV} {res : LRes} {use : Option (Value → Sem Unit)} {Q : Value → Shared → Prop} {E : Value → Shared → Prop}
    (O : C.Ok k nm) (S : EvSt C σ δ s) (h1 : EvOk k nm σ δ iter (.ok a) δ1) (hi : ItOk a items) (P : CScope nm nm' σ σc x scope) (hR : CompR k nm' σc δ1 x ifs elt items res) (hsz : items.length ≤ sizeLine)
    (hs : ∀ env v, foldedSetIterable iter env v = pure v)
    (hok : ∀ s1 s' I D L vs, res = .ok vs → Aft C s s1 δ1 → Own3 C s1 I D L → CInv C s1 s' I D L vs δ1 → compPost (MM C.w) C.A E use Q (.ref D) L (.ok .next) s')
    (hex : ∀ s1 s' I D L e X, res = .exc X → Aft C s s1 δ1 → Own3 C s1 I D L → Same s1 s' → (C.v s1).UpToSlots (C.v s') → DrawAt C.w C.D s'.heap δ1 → ExcHeld C X e s'.heap → (∃ m, s'.heap.Ns L m) → compPost (MM C.w) C.A E use Q (.ref D) L (.error (.ref e)) s') :
    wpAny (MM C.w) C.A (comprehension (.ListComp elt [⟨.Name x px, iter, ifs, 0⟩] scope pos) scope C.env (firstIterPos [⟨.Name x px, iter, ifs, 0⟩] pos) (newList []) false (eval iter C.env) use) Q E s := by
  refine wpAny_comprehension_free (use := use) rfl (hs _) (P.closure O S) P.kind P.names (h1.run C s _ _ O S (fun va av s1 e1 a1 r1 => ?_) fun e X s1 e1 _ => nomatch e1)
  cases e1
  have S1 := S.aft O a1
  refine hi C.w C.D C.A C.H s1 va _ _ O.room.handled r1 fun o fp PP St W hst hfp hP => ?_
  refine wpAny_newObj_type (wpAny_newFunctionEnv P.nocell (by intro y hy; simp at hy) (fun h₁ hns₁ hsb₁ => ?_) P.kind)
  dsimp only at hns₁ hsb₁ ⊢
  generalize hH2 : (s1.heap.push o).push { cls := .type "list", dict := none, data := .seq ([] : List Value).toArray } = H2 at hns₁ hsb₁ ⊢
  have hD : (s1.heap.push o).objs.size = s1.heap.objs.size + 1 := Heap.size_push ..
  have hL : H2.objs.size = s1.heap.objs.size + 2 := by rw [← hH2, Heap.size_push, hD]
  have nD : s1.heap.objs.size < (s1.heap.push o).objs.size := by rw [hD]; exact Nat.lt_succ_self _
  have nL : (s1.heap.push o).objs.size < H2.objs.size := by rw [hL, hD]; exact Nat.lt_succ_self _
  have w3 : Own3 C s1 s1.heap.objs.size (s1.heap.push o).objs.size H2.objs.size :=
    ⟨⟨Nat.le_refl _, Nat.le_of_lt nD, Nat.le_of_lt (Nat.lt_trans nD nL)⟩, Nat.ne_of_lt nD, Nat.ne_of_lt (Nat.lt_trans nD nL), Nat.ne_of_lt nL⟩
  have lt2 : ∀ {b : Addr}, b < s1.heap.objs.size → b ≠ H2.objs.size := fun h => Nat.ne_of_lt (Nat.lt_trans h (Nat.lt_trans nD nL))
  have old2 : ∀ b o', (s1.heap.push o).get? b = some o' → h₁.get? b = some o' := fun b o' e => hsb₁.extBut b o' (Nat.ne_of_lt (Nat.lt_trans (Heap.lt_size e) nL)) (Heap.get?_push_of_some _ (hH2 ▸ Heap.get?_push_of_some _ e))
  have old : ∀ b o', s1.heap.get? b = some o' → h₁.get? b = some o' := fun b o' e => old2 b o' (Heap.get?_push_of_some _ e)
  have hacc : h₁.PlainList (s1.heap.push o).objs.size #[] := ⟨_, hsb₁.extBut _ _ (Nat.ne_of_lt nL) (Heap.get?_push_of_some _ (hH2 ▸ Heap.get?_push_size _ rfl))⟩
  have z₁ : H2.objs.size < h₁.objs.size := hns₁.lt
  have c0 : CInv C s1 { s1 with heap := h₁, toks := s1.toks + ([] : List (Str × Value)).length } s1.heap.objs.size (s1.heap.push o).objs.size H2.objs.size [] δ1 := {
    same := ⟨rfl, rfl, rfl⟩
    keep := v_stays fun b o' _ e => old b o' e
    dr := S1.dr.keep old
    sz := Nat.le_of_lt (Nat.lt_trans nD (Nat.lt_trans nL z₁))
    lt := ⟨Nat.lt_trans nD (Nat.lt_trans nL z₁), Nat.lt_trans nL z₁, z₁⟩
    ns := by
      obtain ⟨o', es, ep, ho, r⟩ := hns₁
      exact ⟨_, o', es, ep, get_v ho fun q => lt2 (S1.dr.lt _ q) rfl, r⟩
    acc := ⟨#[], hacc, .nil⟩ }
  have hst₁ : St 0 h₁ := (W C.A O.room.handled).frame _ _ _ hst fun b _ o' e => old2 b o' e
  have loop : ∀ s₃ : Shared, s₃ = { s1 with heap := h₁, toks := s1.toks + ([] : List (Str × Value)).length } →
      codeAny (MM C.w) C.A (.compLoop (.ListComp elt [⟨.Name x px, iter, ifs, 0⟩] scope pos) 0 (.ref s1.heap.objs.size) (.ref (s1.heap.push o).objs.size) (compEnvC scope (closN C.env.cells scope.names []) H2.objs.size C.env)) (compPost (MM C.w) C.A E use Q (.ref (s1.heap.push o).objs.size) H2.objs.size) s₃ := by
    rintro s₃ rfl
    refine comp_loop (fp := fp) (P := PP) (St := St) (items := items) O (comp_ok O P.kind P.rel) S1 w3 (P.seen O S1) (W C.A O.room.handled) (fun b hb => ?_) c0 hst₁ rfl (fun j v hj hv => ?_) hR hsz (fun s' vs e c => hok s1 s' _ _ _ vs e a1 w3 c) fun e X s' er sm up dr hh hn => hex s1 s' _ _ _ e X er a1 w3 sm up dr hh hn
    · rcases hfp b hb with rfl | ⟨q1, q2⟩
      · exact ⟨fun q => Nat.lt_irrefl _ (S1.dr.lt _ q), Nat.ne_of_lt nD, Nat.ne_of_lt (Nat.lt_trans nD nL)⟩
      · exact ⟨fun q => q2 (O.dsub b q), Nat.ne_of_lt (Nat.lt_trans q1 nD), lt2 q1⟩
    · obtain ⟨av, q1, q2⟩ := hP j v hj hv
      refine ⟨av, q1, (q2.fresh (H' := C.H ++ [s1.heap.objs.size, (s1.heap.push o).objs.size, H2.objs.size]) (Nat.le_refl _) fun b hb => ?_).keep fun b o' _ e => old b o' e⟩
      rcases List.mem_append.mp hb with hb | hb
      · exact .inr hb
      · simp only [List.mem_cons, List.not_mem_nil, or_false] at hb
        left
        rcases hb with rfl | rfl | rfl
        · exact w3.fr.1
        · exact w3.fr.2.1
        · exact w3.fr.2.2
  exact codeAny_compStart_list (loop _ rfl) ((W C.A O.room.handled).self 0 _ _ _ hst₁ (loop _ rfl))
end
end Mine

namespace Mine
set_option maxRecDepth 100000

section
variable {C : Cx} {s s1 s' : Shared} {σ σc : List (Str × AV)} {δ δ1 : Draw} {k : Nat} {nm nm' : List (Str × NameKind)} {scope : Scope} {x : Str} {I D L : Addr}

/-- the comprehension's own names go -/
theorem CInv.fin {vs : List AV} (S1 : EvSt C σ δ s1) (w3 : Own3 C s1 I D L) (h : CInv C s1 s' I D L vs δ) {h' : Heap} {t : Nat} (hs : Heap.SameBut L s'.heap h') : Aft C s1 { s' with heap := h', toks := t } δ ∧ Rd C.w C.D h' C.H (.ref D) (.list vs) := by
  have hk : ∀ b o, b ≠ L → s'.heap.get? b = some o → h'.get? b = some o := fun b o hb e => hs.extBut b o hb e
  obtain ⟨ys, hys, hrd⟩ := h.acc
  refine ⟨⟨⟨h.same.1, h.same.2.1, h.same.2.2⟩, fun b o e => ?_, draw_own h w3.fr S1.dr (a := L) (by simp) hk, Nat.le_trans h.sz (Nat.le_of_eq hs.1.symm)⟩, ?_⟩
  · have e1 := h.keep b o e
    exact get_v (hk b o (fun q => Nat.lt_irrefl _ (Nat.lt_of_lt_of_le (q ▸ Heap.lt_size (v_get e)) w3.fr.2.2)) (v_get e1)) (v_notin e1)
  · have hD : s1.heap.objs.size ≤ D := w3.fr.2.1
    refine .list (hys.at fun o e => hk _ o w3.dl e).isList (fun q => Nat.lt_irrefl _ (Nat.lt_of_lt_of_le (S1.hid _ q).2 hD)) (ne_sys_of (Nat.lt_of_lt_of_le (gl_big S1.gl) hD)) ?_
    exact (hrd.keep fun b o hb e => hk b o (fun q => hb (comp_mem (by simp [q]))) e).weak fun b hb => List.mem_append_left _ hb

/-- an exception goes on out of a comprehension -/
theorem comp_exc {X : String} {e : Addr} {m : Str → Option Value} (S1 : EvSt C σ δ s1) (hL : s1.heap.objs.size ≤ L) (up : (C.v s1).UpToSlots (C.v s')) (hh : ExcHeld C X e s'.heap) (hn : s'.heap.Ns L m) {h' : Heap} (hs : Heap.SameBut L s'.heap h')
    {M : Model} {A : Around} {E : Value → Shared → Prop} {Q : Value → Shared → Prop} {what : String} {cenv : Env} (hE : ∀ h'', ExcAt C X e h'' → h'.UpToSlots h'' → E (.ref e) { s' with heap := h'' }) :
    wpAny M A (PySem.passOn what (.ref e) cenv : Sem Value) Q E { s' with heap := h' } := by
  obtain ⟨a0, kb, en, fl, oe, vs, T, oT, ts, he, hcls, hd, h1, hnT, hTe, hT, hdT, h3⟩ := hh
  obtain ⟨oL, es, ep, hoL, hdL, _⟩ := hn
  have hk : ∀ b, b ≠ L → h'.get? b = s'.heap.get? b := fun b hb => hs.2 b hb
  have heL : e ≠ L := fun q => by rw [q, hoL] at he; cases he; rw [hdL] at hd; cases hd
  have hTL : T ≠ L := fun q => by rw [q, hoL] at hT; cases hT; rw [hdL] at hdT; cases hdT
  have he' : h'.get? e = some oe := (hk e heL).trans he
  have hT' : h'.get? T = some oT := (hk T hTL).trans hT
  have hbL : C.base.get? L = none := by
    cases q : C.base.get? L with
    | none => rfl
    | some o => exact absurd (Heap.lt_size (v_get (S1.base _ _ q))) (Nat.not_lt.mpr hL)
  have hsz3 : 3 < ts.size := (Array.getElem?_eq_some_iff.mp h3).1
  unfold PySem.passOn
  refine wpAny_bind (wpAny_field he' hd h1 ?_)
  rw [if_neg (show ¬ (Value.ref T == Value.none) = true from by simp)]
  unfold setFlight
  refine wpAny_bind (wpAny_bind (wpAny_field he' hd h1 ?_))
  rw [if_pos (show (Value.ref T != Value.none) = true from by simp)]
  have other : ∀ (f : Obj → Obj) b, b ≠ T → (h'.update T f).get? b = h'.get? b := fun f b hb => Heap.get?_update_other _ _ (Ne.symm hb)
  have plain : ∀ b o, h'.get? b = some o → (∀ vs, o.data ≠ .fields vs) → b ≠ T := fun b o hb hnf q => by
    rw [q, hT'] at hb; cases hb; exact hnf ts hdT
  refine wpAny_setField hT' hdT hsz3 (wpAny_throw (hE _ ⟨a0, .inr (.inr ⟨_, ?_, en, ?_, oe, vs, T, _, _, (other _ e (Ne.symm hTe)).trans he', hcls, hd, h1, hnT, hTe, Heap.get?_update_self _ hT' (Obj.isFreed_of_fields (Obj.data_mapFields hdT _)), Obj.data_mapFields hdT _, by simp [hsz3]; rfl⟩)⟩ ?_))
  · intro b o hb
    have hbT : b ≠ T := fun q => by rw [q, hnT] at hb; cases hb
    have hbL' : b ≠ L := fun q => by rw [q, hbL] at hb; cases hb
    exact (other _ b hbT).trans ((hk b hbL').trans (kb b o hb))
  · refine S1.ff.of_keeps fun b o hb hnf => ?_
    obtain ⟨sl, e1⟩ := up b o hb hnf
    have hbL' : b ≠ L := fun q => Nat.lt_irrefl _ (Nat.lt_of_lt_of_le (q ▸ Heap.lt_size (v_get hb)) hL)
    have e2 : h'.get? b = some { o with slots := sl } := (hk b hbL').trans (v_get e1)
    exact ⟨_, (other _ b (plain b _ e2 hnf)).trans e2, rfl⟩
  · exact fun b o hb hnf => ⟨o.slots, (other _ b (plain b o hb hnf)).trans hb⟩

noncomputable def LRes.res : LRes → ERes
  | .ok vs => .ok (.list vs)
  | .exc X => .exc X

theorem EvOk.listComp {elt iter : Expr} {px : Pos} {ifs : List Expr} {pos : Pos} {a : AV} {items : List AV} {res : LRes} (h1 : EvOk k nm σ δ iter (.ok a) δ1) (hi : ItOk a items) (P : CScope nm nm' σ σc x scope) (hR : CompR k nm' σc δ1 x ifs elt items res) (hsz : items.length ≤ sizeLine)
    (hs : ∀ env v, foldedSetIterable iter env v = pure v := by intro _ _; rfl) : EvOk k nm σ δ (.ListComp elt [⟨.Name x px, iter, ifs, 0⟩] scope pos) res.res δ1 := by
  constructor; intro C s Q E O S hq he
  rw [eval_ListComp]
  refine comp_eval O S h1 hi P hR hsz hs (fun s1 s' I D L vs e a1 w3 c => ?_) fun s1 s' I D L e X er a1 w3 sm up dr hh hn => ?_
  · obtain ⟨m, hm⟩ := c.ns
    refine ⟨m, hm.keeps v_stays_real, fun h' hs' => ?_⟩
    obtain ⟨a2, r2⟩ := c.fin (t := s'.toks) (S.aft O a1) w3 hs'
    exact hq _ _ _ (by rw [e]; rfl) (a1.trans a2) r2
  · obtain ⟨m, hm⟩ := hn
    refine ⟨m, hm, fun h' hs' cenv _ => ?_⟩
    have S1 := S.aft O a1
    refine comp_exc S1 w3.fr.2.2 up hh hm hs' fun h'' hx u => he e X _ (by rw [er]; rfl) (ExcAft.after a1 ⟨⟨sm.1, sm.2.1, sm.2.2⟩, ?_, ?_, hx⟩)
    · intro b o hb hnf
      obtain ⟨sl, e1⟩ := up b o hb hnf
      have hbL : b ≠ L := fun q => Nat.lt_irrefl _ (Nat.lt_of_lt_of_le (q ▸ Heap.lt_size (v_get hb)) w3.fr.2.2)
      obtain ⟨sl2, e2⟩ := u b _ ((hs'.2 b hbL).trans (v_get e1)) hnf
      exact ⟨sl2, get_v e2 (v_notin hb)⟩
    · have d1 : DrawAt C.w C.D h' δ1 := dr.of_eq fun b hb o e => ⟨o.slots, (hs'.2 b fun q => Nat.lt_irrefl _ (Nat.lt_of_lt_of_le (S1.dr.lt _ (q ▸ hb)) w3.fr.2.2)).trans e⟩
      exact d1.upto u
end
end Mine

namespace Mine
set_option maxRecDepth 100000

section
variable {F : FCx} {O : List Addr} {ℓ ℓ' : Loc} {σc : List (Str × AV)} {δ δ1 : Draw} {s s' : Shared} {k : Nat} {nm nm' : List (Str × NameKind)} {L : Addr} {scope : Scope} {x : Str}

theorem StSt.hideAt (K : F.Ok k nm) (S : StSt F O ℓ δ s) (hL : s.heap.objs.size ≤ L) (hL' : L < s'.heap.objs.size) (a : Aft F.C s s' δ1) : StSt (F.more L) O ℓ δ1 s' := by
  have S' := S.aft' K a
  refine ⟨S'.same, S'.dr, S'.h0, fun b hb => ?_, S'.cel, fun b hb => ?_, ?_⟩
  · rcases List.mem_append.mp hb with h | h
    · exact S'.hid b h
    · have : b = L := by simpa using h
      subst this
      exact ⟨Nat.lt_of_lt_of_le (gl_big (S.gl K)) hL, hL'⟩
  · obtain ⟨h1, h2, h3, _⟩ := S'.own b hb
    refine ⟨fun q => ?_, h2, h3, (S'.own b hb).2.2.2⟩
    rcases List.mem_append.mp q with h | h
    · exact h1 h
    · have : b = L := by simpa using h
      subst this
      exact Nat.lt_irrefl _ (Nat.lt_of_lt_of_le (S.own _ hb).2.2.2 hL)
  · obtain ⟨m, hn, hl, hi⟩ := S.nml
    refine ⟨m, hn.keeps a.keep, fun y lv e => ?_, hi⟩
    exact LvIs.keep (F := F.more L) a.keep (fun b hb => List.mem_append_left _ (K.c.dsub b hb)) (fun b hb => S.ownD K b hb) ((hl y lv e).strong (I := L) hL)

/-- y := [.. for ..] -/
theorem XOk.assignComp {elt iter : Expr} {y : Str} {px py p : Pos} {ifs : List Expr} {pos : Pos} {a : AV} {items vs : List AV} (h1 : EvOk k nm (vals ℓ) δ iter (.ok a) δ1) (hi : ItOk a items) (P : CScope nm nm' (vals ℓ) σc x scope) (hR : CompR k nm' σc δ1 x ifs elt items (.ok vs)) (hsz : items.length ≤ sizeLine)
    (hy : nm.lookup y = some .local) (hsw : ∀ env : Env, env.scope.kind = .function → env.kindOf y = some .local → swapsWith (.ListComp elt [⟨.Name x px, iter, ifs, 0⟩] scope pos) (some (.Name y py)) p.line env = pure true)
    (hs : ∀ env v, foldedSetIterable iter env v = pure v := by intro _ _; rfl) : XOk k nm ℓ δ (.Assign [.Name y py] (.ListComp elt [⟨.Name x px, iter, ifs, 0⟩] scope pos) p) .next (setL y (.val (.list vs)) ℓ) δ1 := by
  constructor; intro F O s Q E K S hn hc hr he
  have hyk : F.C.env.kindOf y = some .local := (K.c.kindOf y).trans hy
  rw [exec_Assign_Name_used _ _ _ _ (hsw F.C.env K.c.kind hyk)]
  refine wpAny_bind (wpAny_standAt (wpAny_bind ?_))
  show wpAny _ F.C.A (do let _ ← comprehension (.ListComp elt [⟨.Name x px, iter, ifs, 0⟩] scope pos) scope F.C.env _ (newList []) false (eval iter F.C.env) (some (PySem.assign (.Name y py) F.C.env))) _ _ s
  refine wpAny_bind (wpAny_mono (Q := fun _ s' => Q .next s') (E := E) (comp_eval (C := F.C.hide O) (use := some (PySem.assign (.Name y py) F.C.env)) (Q := fun _ s' => Q .next s') (K.c.hide O) (S.evVals K) h1 hi P hR hsz hs (fun s1 s' I D L vs' e a1 w3 c => ?_) fun s1 s' I D L e X er _ _ _ _ _ _ _ => nomatch er) (fun _ s' hq => wpAny_pure (wpAny_pure hq)) fun _ _ e => e)
  cases e
  have S1 := (S.evVals K).aft (K.c.hide O) a1
  obtain ⟨af, rd⟩ := c.fin (t := s'.toks) S1 w3 (Heap.SameBut.refl L s'.heap)
  have aS := aft_back (a1.trans af)
  have hLs : s.heap.objs.size ≤ L := Nat.le_trans a1.sz w3.fr.2.2
  have S' : StSt (F.more L) O ℓ δ1 s' := S.hideAt K hLs c.lt.2.2 aS
  have hnI := c.ns
  have hrd : Rd F.C.w F.C.D s'.heap ((F.more L).C.H ++ O) (.ref D) (.list vs) := by
    obtain ⟨ys, hys, hrl⟩ := c.acc
    have hD : s1.heap.objs.size ≤ D := w3.fr.2.1
    refine .list hys.isList (fun q => ?_) (ne_sys_of (Nat.lt_of_lt_of_le (gl_big S1.gl) hD)) (hrl.weak fun b hb => ?_)
    · rcases mem_more.mp q with q | q
      · exact w3.dl q
      · exact Nat.lt_irrefl _ (Nat.lt_of_lt_of_le (S1.hid _ q).2 hD)
    · rcases mem_more.mp hb with rfl | q
      · exact List.mem_append_right _ (by simp)
      · exact List.mem_append_left _ q
  have hLne : L ∉ Dl F.C.D ++ F.C.Lf :: O := fun q => by
    simp only [List.mem_append, List.mem_cons] at q
    rcases q with q | q | q
    · exact Nat.lt_irrefl _ (Nat.lt_of_lt_of_le (S1.dr.lt _ q) w3.fr.2.2)
    · exact Nat.lt_irrefl _ (Nat.lt_of_lt_of_le (q ▸ S.lfLt) (q ▸ hLs))
    · exact Nat.lt_irrefl _ (Nat.lt_of_lt_of_le (S.own _ q).2.2.2 hLs)
  show wpAny _ F.C.A (PySem.assign (.Name y py) F.C.env (.ref D)) _ _ _
  refine wpAny_assign_Name (store_name (K.more L) S' hy (lv := .val (.list vs)) (fun m hm => ⟨.ref D, .inl ⟨hyk, hm⟩, hrd⟩) (fun q => nomatch q) fun s'' S'' kp sz => ?_)
  obtain ⟨m, o, es, ep, ho, r⟩ := hnI
  refine ⟨m, ⟨o, es, ep, kp _ o hLne (v_get ho), r⟩, fun h' hs' => ?_⟩
  have hL0 : F.h0.get? L = none := by
    cases q : F.h0.get? L with
    | none => rfl
    | some o => exact absurd (Heap.lt_size (v_get (S.h0 _ _ q))) (Nat.not_lt.mpr hLs)
  have Sf := S''.tick (I := L) (h' := h') (t := s''.toks) (K.more L) (List.mem_append_right _ (List.mem_singleton.mpr rfl)) (fun q => hLne (List.mem_append_left _ q)) (fun q => hLne (List.mem_append_right _ (List.mem_cons.mpr (.inl q)))) hL0
    (fun z c e q => Nat.lt_irrefl _ (Nat.lt_of_lt_of_le (q ▸ S.cel z c e) hLs)) (fun b o hb e => hs'.extBut b o (by simpa using hb) e) (Nat.le_of_eq hs'.1.symm)
  refine hn _ rfl ⟨⟨O, Sf.less, fun _ h => .inl h⟩, fun b o hb e => ?_, Nat.le_trans aS.sz (Nat.le_trans sz (Nat.le_of_eq hs'.1.symm))⟩
  have e1 := kp b o hb (keep_of_aft aS b o hb e)
  exact hs'.extBut b o (fun q => Nat.lt_irrefl _ (Nat.lt_of_lt_of_le (q ▸ Heap.lt_size e) hLs)) e1

/-- y := [.. for ..] raises -/
theorem XOk.assignCompExc {elt iter : Expr} {y : Str} {px py p : Pos} {ifs : List Expr} {pos : Pos} {a : AV} {items : List AV} {X : String} (h1 : EvOk k nm (peek ℓ) δ iter (.ok a) δ1) (hi : ItOk a items) (P : CScope nm nm' (peek ℓ) σc x scope) (hR : CompR k nm' σc δ1 x ifs elt items (.exc X)) (hsz : items.length ≤ sizeLine)
    (hy : nm.lookup y = some .local) (hsw : ∀ env : Env, env.scope.kind = .function → env.kindOf y = some .local → swapsWith (.ListComp elt [⟨.Name x px, iter, ifs, 0⟩] scope pos) (some (.Name y py)) p.line env = pure true)
    (hs : ∀ env v, foldedSetIterable iter env v = pure v := by intro _ _; rfl) : XOk k nm ℓ δ (.Assign [.Name y py] (.ListComp elt [⟨.Name x px, iter, ifs, 0⟩] scope pos) p) (.exc X) ℓ δ1 := by
  constructor; intro F O s Q E K S hn hc hr he
  have hyk : F.C.env.kindOf y = some .local := (K.c.kindOf y).trans hy
  rw [exec_Assign_Name_used _ _ _ _ (hsw F.C.env K.c.kind hyk)]
  refine wpAny_bind (wpAny_standAt (wpAny_bind ?_))
  show wpAny _ F.C.A (do let _ ← comprehension (.ListComp elt [⟨.Name x px, iter, ifs, 0⟩] scope pos) scope F.C.env _ (newList []) false (eval iter F.C.env) (some (PySem.assign (.Name y py) F.C.env))) _ _ s
  refine wpAny_bind (wpAny_mono (Q := fun _ s' => Q .next s') (E := E) (comp_eval (C := F.C) (use := some (PySem.assign (.Name y py) F.C.env)) (Q := fun _ s' => Q .next s') K.c (S.evPeek K) h1 hi P hR hsz hs (fun s1 s' I D L vs' e _ _ _ => nomatch e) fun s1 s' I D L e X' er a1 w3 sm up dr hh hn' => ?_) (fun _ s' hq => wpAny_pure (wpAny_pure hq)) fun _ _ e => e)
  cases er
  obtain ⟨m, hm⟩ := hn'
  refine ⟨m, hm, fun h' hs' cenv _ => ?_⟩
  have S1 := (S.evPeek K).aft K.c a1
  refine comp_exc S1 w3.fr.2.2 up hh hm hs' fun h'' hx u => he e X _ rfl (ExcStat.of K S (ExcAft.after a1 ⟨⟨sm.1, sm.2.1, sm.2.2⟩, ?_, ?_, hx⟩))
  · intro b o hb hnf
    obtain ⟨sl, e1⟩ := up b o hb hnf
    have hbL : b ≠ L := fun q => Nat.lt_irrefl _ (Nat.lt_of_lt_of_le (q ▸ Heap.lt_size (v_get hb)) w3.fr.2.2)
    obtain ⟨sl2, e2⟩ := u b _ ((hs'.2 b hbL).trans (v_get e1)) hnf
    exact ⟨sl2, get_v e2 (v_notin hb)⟩
  · have d1 : DrawAt F.C.w F.C.D h' δ1 := dr.of_eq fun b hb o e => ⟨o.slots, (hs'.2 b fun q => Nat.lt_irrefl _ (Nat.lt_of_lt_of_le (S1.dr.lt _ (q ▸ hb)) w3.fr.2.2)).trans e⟩
    exact d1.upto u
end
end Mine

namespace Mine
set_option maxRecDepth 100000

theorem bindL_other {kd : Str → Option NameKind} {x : Str} : ∀ (bs : List (Str × Value)) (m : Str → Option Value), x ∉ bs.map (·.1) → bindL kd bs m x = m x
  | [], m, _ => rfl
  | (n, v) :: r, m, h => by
    simp only [List.map_cons, List.mem_cons, not_or] at h
    show bindL kd r _ x = m x
    rw [bindL_other r _ h.2]
    split
    · simp [h.1]
    · rfl
theorem bindC_other {kd : Str → Option NameKind} {x : Str} : ∀ (bs : List (Str × Value)) (m : Str → Option Value), x ∉ bs.map (·.1) → bindC kd bs m x = m x
  | [], m, _ => rfl
  | (n, v) :: r, m, h => by
    simp only [List.map_cons, List.mem_cons, not_or] at h
    show bindC kd r _ x = m x
    rw [bindC_other r _ h.2]
    split
    · rfl
    · simp [h.1]

theorem binds_at {w D h H} {kd : Str → Option NameKind} : ∀ {ps : List Str} {vals : List Value} {args : List AV} {m cm : Str → Option Value}, ps.Nodup → ps.length = vals.length → RdL w D h H vals args → ∀ {x : Str} {lv : LV},
    (ps.zip (args.map LV.val)).lookup x = some lv → x ∈ ps ∧ ∃ av v, lv = .val av ∧ Rd w D h H v av ∧ (kd x = some .local → bindL kd (ps.zip vals) m x = some v) ∧ (kd x = some .cell → bindC kd (ps.zip vals) cm x = some v)
  | [], _, _, _, _, _, _, _, x, lv, e => by simp at e
  | p :: ps, [], _, _, _, _, hl, _, _, _, _ => by simp at hl
  | p :: ps, v :: vals, a :: args, m, cm, hn, hl, .cons r1 r2, x, lv, e => by
    have hn' := List.nodup_cons.mp hn
    simp only [List.map_cons, List.zip_cons_cons, List.lookup_cons] at e
    have notin : p ∉ (ps.zip vals).map (·.1) := fun q => by
      obtain ⟨z, hz, e⟩ := List.mem_map.mp q
      exact hn'.1 (e ▸ (List.of_mem_zip (a := z.1) (b := z.2) hz).1)
    cases hx : x == p with
    | true =>
      have hxp : x = p := by simpa using hx
      subst hxp
      rw [hx] at e
      cases e
      refine ⟨by simp, a, v, rfl, r1, fun hk => ?_, fun hk => ?_⟩
      · show bindL kd (ps.zip vals) _ x = some v
        rw [bindL_other _ _ notin, if_pos hk]; simp
      · show bindC kd (ps.zip vals) _ x = some v
        rw [bindC_other _ _ notin, if_neg (by rw [hk]; decide)]; simp
    | false =>
      rw [hx] at e
      obtain ⟨h1, av, u, h2, h3, h4, h5⟩ := binds_at hn'.2 (by simpa using hl) r2 e
      exact ⟨List.mem_cons_of_mem _ h1, av, u, h2, h3, h4, h5⟩

theorem CallOk.cells {k f fd ps body args dargs δ o ℓ' δ' r} (dv : List Value) (d : DefAt f fd ps body)
    (hdv : ∀ w D h H, RdL w D h H dv dargs) (hloc : ∀ n, ∀ p ∈ ps, fd.scope.names.lookup p = some .local ∨ (fd.scope.names.lookup p = some .cell ∧ ((cellsFrom n fd.scope.names []).lookup p).isSome = true)) (hlen : ps.length = args.length + dargs.length)
    (hb : ∀ (w : World) (s : Shared) (vals : List Value), vals.length = args.length → (hd.heap_39 w.params).In s.heap → BindsTo s fd ⟨vals, []⟩ (ps.zip (vals ++ dv)))
    (hx : XsOk k fd.scope.names (ps.zip ((args ++ dargs).map LV.val)) δ body o ℓ' δ') (hr : o.res = some r) : CallOk (k + 1) f args δ r δ' := by
  constructor; intro w D A base outer s H vals R room fr gl bs ff dr hid dsub rd hok hex
  have hvl := rd.length
  have ho := v_get (gl.1 _ _ (d.obj w))
  have hlim : s.heap.NoLimit := let ⟨_, _, _, T⟩ := gl.2; T.nolimit.keeps v_stays_real
  have hcd : s.heap.CodeRec fd.code fd.qualname := codeRec_of (gl.1.keeps v_stays_real) (d.code w)
  have rd' : RdL w D s.heap H (vals ++ dv) (args ++ dargs) := rd.append (hdv _ _ _ _)
  have hdl := (hdv w D s.heap H).length
  refine codeAny_call_function (fd := fd) (by rw [recursionLimit_val]; have := room.depth; omega) ho rfl d.coro d.gen d.body hcd (hb w s vals hvl (gl.1.keeps v_stays_real) _ _ _ _ ?_)
  have hclo : fd.closure = [] := d.clo
  rw [hclo]
  refine wpAny_newFunctionEnv_cells d.kind (fun y hy => hloc _ _ (List.of_mem_zip (a := y.1) (b := y.2) hy).1) fun env henv s' x => ?_
  have xk := x.toInCall.keep
  have xn := x.toInCall.ns
  obtain ⟨h₁, tk, es', _⟩ := x.done
  refine ⟨hlim.keeps xk, codeAny_func ?_⟩
  have eL : env.locals = s.heap.objs.size := by rw [henv]; rfl
  rw [eL] at xn
  let F : FCx := { C := { w := w, D := D, A := A.deeper env, base := base, outer := outer, fenv := env, env := env, Lf := s.heap.objs.size, H := s.heap.objs.size :: H }, h0 := V D s.heap, s0 := s }
  have hDlt := dr.lt
  have hLD : s.heap.objs.size ∉ Dl D := fun q => Nat.lt_irrefl _ (hDlt _ q)
  have cellGt : ∀ y c, env.cells.lookup y = some c → s.heap.objs.size < c := fun y c e => eL ▸ x.above y c (by
    have : ∀ {l : List (Str × Addr)}, l.lookup y = some c → (y, c) ∈ l := by
      intro l
      induction l with
      | nil => intro h; simp at h
      | cons p r ih =>
        obtain ⟨z, u⟩ := p
        intro h
        rw [List.lookup_cons] at h
        cases hy : y == z with
        | true =>
          rw [hy] at h
          cases h
          have : y = z := by simpa using hy
          subst this
          exact List.mem_cons_self ..
        | false => rw [hy] at h; exact List.mem_cons_of_mem _ (ih h)
    exact this e)
  have K : F.Ok k fd.scope.names := {
    c := {
      room := ⟨room.handled, room.guards, by show A.depth + 1 + k < 900; have := room.depth; omega, by show A.units + 3 + 20 * k < 9000; have := room.units; omega⟩
      fr := by show A.frames.map (env :: ·) = _; rw [fr]; rfl
      ff := by show env.frame = _; rw [henv]; rfl
      ef := by show env.frame = _; rw [henv]; rfl
      kind := by show env.scope.kind = _; rw [henv]; exact d.kind
      names := by show env.scope.names = _; rw [henv]; rfl
      gl := by show env.globals = _; rw [henv]; exact d.gl
      bl := by show env.builtins = _; rw [henv]; exact d.bl
      dsub := fun a ha => List.mem_cons_of_mem _ (dsub a ha) }
    ee := rfl
    loc := eL
    h0n := by
      cases q : (V D s.heap).get? s.heap.objs.size with
      | none => rfl
      | some o => exact absurd (Heap.lt_size (v_get q)) (Nat.lt_irrefl _)
    cells := fun y c e => Nat.ne_of_gt (cellGt y c e)
    gl0 := gl
    base0 := bs
    ff0 := ff
    lfH := List.mem_cons_self ..
    szL := Nat.le_refl _ }
  have kst : (V D s.heap).StaysIn (V D s'.heap) := v_stays fun b o _ e => xk b o e
  have hLs : s.heap.objs.size < s'.heap.objs.size := xn.lt
  have S : StSt F [] (ps.zip ((args ++ dargs).map LV.val)) δ s' := {
    same := by rw [es']; exact ⟨rfl, rfl, rfl⟩
    dr := dr.keep xk
    h0 := kst
    hid := fun a ha => (List.mem_cons.mp ha).elim (fun e => e ▸ ⟨gl_big gl, hLs⟩) fun h => ⟨(hid a h).1, Nat.lt_trans (hid a h).2 hLs⟩
    cel := fun y c e => (x.cell y c e).lt
    own := fun _ h => nomatch h
    nml := by
      refine ⟨bindL env.kindOf (ps.zip (vals ++ dv)) fun _ => none, ?_, fun y lv e => ?_, fun y z ly lz a ey ez oy oz _ _ => ?_⟩
      · obtain ⟨o, es, ep, ho', r'⟩ := xn
        exact ⟨o, es, ep, get_v ho' hLD, r'⟩
      · obtain ⟨hy', av, v, rfl, hr', h1, h2⟩ := binds_at (kd := env.kindOf) (m := fun _ => none) (cm := fun _ => none) d.nodup (by simp; omega) rd' e
        refine ⟨v, ?_, ?_⟩
        · have ek : ∀ z, env.kindOf z = fd.scope.names.lookup z := fun z => by rw [henv]; rfl
          rcases hloc (s.heap.objs.size + 1) y hy' with hk | ⟨hk, hc⟩
          · exact .inl ⟨(ek y).trans hk, h1 ((ek y).trans hk)⟩
          · obtain ⟨c, hc⟩ := Option.isSome_iff_exists.mp hc
            have hc' : env.cells.lookup y = some c := by rw [henv]; exact hc
            have hic := x.cell y c hc'
            rw [h2 ((ek y).trans hk)] at hic
            obtain ⟨oc, hoc, hdc⟩ := hic
            exact .inr ⟨.inl ((ek y).trans hk), c, hc', oc, get_v hoc (fun q => Nat.lt_irrefl _ (Nat.lt_trans (hDlt _ q) (cellGt y c hc'))), hdc⟩
        · rw [List.append_nil]
          exact (hr'.fresh (n := s.heap.objs.size) (Nat.le_refl _) fun b hb => (List.mem_cons.mp hb).imp (fun e => Nat.le_of_eq e.symm) id).keep fun b o _ e => xk b o e
      · obtain ⟨_, av, _, rfl, _⟩ := binds_at (kd := env.kindOf) (m := fun _ => none) (cm := fun _ => none) d.nodup (by simp; omega) rd' ey
        cases oy }
  have wk : ∀ b, b ∈ H → b ∈ F.C.H := fun b hb => List.mem_cons_of_mem _ hb
  refine hx.run F [] _ _ _ K S (fun s' e n => ?_) (fun s' e n => ?_) (fun v av s' e x => ?_) fun e X s' h x => ?_
  · subst e; cases hr
    obtain ⟨⟨O', S', _⟩, _, _⟩ := n
    exact hok .none .none s' rfl S'.same S'.h0 S'.dr (S'.sz K) .none
  · subst e; cases hr
  · subst e; cases hr
    exact hok v av s' rfl x.same x.h0 x.dr x.sz (x.rd.weak wk)
  · subst h; cases hr
    refine leaveAny (C := F.C) K.c.fr K.c.ff x.exc fun h' fl u => ?_
    exact hex e X _ rfl ⟨x.same.1, x.same.2.1, x.same.2.2⟩ (x.upto.trans (upto_v u)) (x.dr.upto u) fl
end Mine

namespace Mine
set_option maxRecDepth 100000

theorem glue_app (xs : List Str) : (glue (Str.ofString "") xs).cps.toList = xs.flatMap fun x => x.cps.toList := by
  show (Builtin.Str.glued (Str.ofString "") xs).cps.toList = _
  rw [StrLaws.glued_eq_join]
  have e0 : Str.ofString "" = ⟨#[]⟩ := by decide +kernel
  rw [e0]
  have app : ∀ a b : Str, (a ++ b).cps.toList = a.cps.toList ++ b.cps.toList := fun a b => by rw [Str.cps_append]; simp
  induction xs with
  | nil => rfl
  | cons v r ih =>
    cases r with
    | nil =>
      show v.cps.toList = _
      simp
    | cons w t =>
      show (v ++ ⟨#[]⟩ ++ Str.join ⟨#[]⟩ (w :: t)).cps.toList = _
      rw [app, app, ih]
      simp
theorem str_of_list {x : Str} {l : List Nat} (h : x.cps.toList = l) : x = ⟨l.toArray⟩ := by
  cases x with | mk c => subst h; simp

/-! ## json_string -/
noncomputable def jpair (c : Nat) : Option Nat := if c = 34 then some 34 else if c = 92 then some 92 else if c = 8 then some 98 else if c = 9 then some 116 else if c = 10 then some 110 else if c = 12 then some 102 else if c = 13 then some 114 else none
/-- the pieces that a sign is written as -/
noncomputable def jps (c : Nat) : List Str :=
  match jpair c with
  | some e => [⟨#[92, e]⟩]
  | none => if 32 ≤ c ∧ c < 127 then [sg c] else if c < 65536 then [hex4 c] else [hex4 (55296 + (c - 65536) / 1024), hex4 (56320 + (c - 65536) % 1024)]
theorem jps_short (c : Nat) : (jps c).length ≤ 2 ∧ ∀ y ∈ jps c, y.length ≤ 6 := by
  unfold jps
  cases jpair c with
  | some e => simp [Str.length]
  | none => dsimp only; split <;> (try split) <;> simp [Str.length, hex4]

theorem escapes_get (c : Nat) : getE escapesA (c : Int) = (jpair c).map fun e => .str ⟨#[92, e]⟩ := by
  have lits : Str.ofString "\\\"" = ⟨#[92, 34]⟩ ∧ Str.ofString "\\\\" = ⟨#[92, 92]⟩ ∧ Str.ofString "\\b" = ⟨#[92, 98]⟩ ∧ Str.ofString "\\t" = ⟨#[92, 116]⟩ ∧ Str.ofString "\\n" = ⟨#[92, 110]⟩ ∧ Str.ofString "\\f" = ⟨#[92, 102]⟩ ∧ Str.ofString "\\r" = ⟨#[92, 114]⟩ := by decide +kernel
  obtain ⟨l1, l2, l3, l4, l5, l6, l7⟩ := lits
  unfold escapesA getE
  rw [l1, l2, l3, l4, l5, l6, l7]
  unfold jpair
  by_cases h1 : c = 34; · subst h1; rfl
  by_cases h2 : c = 92; · subst h2; rfl
  by_cases h3 : c = 8; · subst h3; rfl
  by_cases h4 : c = 9; · subst h4; rfl
  by_cases h5 : c = 10; · subst h5; rfl
  by_cases h6 : c = 12; · subst h6; rfl
  by_cases h7 : c = 13; · subst h7; rfl
  have e : ∀ n : Nat, c ≠ n → ¬ ((n : Int) = (c : Int)) := fun n h q => h (by omega)
  simp [h1, h2, h3, h4, h5, h6, h7, List.find?, show ¬ ((34 : Int) = c) from e 34 h1, show ¬ ((92 : Int) = c) from e 92 h2, show ¬ ((8 : Int) = c) from e 8 h3, show ¬ ((9 : Int) = c) from e 9 h4, show ¬ ((10 : Int) = c) from e 10 h5, show ¬ ((12 : Int) = c) from e 12 h6, show ¬ ((13 : Int) = c) from e 13 h7]

theorem def_30 : DefAt 30 (fdOf 30) ["text"] (bodyOf 30) := ⟨fun _ => rfl, fun _ => rfl, rfl, rfl, rfl, rfl, rfl, rfl, rfl, by decide⟩
noncomputable abbrev nm30 : List (Str × NameKind) := (fdOf 30).scope.names
noncomputable def jsL (x : Str) (fs : List Str) : Loc := [("text", .val (.str x)), ("found", .own (fs.map AV.str))]
noncomputable def jsN (x : Str) (fs : List Str) (c : Nat) : Loc := [("text", .val (.str x)), ("found", .own (fs.map AV.str)), ("sign", .val (.str (sg c))), ("number", .val (.int c))]
noncomputable def jsB : List Stmt := wB (stAt (bodyOf 30) 1)

theorem XOk.appendS {k nm ℓ ℓ2 δ δ' x np apos pos p e} {fs : List Str} {y : Str} (h0 : ℓ.lookup x = some (.own (fs.map AV.str))) (h : EvOk k nm (vals ℓ) δ e (.ok (.str y)) δ') (hlen : fs.length ≤ sizeLine) (e2 : setL x (.own ((fs ++ [y]).map AV.str)) ℓ = ℓ2)
    (hd : (x == ("__debug__" : Str)) = false := by decide) (hline : (apos.endLine == pos.line) = true := by rfl) (hst : ∀ env, starEach [e] env = [(false, eval e env)] := by intro _; rfl) (hbt : ∀ env, backTo pos (starEach [e] env) = [(false, eval e env)] := by intro _; rfl) :
    XOk k nm ℓ δ (.Expr (.Call (.Attribute (.Name x np) "append" apos) [e] [] pos) p) .next ℓ2 δ' := by
  subst e2
  have e : (fs ++ [y]).map AV.str = fs.map AV.str ++ [AV.str y] := by simp
  rw [e]
  exact XOk.append h0 h (by simpa using hlen) hd hline hst hbt

theorem js_append {k δ x fs c e p1 p2 p3 p4} {y : Str} (h : EvOk k nm30 (vals (jsN x fs c)) δ e (.ok (.str y)) δ) (hf : fs.length ≤ 2 ^ 24) (hline : (p2.endLine == p3.line) = true) (hst : ∀ env, starEach [e] env = [(false, eval e env)]) (hbt : ∀ env, backTo p3 (starEach [e] env) = [(false, eval e env)]) :
    XOk k nm30 (jsN x fs c) δ (.Expr (.Call (.Attribute (.Name "found" p1) "append" p2) [e] [] p3) p4) .next (jsN x (fs ++ [y]) c) δ := by
  have := XOk.append (np := p1) (apos := p2) (pos := p3) (p := p4) (x := "found") (xs := fs.map AV.str) (ℓ := jsN x fs c) rfl h (by rw [sizeLine_eq]; simp; omega) (by decide) hline hst hbt
  have e : (fs ++ [y]).map AV.str = fs.map AV.str ++ [AV.str y] := by simp
  unfold jsN
  rw [e]
  exact this

theorem js_turn {δ x fs} {c : Nat} (hc : c ≤ 1114111) (hf : fs.length < 2 ^ 23) : XsOk 1 nm30 (setL "sign" (.val (.str (sg c))) (jsL x fs)) δ jsB .next (jsL x (fs ++ jps c)) δ := by
  refine XsOk.forget (ℓ2 := jsN x (fs ++ jps c) c) ?_ (.cons rfl (.cons rfl .nil))
  refine XsOk.cons (ℓ1 := jsN x fs c) (δ1 := δ) (XOk.assign (x := "number") (av := .int (c : Nat)) (EvOk.bcall bn_ord rfl (fun _ => nofun) (EvLOk.cons (EvOk.name (av := .str (sg c)) rfl) EvLOk.nil) FOk.ord) rfl) ?_
  have hget := escapes_get c
  unfold jps
  cases hp : jpair c with
  | some e =>
    rw [hp] at hget
    refine XsOk.one (XOk.ifT (δ1 := δ) (TOk.cmp' (EvOk.name (av := .int (c : Nat)) rfl) (EvOk.escapes rfl) POk.inI (by rw [hget]; rfl)) (XsOk.one ?_))
    exact js_append (EvOk.sub (EvOk.escapes rfl) (EvOk.name (av := .int (c : Nat)) rfl) (GOk.idict hget)) (by omega) rfl (fun _ => rfl) (fun _ => rfl)
  | none =>
    rw [hp] at hget
    refine XsOk.one (XOk.ifF (δ1 := δ) (TOk.cmp' (EvOk.name (av := .int (c : Nat)) rfl) (EvOk.escapes rfl) POk.inI (by rw [hget]; rfl)) (XsOk.one ?_))
    dsimp only
    by_cases h1 : 32 ≤ c ∧ c < 127
    · rw [if_pos h1]
      refine XOk.ifT (δ1 := δ) (TOk.chainT EvOk.int (EvOk.name (av := .int (c : Nat)) rfl) (POk.leI.of (decide_eq_true (by omega))) EvOk.int (POk.ltI.of (decide_eq_true (by omega)))) (XsOk.one ?_)
      exact js_append (EvOk.name rfl) (by omega) rfl (fun _ => rfl) (fun _ => rfl)
    · rw [if_neg h1]
      refine XOk.ifF (δ1 := δ) ?_ (XsOk.one ?_)
      · by_cases h2 : 32 ≤ c
        · exact TOk.chainT EvOk.int (EvOk.name (av := .int (c : Nat)) rfl) (POk.leI.of (decide_eq_true (by omega))) EvOk.int (POk.ltI.of (decide_eq_false (by omega)))
        · exact TOk.chainF EvOk.int (EvOk.name (av := .int (c : Nat)) rfl) (POk.leI.of (decide_eq_false (by omega)))
      · by_cases h3 : c < 65536
        · rw [if_pos h3]
          refine XOk.ifT (δ1 := δ) (TOk.cmp' (EvOk.name (av := .int (c : Nat)) rfl) EvOk.int POk.ltI (decide_eq_true (by omega))) (XsOk.one ?_)
          exact js_append (EvOk.call gn_hex_four rfl fn_23 (EvLOk.cons (EvOk.name (av := .int (c : Nat)) rfl) EvLOk.nil) (hex_four_ok h3)) (by omega) rfl (fun _ => rfl) (fun _ => rfl)
        · rw [if_neg h3]
          refine XOk.ifF (δ1 := δ) (TOk.cmp' (EvOk.name (av := .int (c : Nat)) rfl) EvOk.int POk.ltI (decide_eq_false (by omega))) ?_
          have e : fs ++ [hex4 (55296 + (c - 65536) / 1024), hex4 (56320 + (c - 65536) % 1024)] = (fs ++ [hex4 (55296 + (c - 65536) / 1024)]) ++ [hex4 (56320 + (c - 65536) % 1024)] := by simp
          rw [e]
          refine XsOk.cons (δ1 := δ) (ℓ1 := jsN x (fs ++ [hex4 (55296 + (c - 65536) / 1024)]) c) (js_append (EvOk.call gn_hex_four rfl fn_23 (EvLOk.cons (EvOk.bin EvOk.int (EvOk.bin (EvOk.bin (EvOk.name (av := .int (c : Nat)) rfl) EvOk.int (BOk.subL (by omega))) EvOk.int (BOk.divL (by decide))) BOk.addLr) EvLOk.nil) (hex_four_ok (by omega))) (by omega) rfl (fun _ => rfl) (fun _ => rfl)) (XsOk.one ?_)
          exact js_append (EvOk.call gn_hex_four rfl fn_23 (EvLOk.cons (EvOk.bin EvOk.int (EvOk.bin (EvOk.bin (EvOk.name (av := .int (c : Nat)) rfl) EvOk.int (BOk.subL (by omega))) EvOk.int (BOk.modL (by decide))) BOk.addLr) EvLOk.nil) (hex_four_ok (by omega))) (by simp; omega) rfl (fun _ => rfl) (fun _ => rfl)

theorem js_loop {δ x} : ∀ (cs : List Nat) (fs : List Str), (∀ c ∈ cs, c ≤ 1114111) → fs.length + 2 * cs.length < 2 ^ 23 →
    LOk 1 nm30 (jsL x fs) δ "sign" (cs.map fun c => .str (sg c)) jsB .next (jsL x (fs ++ cs.flatMap jps)) δ
  | [], fs, _, _ => by simpa using LOk.nil
  | c :: cs, fs, hc, hl => by
    have hp := (jps_short c).1
    have ih := js_loop (δ := δ) (x := x) cs (fs ++ jps c) (fun d hd => hc d (List.mem_cons_of_mem _ hd)) (by simp at hl ⊢; omega)
    have e : fs ++ (c :: cs).flatMap jps = (fs ++ jps c) ++ cs.flatMap jps := by simp
    rw [e]
    exact LOk.step rfl (js_turn (hc c (List.mem_cons_self ..)) (by simp at hl; omega)) (.inl rfl) ih

noncomputable def jesc (c : Nat) : List Nat := (jps c).flatMap fun x => x.cps.toList
noncomputable def jsonS (cs : List Nat) : Str := ⟨(34 :: (cs.flatMap jesc ++ [34])).toArray⟩

theorem json_string_ok {δ} {cs : List Nat} (hc : ∀ c ∈ cs, c ≤ 1114111) (hl : cs.length < 100000) : CallOk 2 30 [.str ⟨cs.toArray⟩] δ (.ok (.str (jsonS cs))) δ := by
  have hglue : glue (Str.ofString "") ([sg 34] ++ cs.flatMap jps ++ [sg 34]) = jsonS cs := by
    refine (str_of_list (glue_app _)).trans ?_
    unfold jsonS jesc
    congr 2
    simp [List.flatMap_assoc]
  have hlen : ∀ cs : List Nat, (cs.flatMap jps).length ≤ 2 * cs.length := fun cs => by
    induction cs with
    | nil => simp
    | cons c r ih => have := (jps_short c).1; simp only [List.flatMap_cons, List.length_append, List.length_cons]; omega
  have hok : JoinOk (Str.ofString "") ([sg 34] ++ cs.flatMap jps ++ [sg 34]) = true := by
    have e0 : (Str.ofString "").length = 0 := by decide +kernel
    unfold JoinOk
    rw [StrLaws.joinFits (B := 6) (fun y hy => ?_) (by rw [e0]; have := hlen cs; simp only [List.length_append, List.length_cons, List.length_nil, Nat.mul_zero, Nat.add_zero]; omega)]
    · rfl
    · simp only [List.mem_append, List.mem_singleton, List.mem_flatMap] at hy
      rcases hy with (rfl | ⟨c, _, hy⟩) | rfl
      · show 1 ≤ 6; decide
      · exact (jps_short c).2 y hy
      · show 1 ≤ 6; decide
  refine CallOk.plain (o := .ret (.str (jsonS cs))) (ℓ' := jsL ⟨cs.toArray⟩ ([sg 34] ++ cs.flatMap jps ++ [sg 34])) def_30 (by decide) (by decide) rfl (fun s vals hv => ?_) ?_ rfl
  · match vals, hv with
    | [a], _ => exact BindsTo.of_eq rfl
  have e34 : [sg 34].map AV.str = [AV.str (Str.ofString "\"")] := by rw [lit34]; rfl
  have s0 : XOk 1 nm30 [("text", .val (.str ⟨cs.toArray⟩))] δ (stAt (bodyOf 30) 0) .next (jsL ⟨cs.toArray⟩ [sg 34]) δ := by
    unfold jsL
    rw [e34]
    exact XOk.assignOwn (EvLOk.cons EvOk.str EvLOk.nil) rfl (by decide)
  have hloop := js_loop (δ := δ) (x := ⟨cs.toArray⟩) cs [sg 34] hc (by simp; omega)
  refine XsOk.cons (δ1 := δ) s0 (XsOk.cons (δ1 := δ) (XOk.for (a := .str ⟨cs.toArray⟩) (δ1 := δ) (EvOk.name rfl) ItOk.str hloop) ?_)
  refine XsOk.cons (ℓ1 := jsL ⟨cs.toArray⟩ ([sg 34] ++ cs.flatMap jps ++ [sg 34])) (δ1 := δ) (XOk.appendS (fs := [sg 34] ++ cs.flatMap jps) (y := Str.ofString "\"") rfl EvOk.str (by rw [sizeLine_eq]; have := hlen cs; simp only [List.length_append, List.length_cons, List.length_nil]; omega) (by rw [lit34]; rfl)) (XsOk.ret (XOk.ret ?_))
  rw [← hglue]
  exact EvOk.join EvOk.str (EvLOk.cons (EvOk.name rfl) EvLOk.nil) hok
end Mine

namespace Mine
set_option maxRecDepth 100000

theorem RdL.of_get {w D h H} : ∀ {vs : List Value} {as : List AV}, vs.length = as.length → (∀ (j : Nat) v a, vs[j]? = some v → as[j]? = some a → Rd w D h H v a) → RdL w D h H vs as
  | [], [], _, _ => .nil
  | [], _ :: _, e, _ => by simp at e
  | _ :: _, [], e, _ => by simp at e
  | v :: vs, a :: as, e, h => .cons (h 0 v a rfl rfl) (RdL.of_get (by simpa using e) fun j v a hv ha => h (j + 1) v a (by simpa using hv) (by simpa using ha))

theorem keys_rd {w : World} {D : DA} {h : Heap} {H : List Addr} {kvs : List (Str × Value)} {es : List (Str × AV)} (hk : kvs.map (·.1) = es.map (·.1)) {vs : List Value} (hn : vs.length = kvs.length)
    (hP : ∀ (j : Nat) v, vs[j]? = some v → ∃ k x, kvs[j]? = some (k, x) ∧ (PySem.strKind pw w).is k v = true) : RdL w D h H vs (es.map fun e => AV.str e.1) := by
  have hl := congrArg List.length hk
  simp at hl
  refine RdL.of_get (by simp; omega) fun j v a hv ha => ?_
  obtain ⟨k, x, e1, e2⟩ := hP j v hv
  have hv' : ∃ t, v = .str k t := Value.isStrOf_shape e2
  obtain ⟨t, rfl⟩ := hv'
  have hk' : (kvs.map (·.1))[j]? = some k := by simp [e1]
  rw [hk] at hk'
  rw [List.getElem?_map] at hk' ha
  cases hq : es[j]? with
  | none => rw [hq] at hk'; cases hk'
  | some e =>
    rw [hq] at hk' ha
    simp at hk' ha
    subst ha
    rw [hk']
    exact .str _ _
theorem ikeys_rd {w : World} {D : DA} {h : Heap} {H : List Addr} {kvs : List (Int × Value)} {es : List (Int × AV)} (hk : kvs.map (·.1) = es.map (·.1)) {vs : List Value} (hn : vs.length = kvs.length)
    (hP : ∀ (j : Nat) v, vs[j]? = some v → ∃ k x, kvs[j]? = some (k, x) ∧ (PySem.intKind pw w).is k v = true) : RdL w D h H vs (es.map fun e => AV.int e.1) := by
  have hl := congrArg List.length hk
  simp at hl
  refine RdL.of_get (by simp; omega) fun j v a hv ha => ?_
  obtain ⟨k, x, e1, e2⟩ := hP j v hv
  obtain ⟨t, rfl⟩ := Value.isInt_shape e2
  have hk' : (kvs.map (·.1))[j]? = some k := by simp [e1]
  rw [hk] at hk'
  rw [List.getElem?_map] at hk' ha
  cases hq : es[j]? with
  | none => rw [hq] at hk'; cases hk'
  | some e =>
    rw [hq] at hk' ha
    simp at hk' ha
    subst ha
    rw [hk']
    exact .int _ _

theorem FOk.listOfDict {k} {es : List (Str × AV)} (hn : es.length ≤ sizeLine) : FOk k (.type "list") [.dict es] (.list (es.map fun e => .str e.1)) := by
  constructor; intro C σ δ s vals Q E nm O S r hq
  cases r with | cons r1 r2 =>
  cases r2
  cases r1 with | @dict a kvs _ h1 h2 hs h3 h4 =>
  have hl := congrArg List.length h3
  simp at hl
  obtain ⟨ep, hat⟩ := h1.dictAt
  refine kdl_call (kdl_dict (knd := PySem.strKind pw C.w) (kvs := kvs) (ep := ep) (ne_sys hs)) O.room.handled hat (by omega) fun h' tk acc c hk hS' hacc => ?_
  have hz : s.heap.objs.size ≤ h'.objs.size := Nat.le_of_lt (Heap.lt_size hS')
  refine hq _ _ (Aft.of_keep S hk hz) (.list ⟨_, hS', rfl, _, rfl⟩ (hid_push S) (ne_sys_size S.gl) ?_)
  exact keys_rd h3 (by rw [Array.length_toList]; exact hacc.1) fun j v e => hacc.2 j v (by rw [← Array.getElem?_toList]; exact e)
theorem FOk.listOfIdict {k} {es : List (Int × AV)} (hn : es.length ≤ sizeLine) : FOk k (.type "list") [.idict es] (.list (es.map fun e => .int e.1)) := by
  constructor; intro C σ δ s vals Q E nm O S r hq
  cases r with | cons r1 r2 =>
  cases r2
  cases r1 with | @idict a kvs _ h1 h2 hs h3 h4 =>
  have hl := congrArg List.length h3
  simp at hl
  obtain ⟨ep, hat⟩ := h1.dictAt
  refine kdl_call (kdl_dict (knd := PySem.intKind pw C.w) (kvs := kvs) (ep := ep) (ne_sys hs)) O.room.handled hat (by omega) fun h' tk acc c hk hS' hacc => ?_
  have hz : s.heap.objs.size ≤ h'.objs.size := Nat.le_of_lt (Heap.lt_size hS')
  refine hq _ _ (Aft.of_keep S hk hz) (.list ⟨_, hS', rfl, _, rfl⟩ (hid_push S) (ne_sys_size S.gl) ?_)
  exact ikeys_rd h3 (by rw [Array.length_toList]; exact hacc.1) fun j v e => hacc.2 j v (by rw [← Array.getElem?_toList]; exact e)
end Mine

namespace Mine
set_option maxRecDepth 100000

/-! ## sorting texts -/
noncomputable def runT {α : Type} (lt : Nat → Nat → Bool) : KasT α → α
  | .ret a => a
  | .ask i j k => runT lt (k (lt i j))
noncomputable def ltS (xs : List Str) (i j : Nat) : Bool := decide ((xs.getD i Str.empty).cps.toList < (xs.getD j Str.empty).cps.toList)
noncomputable def sortS (xs : List Str) : List Str := if xs.length < 2 then xs else (runT (ltS xs) (kas_sort xs.length)).toList.map fun i => xs.getD i Str.empty

theorem strs_getD {w D h H} : ∀ {vs : List Value} {xs : List Str}, RdL w D h H vs (xs.map AV.str) → ∀ i, i < xs.length → ∃ t, vs.getD i Value.none = .str (xs.getD i Str.empty) t
  | _, [], _, i, hi => by simp at hi
  | _ :: _, x :: xs, .cons r1 r2, 0, _ => by cases r1 with | str _ t => exact ⟨t, rfl⟩
  | _ :: _, x :: xs, .cons r1 r2, i + 1, hi => by simpa using strs_getD r2 i (by simpa using hi)

noncomputable def inR {α : Type} (n : Nat) : KasT α → Bool
  | .ret _ => true
  | .ask i j k => decide (i < n) && decide (j < n) && inR n (k true) && inR n (k false)
theorem inR_2 : inR 2 (kas_sort 2) = true := by decide +kernel
theorem inR_3 : inR 3 (kas_sort 3) = true := by decide +kernel

noncomputable def retR (n : Nat) : KasT (Array Nat) → Bool
  | .ret p => p.toList.all (fun i => decide (i < n))
  | .ask i j k => retR n (k true) && retR n (k false)
theorem retR_2 : retR 2 (kas_sort 2) = true := by decide +kernel
theorem retR_3 : retR 3 (kas_sort 3) = true := by decide +kernel
theorem retR_mem {n : Nat} {lt : Nat → Nat → Bool} : ∀ (t : KasT (Array Nat)), retR n t = true → ∀ i ∈ (runT lt t).toList, i < n
  | .ret p, h, i, hi => by
    simp only [retR, List.all_eq_true, decide_eq_true_eq] at h
    exact h i hi
  | .ask a b k, h, i, hi => by
    simp only [retR, Bool.and_eq_true] at h
    refine retR_mem (k (lt a b)) ?_ i hi
    cases lt a b
    · exact h.2
    · exact h.1

theorem kasWp_strs {α : Type} {w : World} {A : Around} {vs : List Value} {xs : List Str} (hv : ∀ i, i < xs.length → ∃ t, vs.getD i Value.none = .str (xs.getD i Str.empty) t) {Q : α → Shared → Prop} {s : Shared} :
    ∀ (t : KasT α), inR xs.length t = true → Q (runT (ltS xs) t) s → t.kasWp (kas_ask pw w A oneType' vs) Q s
  | .ret a, _, h => h
  | .ask i j k, hr, h => by
    simp only [inR, Bool.and_eq_true, decide_eq_true_eq] at hr
    obtain ⟨⟨⟨h1, h2⟩, h3⟩, h4⟩ := hr
    obtain ⟨t1, e1⟩ := hv i h1
    obtain ⟨t2, e2⟩ := hv j h2
    show kas_ask pw w A oneType' vs i j _ s
    unfold kas_ask
    rw [e1, e2]
    refine kas_lt_str ?_
    have hk : inR xs.length (k (ltS xs i j)) = true := by cases ltS xs i j <;> assumption
    exact kasWp_strs hv (k (ltS xs i j)) hk h

/-- what list.sort leaves -/
theorem sort_strs {w : World} {A : Around} {E : Value → Shared → Prop} {s : Shared} {a : Addr} {vs : List Value} {xs : List Str} {n : Nat} {P : PySem.Fin → Shared → Prop} (ho : s.heap.get? a = some (seqObj "list" vs.toArray n))
    (hl : vs.length = xs.length) (h3 : xs.length ≤ 3) (hv : ∀ i, i < xs.length → ∃ t, vs.getD i Value.none = .str (xs.getD i Str.empty) t)
    (h : ∀ h' (us : List Value), us.length = (sortS xs).length → (∀ (j : Nat) u y, us[j]? = some u → (sortS xs)[j]? = some y → ∃ t, u = .str y t) → (∃ c, h'.get? a = some (seqObj "list" us.toArray c)) → (∀ b o, b ≠ a → s.heap.get? b = some o → h'.get? b = some o) → P (.done (.ret .none)) { s with heap := h' }) :
    wpAny (MM w) A (Builtin.«list.sort» ⟨[.ref a], []⟩) P E s := by
  have hlt : a < s.heap.objs.size := Heap.lt_size ho
  obtain ⟨e1, ho1⟩ : ∃ e1, (s.heap.update a (Obj.mapSeq fun _ => (#[] : Array Value))).get? a = some (seqObj "list" #[] e1) := ⟨_, get?_update_seq ho fun _ => #[]⟩
  generalize hg1 : s.heap.update a (Obj.mapSeq fun _ => (#[] : Array Value)) = g1 at ho1
  have z1 : g1.objs.size = s.heap.objs.size := by rw [← hg1, Heap.size_update]
  have k1 : ∀ b o, b ≠ a → s.heap.get? b = some o → g1.get? b = some o := fun b o hb e => by rw [← hg1]; exact (Heap.get?_update_other _ _ (Ne.symm hb)).trans e
  have ho2 : ((g1.push (seqObj "tuple" vs.toArray 0)).push (seqObj "list" #[] 0)).get? a = some (seqObj "list" #[] e1) := Heap.get?_push_of_some _ (Heap.get?_push_of_some _ ho1)
  have fin : ∀ (g : Heap) (us : List Value), g = (g1.push (seqObj "tuple" vs.toArray 0)).push (seqObj "list" #[] 0) → us.length = (sortS xs).length → us.length ≤ 3 → (∀ (j : Nat) u y, us[j]? = some u → (sortS xs)[j]? = some y → ∃ t, u = .str y t) →
      P (.done (.ret .none)) { s with heap := g.update a (Obj.mapSeq fun _ => us.toArray) } := fun g us hg hu _ hy => by
    subst hg
    refine h _ us hu hy ⟨_, get?_update_seq ho2 fun _ => us.toArray⟩ fun b o hb e => ?_
    exact (Heap.get?_update_other _ _ (Ne.symm hb)).trans (Heap.get?_push_of_some _ (Heap.get?_push_of_some _ (k1 b o hb e)))
  rw [list_sort_plain]
  refine wpAny_bind (listItems_at ho rfl (wpAny_bind (listUpdate_at ho rfl ?_ (by rw [List.size_toArray, sizeLine_eq]; omega) (Nat.zero_le _))))
  rw [hg1]
  refine wpAny_bind (seqEpoch_at ho1 rfl (wpAny_bind (wpAny_newTuple (wpAny_bind (wpAny_newList (wpAny_holding ?_) (Nat.zero_le _))) (by show vs.length ≤ _; rw [sizeLine_eq]; omega))))
  show wpAny (MM w) A _ P E { s with heap := (g1.push (seqObj "tuple" vs.toArray 0)).push (seqObj "list" #[] 0) }
  generalize hG : (g1.push (seqObj "tuple" vs.toArray 0)).push (seqObj "list" #[] 0) = G at ho2 fin
  dsimp only
  have ends : ∀ (st : SortSt) (us : List Value), (arrOf st).map (·.2) = us.toArray → failedOf st = none → us.length = (sortS xs).length → us.length ≤ 3 → (∀ (j : Nat) u y, us[j]? = some u → (sortS xs)[j]? = some y → ∃ t, u = .str y t) →
      wpAny (MM w) A (do
        let touched := (← seqEpoch a) != e1
        Builtin.List.listUpdate (.ref a) fun _ => (arrOf st).map (·.2)
        if let some e := failedOf st then rule "list.sort.comparison-raised"; throw e
        if touched then rule "list.sort.modified"; raiseError "ValueError" "list modified during sort"
        ret .none) P E { s with heap := G } := fun st us h1 h2 h3 h4 h5 => by
    rw [h1, h2]
    refine wpAny_bind (seqEpoch_at ho2 rfl (wpAny_bind (listUpdate_at ho2 rfl ?_ (Nat.zero_le _) (by rw [List.size_toArray, sizeLine_eq]; omega))))
    simp only [bne_self_eq_false, Bool.false_eq_true, if_false]
    exact wpAny_pure (fin G us rfl h3 h4 h5)
  by_cases h2 : xs.length < 2
  · have hn2 : vs.toArray.size < 2 := by rw [List.size_toArray]; omega
    rw [if_pos hn2, if_pos hn2]
    refine wpAny_bind (wpAny_pure (wpAny_bind (wpAny_pure ?_)))
    have es : sortS xs = xs := by unfold sortS; rw [if_pos h2]
    refine ends _ vs ?_ rfl (by rw [es]; exact hl) (by omega) fun j u y hu hy => ?_
    · show (vs.toArray.zip vs.toArray).map (·.2) = vs.toArray
      apply Array.toList_inj.mp
      simp only [List.zip_toArray, List.map_toArray]
      have : ∀ l : List Value, (l.zip l).map (fun x => x.2) = l := fun l => by
        induction l with
        | nil => rfl
        | cons x l ih => rw [List.zip_cons_cons, List.map_cons, ih]
      exact this vs
    · rw [es] at hy
      have hj : j < xs.length := (List.getElem?_eq_some_iff.mp hy).1
      obtain ⟨t, e⟩ := hv j hj
      rw [List.getD_eq_getElem?_getD, List.getD_eq_getElem?_getD, hu, hy] at e
      exact ⟨t, e⟩
  · have hn2 : ¬ vs.toArray.size < 2 := by rw [List.size_toArray]; omega
    rw [if_neg hn2, if_neg hn2]
    have hl2 : 2 ≤ vs.length := by omega
    refine wpAny_bind (kas_kind (T := .type "str") hl2 (fun v hv' => ?_) rfl rfl ?_)
    · obtain ⟨i, hi, rfl⟩ := List.getElem_of_mem hv'
      obtain ⟨t, e⟩ := hv i (by omega)
      rw [List.getD_eq_getElem?_getD, List.getElem?_eq_getElem hi] at e
      simp only [Option.getD_some] at e
      rw [e]
      exact Looks.of_pure rfl
    have est : SortSt.mk' oneType' (vs.toArray.zip vs.toArray) #[] 7 none = kas_st oneType' (pairsOf vs) (List.toArray (List.range vs.length)) := by
      have e := kas_range (pairsOf vs)
      rw [pairsOf_size] at e
      show SortSt.mk' oneType' (pairsOf vs) #[] 7 none = SortSt.mk' oneType' ((List.toArray (List.range vs.length)).map (kas_item (pairsOf vs))) #[] 7 none
      rw [e]
    have hR : inR xs.length (kas_sort xs.length) = true ∧ retR xs.length (kas_sort xs.length) = true := by
      have : xs.length = 2 ∨ xs.length = 3 := by omega
      rcases this with e | e <;> rw [e]
      · exact ⟨inR_2, retR_2⟩
      · exact ⟨inR_3, retR_3⟩
    have ask : (kas_sort vs.length).kasWp (kas_ask pw w A oneType' vs) (fun p s' => p = runT (ltS xs) (kas_sort xs.length) ∧ s' = { s with heap := G }) { s with heap := G } := by
      rw [hl]
      exact kasWp_strs hv _ hR.1 ⟨rfl, rfl⟩
    rw [kas_ask_eq] at ask
    have run := kas_runs (E := E) (Q := fun _ st' s' => ∃ p : Array Nat, p.size = vs.length ∧ arrOf st' = p.map (kas_item (pairsOf vs)) ∧ failedOf st' = none ∧ p = runT (ltS xs) (kas_sort xs.length) ∧ s' = { s with heap := G })
      hl2 (by omega) (fun p' st' s' a1 a2 a3 a4 => ⟨p', a1, a2, a3, a4⟩) ask
    rw [← est] at run
    refine wpAny_bind (wpAny_mono run ?_ fun _ _ e => e)
    rintro ⟨⟨⟩, st'⟩ s' ⟨p, hp, har, hf, hpe, rfl⟩
    dsimp only
    have es : sortS xs = p.toList.map fun i => xs.getD i Str.empty := by unfold sortS; rw [if_neg h2, hpe]
    have hlt' := retR_mem (lt := ltS xs) (kas_sort xs.length) hR.2
    rw [← hpe] at hlt'
    refine ends st' (p.toList.map fun i => vs.getD i Value.none) ?_ hf (by rw [es, List.length_map, List.length_map]) (by rw [List.length_map, Array.length_toList, hp]; omega) fun j u y hu hy => ?_
    · apply Array.toList_inj.mp
      rw [har, Array.map_map, Array.toList_map]
      exact List.map_congr_left fun i _ => by show (kas_item (pairsOf vs) i).2 = _; rw [kas_item_eq]
    · rw [es] at hy
      rw [List.getElem?_map, Option.map_eq_some_iff] at hu hy
      obtain ⟨i, hi, rfl⟩ := hu
      obtain ⟨i', hi', rfl⟩ := hy
      rw [hi] at hi'
      cases hi'
      exact hv i (hlt' i (List.mem_of_getElem? hi))
end Mine

namespace Mine
set_option maxRecDepth 100000

theorem strs_of_rd {w D h H} {vs : List Value} {es : List (Str × AV)} (r : RdL w D h H vs (es.map fun e => AV.str e.1)) : RdL w D h H vs ((es.map (·.1)).map AV.str) := by
  rw [List.map_map]; exact r

theorem FOk.sortedDict {k} {es : List (Str × AV)} (h3 : es.length ≤ 3) : FOk k (.builtin "sorted") [.dict es] (.list ((sortS (es.map (·.1))).map AV.str)) := by
  constructor; intro C σ δ s vals Q E nm O S r hq
  cases r with | cons r1 r2 =>
  cases r2
  cases r1 with | @dict a kvs _ h1 h2 hs hk h4 =>
  have hl := congrArg List.length hk
  simp at hl
  obtain ⟨ep, hat⟩ := h1.dictAt
  refine call_function_entry kind_sorted plain_sorted entry_sorted (args_sorted1 _) ?_
  unfold Builtin.«sorted»
  refine wpAny_bind (m := checkCount "sorted" 1 1 _) (wpAny_pure ?_)
  refine wpAny_bind (wpAny_size (kdu_collect (A := C.A.in1) (kdl_dict (knd := PySem.strKind pw C.w) (kvs := kvs) (ep := ep) (ne_sys hs)) O.room.handled hat (by rw [sizeLine_eq]; omega) fun h' tk acc hkp hacc hsz => ?_))
  have hal : acc.toList.length = kvs.length := by rw [Array.length_toList]; exact hacc.1
  have rd := keys_rd (w := C.w) (D := C.D) (h := h') (H := C.H) hk hal fun j v e => hacc.2 j v (by rw [← Array.getElem?_toList]; exact e)
  refine wpAny_bind (wpAny_newList ?_ (by rw [hal, sizeLine_eq]; omega))
  have hoL : (h'.push (seqObj "list" acc.toList.toArray 0)).get? h'.objs.size = some (seqObj "list" acc.toList.toArray 0) := Heap.get?_push_size _ rfl
  refine wpAny_bind (wpAny_holding (wpAny_call_entry slot_list_sort ⟨_, hoL, rfl⟩ entry_list_sort ?body (args_list_sort _)))
  case body =>
    refine sort_strs (vs := acc.toList) (xs := es.map (·.1)) hoL (by rw [hal, List.length_map, hl]) (by rw [List.length_map]; exact h3) (strs_getD (strs_of_rd rd)) fun h'' us hu hy hat'' hk'' => ?_
    refine ⟨_, rfl, wpAny_pure ⟨_, rfl, ?_⟩⟩
    have hz : s.heap.objs.size ≤ h'.objs.size := hsz
    have hkeep : ∀ b o, s.heap.get? b = some o → h''.get? b = some o := fun b o e => hk'' b o (fun q => by
      have := Heap.lt_size (hkp b o e)
      rw [q] at this
      exact Nat.lt_irrefl _ this) (Heap.get?_push_of_some _ (hkp b o e))
    obtain ⟨c, hc⟩ := hat''
    have hz2 : s.heap.objs.size ≤ h''.objs.size := Nat.le_trans hz (Nat.le_of_lt (Heap.lt_size hc))
    refine hq _ _ (Aft.of_keep S hkeep hz2) (.list ⟨_, hc, rfl, _, rfl⟩ (fun q => Nat.lt_irrefl _ (Nat.lt_of_lt_of_le (S.hid _ q).2 hz)) (fun q => ?_) ?_)
    · have := gl_big S.gl
      exact absurd (Nat.lt_of_lt_of_le this hz) (by rw [show h'.objs.size = sysModules from q]; decide)
    · refine RdL.of_get (by rw [List.length_map]; exact hu) fun j v y hv hy' => ?_
      rw [List.getElem?_map, Option.map_eq_some_iff] at hy'
      obtain ⟨y, hy1, rfl⟩ := hy'
      obtain ⟨t, rfl⟩ := hy j v y hv hy1
      exact .str _ _
end Mine

namespace Mine
set_option maxRecDepth 100000

/-! ## what sorting leaves -/
noncomputable def retP (n : Nat) : KasT (Array Nat) → Bool
  | .ret p => p.toList.isPerm (List.range n)
  | .ask i j k => retP n (k true) && retP n (k false)
theorem retP_2 : retP 2 (kas_sort 2) = true := by decide +kernel
theorem retP_3 : retP 3 (kas_sort 3) = true := by decide +kernel
theorem retP_perm {n : Nat} {lt : Nat → Nat → Bool} : ∀ (t : KasT (Array Nat)), retP n t = true → (runT lt t).toList.Perm (List.range n)
  | .ret p, h => List.isPerm_iff.mp h
  | .ask a b k, h => by
    simp only [retP, Bool.and_eq_true] at h
    refine retP_perm (k (lt a b)) ?_
    cases lt a b
    · exact h.2
    · exact h.1
theorem range_map_getD (xs : List Str) : (List.range xs.length).map (fun i => xs.getD i Str.empty) = xs := by
  apply List.ext_getElem?
  intro i
  rw [List.getElem?_map]
  by_cases h : i < xs.length
  · rw [List.getElem?_range h]; simp [List.getD_eq_getElem?_getD, List.getElem?_eq_getElem h]
  · rw [List.getElem?_eq_none (by simpa using h), List.getElem?_eq_none (by omega)]; rfl
theorem sortS_perm {xs : List Str} (h : xs.length ≤ 3) : (sortS xs).Perm xs := by
  unfold sortS
  by_cases h2 : xs.length < 2
  · rw [if_pos h2]
  · rw [if_neg h2]
    have hp : (runT (ltS xs) (kas_sort xs.length)).toList.Perm (List.range xs.length) := by
      have : xs.length = 2 ∨ xs.length = 3 := by omega
      refine retP_perm _ ?_
      rcases this with e | e <;> rw [e]
      · exact retP_2
      · exact retP_3
    have := hp.map fun i => xs.getD i Str.empty
    rwa [range_map_getD] at this

/-! ## json_text, plainly -/
noncomputable def inter : List (List Nat) → List Nat
  | [] => []
  | [x] => x
  | x :: y :: r => x ++ 44 :: inter (y :: r)
theorem glue_inter (xs : List Str) : (glue (Str.ofString ",") xs).cps.toList = inter (xs.map fun x => x.cps.toList) := by
  show (Builtin.Str.glued (Str.ofString ",") xs).cps.toList = _
  rw [StrLaws.glued_eq_join, lit44]
  have app : ∀ a b : Str, (a ++ b).cps.toList = a.cps.toList ++ b.cps.toList := fun a b => by rw [Str.cps_append]; simp
  induction xs with
  | nil => rfl
  | cons v r ih =>
    cases r with
    | nil => rfl
    | cons w t =>
      show (v ++ sg 44 ++ Str.join (sg 44) (w :: t)).cps.toList = _
      rw [app, app, ih]
      show _ = v.cps.toList ++ 44 :: inter _
      simp

noncomputable def order (b : Bool) (es : List (Str × AV)) : List (Str × AV) := if b then (sortS (es.map (·.1))).map (fun k => (k, (getE es k).getD .none)) else es
noncomputable def entryT (k : Str) (t : List Nat) : List Nat := 34 :: (k.cps.toList.flatMap jesc ++ 34 :: 58 :: t)
noncomputable def jtextN (b : Bool) : Nat → AV → List Nat
  | _, .none => wNull
  | _, .bool true => wTrue
  | _, .bool false => wFalse
  | _, .int n => (Str.ofString (toString n)).cps.toList
  | _, .str x => 34 :: (x.cps.toList.flatMap jesc ++ [34])
  | n + 1, .list xs => 91 :: (inter (xs.map (jtextN b n)) ++ [93])
  | n + 1, .dict es => 123 :: (inter ((order b es).map fun e => entryT e.1 (jtextN b n e.2)) ++ [125])
  | _, _ => []
noncomputable def KeyOk (x : Str) : Prop := (∀ c ∈ x.cps.toList, c ≤ 1114111) ∧ x.length ≤ 10
noncomputable def JokN : Nat → AV → Prop
  | _, .none => True
  | _, .bool _ => True
  | _, .int n => n.natAbs.log2 < 1920 ∧ (Str.ofString (toString n)).length ≤ 50
  | _, .str x => KeyOk x
  | n + 1, .list xs => xs.length ≤ 3 ∧ ∀ x ∈ xs, JokN n x
  | n + 1, .dict es => es.length ≤ 3 ∧ (es.map (·.1)).Nodup ∧ ∀ e ∈ es, KeyOk e.1 ∧ JokN n e.2
  | _, _ => False

theorem getE_mem {es : List (Str × AV)} {k : Str} {v : AV} (h : getE es k = some v) : (k, v) ∈ es := by
  unfold getE at h
  rw [Option.map_eq_some_iff] at h
  obtain ⟨p, hp, rfl⟩ := h
  have := List.find?_some hp
  have h2 := List.mem_of_find?_eq_some hp
  have : p.1 = k := by simpa using this
  subst this
  exact h2
theorem getE_of_mem : ∀ {es : List (Str × AV)} {e : Str × AV}, (es.map (·.1)).Nodup → e ∈ es → getE es e.1 = some e.2
  | p :: es, e, hn, h => by
    have hn' := List.nodup_cons.mp (by simpa using hn : (p.1 :: es.map (·.1)).Nodup)
    unfold getE
    rcases List.mem_cons.mp h with rfl | h
    · simp [List.find?]
    · have hne : ¬ p.1 = e.1 := fun q => hn'.1 (q ▸ List.mem_map_of_mem h)
      have ih := getE_of_mem hn'.2 h
      unfold getE at ih
      simp only [List.find?, hne, decide_false]
      exact ih
theorem order_mem {b : Bool} {es : List (Str × AV)} (h3 : es.length ≤ 3) (hn : (es.map (·.1)).Nodup) : (order b es).length = es.length ∧ ∀ e ∈ order b es, e ∈ es ∧ getE es e.1 = some e.2 := by
  unfold order
  cases b with
  | false => exact ⟨rfl, fun e he => ⟨he, getE_of_mem hn he⟩⟩
  | true =>
    have hp := sortS_perm (xs := es.map (·.1)) (by simpa using h3)
    refine ⟨by simp [hp.length_eq], fun e he => ?_⟩
    simp only [if_true, List.mem_map] at he
    obtain ⟨k, hk, rfl⟩ := he
    have hk' := hp.mem_iff.mp hk
    obtain ⟨e, he, rfl⟩ := List.mem_map.mp hk'
    have := getE_of_mem hn he
    rw [this]
    exact ⟨he, rfl⟩
theorem order_keys {b : Bool} {es : List (Str × AV)} : (order b es).map (fun e => AV.str e.1) = if b then (sortS (es.map (·.1))).map AV.str else es.map fun e => AV.str e.1 := by
  unfold order
  cases b <;> simp

theorem inter_len {B : Nat} : ∀ {l : List (List Nat)}, (∀ x ∈ l, x.length ≤ B) → (inter l).length ≤ l.length * (B + 1)
  | [], _ => by simp [inter]
  | [x], h => by have := h x (by simp); simp [inter]; omega
  | x :: y :: r, h => by
    have h1 := h x (by simp)
    have h2 := inter_len (l := y :: r) fun z hz => h z (List.mem_cons_of_mem _ hz)
    simp only [inter, List.length_append, List.length_cons] at h2 ⊢
    rw [Nat.add_mul (r.length + 1) 1 (B + 1)]
    omega
theorem jesc_len (c : Nat) : (jesc c).length ≤ 12 := by
  have h := jps_short c
  unfold jesc
  have : ∀ l : List Str, (∀ y ∈ l, y.length ≤ 6) → (l.flatMap fun x => x.cps.toList).length ≤ l.length * 6 := fun l => by
    induction l with
    | nil => simp
    | cons x r ih =>
      intro hl
      have h1 := hl x (by simp)
      have h2 := ih fun y hy => hl y (List.mem_cons_of_mem _ hy)
      have h3 : x.cps.toList.length = x.length := str_len
      simp only [List.flatMap_cons, List.length_append, List.length_cons]
      omega
  have := this _ h.2
  omega
theorem esc_len : ∀ (l : List Nat), (l.flatMap jesc).length ≤ l.length * 12
  | [] => by simp
  | c :: r => by
    have h1 := jesc_len c
    have h2 := esc_len r
    simp only [List.flatMap_cons, List.length_append, List.length_cons]
    omega
theorem jtext_len {b : Bool} : ∀ (n : Nat) (v : AV), JokN n v → (jtextN b n v).length ≤ 400 * 4 ^ n
  | n, .none, _ => by have := Nat.one_le_pow n 4 (by decide); unfold jtextN; show 4 ≤ _; omega
  | n, .bool true, _ => by have := Nat.one_le_pow n 4 (by decide); unfold jtextN; show 4 ≤ _; omega
  | n, .bool false, _ => by have := Nat.one_le_pow n 4 (by decide); unfold jtextN; show 5 ≤ _; omega
  | n, .int i, h => by
    have h1 := Nat.one_le_pow n 4 (by decide)
    have h2 : (Str.ofString (toString i)).cps.toList.length ≤ 50 := by unfold JokN at h; rw [str_len]; exact h.2
    unfold jtextN
    omega
  | n, .str x, h => by
    have h1 := Nat.one_le_pow n 4 (by decide)
    have h2 := esc_len x.cps.toList
    have h3 : x.cps.toList.length ≤ 10 := by unfold JokN at h; rw [str_len]; exact h.2
    unfold jtextN
    simp only [List.length_cons, List.length_append, List.length_nil]
    omega
  | n + 1, .list xs, h => by
    have h1 := Nat.one_le_pow n 4 (by decide)
    unfold JokN at h
    have h2 := inter_len (B := 400 * 4 ^ n) (l := xs.map (jtextN b n)) fun x hx => by
      obtain ⟨v, hv, rfl⟩ := List.mem_map.mp hx
      exact jtext_len n v (h.2 v hv)
    have h4 : xs.length * (400 * 4 ^ n + 1) ≤ 3 * (400 * 4 ^ n + 1) := Nat.mul_le_mul_right _ h.1
    unfold jtextN
    rw [List.length_map] at h2
    simp only [List.length_cons, List.length_append, List.length_nil, Nat.pow_succ]
    omega
  | n + 1, .dict es, h => by
    have h1 := Nat.one_le_pow n 4 (by decide)
    unfold JokN at h
    obtain ⟨hl, hm⟩ := order_mem (b := b) h.1 h.2.1
    have h2 := inter_len (B := 400 * 4 ^ n + 123) (l := (order b es).map fun e => entryT e.1 (jtextN b n e.2)) fun x hx => by
      obtain ⟨e, he, rfl⟩ := List.mem_map.mp hx
      have hk := h.2.2 e (hm e he).1
      have q1 := jtext_len (b := b) n e.2 hk.2
      have q2 := esc_len e.1.cps.toList
      have q3 : e.1.cps.toList.length ≤ 10 := by rw [str_len]; exact hk.1.2
      unfold entryT
      simp only [List.length_cons, List.length_append]
      omega
    have h4 : es.length * (400 * 4 ^ n + 123 + 1) ≤ 3 * (400 * 4 ^ n + 123 + 1) := Nat.mul_le_mul_right _ h.1
    unfold jtextN
    rw [List.length_map, hl] at h2
    simp only [List.length_cons, List.length_append, List.length_nil, Nat.pow_succ]
    omega
  | 0, .list _, h => by unfold JokN at h; exact h.elim
  | 0, .dict _, h => by unfold JokN at h; exact h.elim
  | n, .bytes _, h => by unfold JokN at h; exact h.elim
  | n, .tuple _, h => by unfold JokN at h; exact h.elim
  | n, .idict _, h => by unfold JokN at h; exact h.elim
  | n, .draw, h => by unfold JokN at h; exact h.elim
  | n, .cells, h => by unfold JokN at h; exact h.elim
  | n, .typ _, h => by unfold JokN at h; exact h.elim
  | n, .range _, h => by unfold JokN at h; exact h.elim
  | n, .types _, h => by unfold JokN at h; exact h.elim
  | n, .raw _, h => by unfold JokN at h; exact h.elim
end Mine

namespace Mine
set_option maxRecDepth 100000

theorem def_36 : DefAt 36 (fdOf 36) ["value", "comma", "colon", "sort_keys"] (bodyOf 36) := ⟨fun _ => rfl, fun _ => rfl, rfl, rfl, rfl, rfl, rfl, rfl, rfl, by decide⟩
noncomputable abbrev nm36 : List (Str × NameKind) := (fdOf 36).scope.names
noncomputable def cA : AV := .str (Str.ofString ",")
noncomputable def oA : AV := .str (Str.ofString ":")
noncomputable def jtL (v : AV) (b : Bool) : Loc := [("value", .val v), ("comma", .val cA), ("colon", .val oA), ("sort_keys", .val (.bool b))]

theorem loc36 : ∀ n, ∀ p ∈ (["value", "comma", "colon", "sort_keys"] : List Str), (fdOf 36).scope.names.lookup p = some .local ∨ ((fdOf 36).scope.names.lookup p = some .cell ∧ ((cellsFrom n (fdOf 36).scope.names []).lookup p).isSome = true) := by
  intro n p hp
  simp only [List.mem_cons, List.not_mem_nil, or_false] at hp
  rcases hp with rfl | rfl | rfl | rfl
  · exact .inl rfl
  · exact .inr ⟨rfl, rfl⟩
  · exact .inr ⟨rfl, rfl⟩
  · exact .inr ⟨rfl, rfl⟩
theorem jt_call4 {k δ v b o ℓ' δ' r} (hx : XsOk k nm36 (jtL v b) δ (bodyOf 36) o ℓ' δ') (hr : o.res = some r) : CallOk (k + 1) 36 [v, cA, oA, .bool b] δ r δ' :=
  CallOk.cells (dargs := []) [] def_36 (fun _ _ _ _ => .nil) loc36 rfl (fun w s vals hv hi => by
    match vals, hv with
    | [a1, a2, a3, a4], _ => exact binds_K hi rfl (o := { cls := .type "tuple", data := .seq #[.bool false] }) rfl rfl rfl rfl) hx hr
theorem jt_call3 {k δ v o ℓ' δ' r} (hx : XsOk k nm36 (jtL v false) δ (bodyOf 36) o ℓ' δ') (hr : o.res = some r) : CallOk (k + 1) 36 [v, cA, oA] δ r δ' :=
  CallOk.cells (dargs := [.bool false]) [.bool false] def_36 (fun _ _ _ _ => .cons (.bool _) .nil) loc36 rfl (fun w s vals hv hi => by
    match vals, hv with
    | [a1, a2, a3], _ => exact binds_K hi rfl (o := { cls := .type "tuple", data := .seq #[.bool false] }) rfl rfl rfl rfl) hx hr

/-- plain data that is no truth and not None -/
noncomputable def AV.rest : AV → Bool
  | .int _ | .str _ | .bytes _ | .list _ | .dict _ | .idict _ => true
  | _ => false
theorem rest_facts {v : AV} (h : v.rest = true) : v.data = true ∧ v.isNone = false ∧ v.isB true = false ∧ v.isB false = false ∧ v ≠ .none ∧ ∀ b, v ≠ .bool b := by
  cases v <;> first | exact ⟨rfl, rfl, rfl, rfl, nofun, nofun⟩ | cases h

variable {k : Nat} {δ δ' : Draw} {v : AV} {b : Bool} {o : Out} {ℓ' : Loc}
theorem jt_3 (hv : v.rest = true) (h : XsOk k nm36 (jtL v b) δ ((bodyOf 36).drop 3) o ℓ' δ') : XsOk k nm36 (jtL v b) δ (bodyOf 36) o ℓ' δ' := by
  obtain ⟨h1, h2, h3, h4, _⟩ := rest_facts hv
  refine XsOk.cons (XOk.ifF (δ1 := δ) (TOk.cmp' (EvOk.name (av := v) rfl) EvOk.none POk.isNone h2) XsOk.nil) ?_
  refine XsOk.cons (XOk.ifF (δ1 := δ) (TOk.cmp' (EvOk.name (av := v) rfl) EvOk.bool POk.isB h3) XsOk.nil) ?_
  exact XsOk.cons (XOk.ifF (δ1 := δ) (TOk.cmp' (EvOk.name (av := v) rfl) EvOk.bool POk.isB h4) XsOk.nil) h
theorem isi_name {nm σ p1 p2 p3 p4 n T} {v : AV} {r : Bool} (hT : BName n (.type T)) (hi : nm.lookup (Str.ofString "isinstance") = some .globalImplicit) (hn : nm.lookup n = some .globalImplicit) (hv : σ.lookup (Str.ofString "value") = some v)
    (hf : FOk k (.builtin "isinstance") [v, .typ T] (.bool r)) : EvOk k nm σ δ (.Call (.Name "isinstance" p1) [.Name "value" p2, .Name n p3] [] p4) (.ok (.bool r)) δ :=
  EvOk.bcall bn_isinstance hi (fun _ => nofun) (EvLOk.cons (EvOk.name hv) (EvLOk.cons (EvOk.bname hT hn) EvLOk.nil)) hf
theorem jt_4 (hv : v.rest = true) (hs : v.isStr = false) (h : XsOk k nm36 (jtL v b) δ ((bodyOf 36).drop 4) o ℓ' δ') : XsOk k nm36 (jtL v b) δ (bodyOf 36) o ℓ' δ' :=
  jt_3 hv (XsOk.cons (XOk.ifF (δ1 := δ) ((TOk.val (isi_name bn_str rfl rfl rfl (FOk.isiStr (rest_facts hv).1))).of hs) XsOk.nil) h)
theorem jt_5 (hv : v.rest = true) (hs : v.isStr = false) (hi : v.isInt = false) (h : XsOk k nm36 (jtL v b) δ ((bodyOf 36).drop 5) o ℓ' δ') : XsOk k nm36 (jtL v b) δ (bodyOf 36) o ℓ' δ' :=
  jt_4 hv hs (XsOk.cons (XOk.ifF (δ1 := δ) ((TOk.val (isi_name bn_int rfl rfl rfl (FOk.isiInt (rest_facts hv).1))).of hi) XsOk.nil) h)
theorem isi_seq {nm σ p1 p2 p3 p4 p5 p6 x} {v : AV} {r : Bool} (hi : nm.lookup (Str.ofString "isinstance") = some .globalImplicit) (h1 : nm.lookup (Str.ofString "list") = some .globalImplicit) (h2 : nm.lookup (Str.ofString "tuple") = some .globalImplicit) (hv : σ.lookup (Str.ofString "value") = some v)
    (hf : FOk k (.builtin "isinstance") [v, .types ["list", "tuple"]] (.bool r)) : EvOk k nm σ δ (.Call (.Name "isinstance" p1) [.Name "value" p2, .Tuple [.Name "list" p3, .Name "tuple" p4] x p5] [] p6) (.ok (.bool r)) δ :=
  EvOk.bcall bn_isinstance hi (fun _ => nofun) (EvLOk.cons (EvOk.name hv) (EvLOk.cons (EvOk.typesT bn_list bn_tuple h1 h2) EvLOk.nil)) hf
theorem jt_6 (hv : v.rest = true) (hs : v.isStr = false) (hi : v.isInt = false) (hl : v.isList = false) (h : XsOk k nm36 (jtL v b) δ ((bodyOf 36).drop 6) o ℓ' δ') : XsOk k nm36 (jtL v b) δ (bodyOf 36) o ℓ' δ' :=
  jt_5 hv hs hi (XsOk.cons (XOk.ifF (δ1 := δ) ((TOk.val (isi_seq rfl rfl rfl rfl (FOk.isiSeq (rest_facts hv).1 (rest_facts hv).2.2.2.2.1 (rest_facts hv).2.2.2.2.2))).of hl) XsOk.nil) h)

theorem jt_none : XsOk k nm36 (jtL .none b) δ (bodyOf 36) (.ret (.str ⟨wNull.toArray⟩)) (jtL .none b) δ := by
  refine XsOk.ret (XOk.ifT (δ1 := δ) (TOk.cmp' (EvOk.name (av := .none) rfl) EvOk.none POk.isNone rfl) (XsOk.ret (XOk.ret ?_)))
  rw [← litNull]; exact EvOk.str
theorem jt_true : XsOk k nm36 (jtL (.bool true) b) δ (bodyOf 36) (.ret (.str ⟨wTrue.toArray⟩)) (jtL (.bool true) b) δ := by
  refine XsOk.cons (XOk.ifF (δ1 := δ) (TOk.cmp' (EvOk.name (av := .bool true) rfl) EvOk.none POk.isNone rfl) XsOk.nil) ?_
  refine XsOk.ret (XOk.ifT (δ1 := δ) (TOk.cmp' (EvOk.name (av := .bool true) rfl) EvOk.bool POk.isB rfl) (XsOk.ret (XOk.ret ?_)))
  rw [← litTrue]; exact EvOk.str
theorem jt_false : XsOk k nm36 (jtL (.bool false) b) δ (bodyOf 36) (.ret (.str ⟨wFalse.toArray⟩)) (jtL (.bool false) b) δ := by
  refine XsOk.cons (XOk.ifF (δ1 := δ) (TOk.cmp' (EvOk.name (av := .bool false) rfl) EvOk.none POk.isNone rfl) XsOk.nil) ?_
  refine XsOk.cons (XOk.ifF (δ1 := δ) (TOk.cmp' (EvOk.name (av := .bool false) rfl) EvOk.bool POk.isB rfl) XsOk.nil) ?_
  refine XsOk.ret (XOk.ifT (δ1 := δ) (TOk.cmp' (EvOk.name (av := .bool false) rfl) EvOk.bool POk.isB rfl) (XsOk.ret (XOk.ret ?_)))
  rw [← litFalse]; exact EvOk.str
theorem jt_str {cs : List Nat} (hc : ∀ c ∈ cs, c ≤ 1114111) (hl : cs.length < 100000) : XsOk (k + 2) nm36 (jtL (.str ⟨cs.toArray⟩) b) δ (bodyOf 36) (.ret (.str (jsonS cs))) (jtL (.str ⟨cs.toArray⟩) b) δ := by
  refine jt_3 rfl (XsOk.ret (XOk.ifT (δ1 := δ) ((TOk.val (isi_name bn_str rfl rfl rfl (FOk.isiStr (v := .str ⟨cs.toArray⟩) rfl))).of rfl) (XsOk.ret (XOk.ret ?_))))
  exact EvOk.call gn_json_string rfl fn_30 (EvLOk.cons (EvOk.name (av := .str ⟨cs.toArray⟩) rfl) EvLOk.nil) ((json_string_ok hc hl).mono (by omega))
theorem jt_int {i : Int} (hi : i.natAbs.log2 < 1920) : XsOk k nm36 (jtL (.int i) b) δ (bodyOf 36) (.ret (.str (Str.ofString (toString i)))) (jtL (.int i) b) δ := by
  refine jt_4 rfl rfl (XsOk.ret (XOk.ifT (δ1 := δ) ((TOk.val (isi_name bn_int rfl rfl rfl (FOk.isiInt (v := .int i) rfl))).of rfl) (XsOk.ret (XOk.ret ?_))))
  exact EvOk.bcall bn_str rfl (fun _ => nofun) (EvLOk.cons (EvOk.name (av := .int i) rfl) EvLOk.nil) (FOk.strOf hi)
end Mine

namespace Mine
set_option maxRecDepth 100000

noncomputable def txt (l : List Nat) : Str := ⟨l.toArray⟩
theorem txt_cps {l : List Nat} : (txt l).cps.toList = l := rfl
theorem txt_app {a b : List Nat} : txt a ++ txt b = txt (a ++ b) := str_of_list (by rw [Str.cps_append]; simp [txt])
theorem txt_len {l : List Nat} : (txt l).length = l.length := by simp [txt, Str.length]
theorem glue_txt (ts : List (List Nat)) : glue (Str.ofString ",") (ts.map txt) = txt (inter ts) := str_of_list (by rw [glue_inter, List.map_map]; congr 1; exact List.map_id'' (fun _ => rfl) ts)
theorem join_fits {ts : List (List Nat)} {B : Nat} (h : ∀ t ∈ ts, t.length ≤ B) (hn : ts.length ≤ 4) (hB : B ≤ 1000000) : JoinOk (Str.ofString ",") (ts.map txt) = true := by
  have e1 : (Str.ofString ",").length = 1 := by decide +kernel
  unfold JoinOk
  have hb : ∀ y ∈ ts.map txt, y.length ≤ B := fun y hy => by
    obtain ⟨t, ht, rfl⟩ := List.mem_map.mp hy
    rw [txt_len]; exact h t ht
  have hs : (ts.map txt).length * B + (ts.map txt).length * (Str.ofString ",").length ≤ 16777216 := by
    rw [e1, List.length_map]
    have : ts.length * B ≤ 4 * B := Nat.mul_le_mul_right _ hn
    omega
  rw [StrLaws.joinFits hb hs]
  rfl
theorem swaps_comp {elt : Expr} {gens : List Comprehension} {scope : Scope} {cpos py : Pos} {y : Str} {line : Nat} {env : Env} (hk : env.scope.kind = .function) (hv : env.kindOf y = some .local) (hl : (py.line == cpos.line) = true)
    (hs : (scope.names.any fun p => p.1 == y && (p.2 == .local || p.2 == .cell)) = false) : swapsWith (.ListComp elt gens scope cpos) (some (.Name y py)) line env = pure true := by
  have hb : env.blockKind = .function := by unfold Env.blockKind; simp [hk]
  have hl' : (py.line == (Expr.ListComp elt gens scope cpos).pos.line) = true := hl
  unfold swapsWith
  simp only [hb, hv, hl', hs]
  rfl

variable {k : Nat} {δ : Draw} {b : Bool}
noncomputable def nmC : List (Str × NameKind) := relabelN nm36 [(".0", .local), ("one", .local), ("json_text", .globalImplicit), ("colon", .free), ("comma", .free), ("sort_keys", .free)]
noncomputable def sC (b : Bool) : List (Str × AV) := [("colon", oA), ("comma", cA), ("sort_keys", .bool b)]

theorem comp_all {k nm σ δ x elt} {ts : List AV} : ∀ {items : List AV}, items.length = ts.length → (∀ (j : Nat) a t, items[j]? = some a → ts[j]? = some t → EvOk k nm ((x, a) :: σ) δ elt (.ok t) δ) → CompR k nm σ δ x [] elt items (.ok ts) := by
  induction ts with
  | nil =>
    intro items hl _
    cases items with
    | nil => exact .nil
    | cons _ _ => simp at hl
  | cons t ts ih =>
    intro items hl h
    cases items with
    | nil => simp at hl
    | cons a r => exact .take (.inl ⟨rfl, rfl⟩) (h 0 a t rfl rfl) (ih (by simpa using hl) fun j a' t' h1 h2 => h (j + 1) a' t' (by simpa using h1) (by simpa using h2))

theorem jt_list {xs : List AV} {ts : List (List Nat)} (hl : xs.length = ts.length) (hc : ∀ (j : Nat) x t, xs[j]? = some x → ts[j]? = some t → CallOk k 36 [x, cA, oA, .bool b] δ (.ok (.str (txt t))) δ) (hn : ts.length ≤ 4) {B : Nat} (hB : B ≤ 1000000) (hts : ∀ t ∈ ts, t.length ≤ B) :
    XsOk k nm36 (jtL (.list xs) b) δ (bodyOf 36) (.ret (.str (txt (91 :: (inter ts ++ [93]))))) (setL "parts" (.val (.list (ts.map fun t => .str (txt t)))) (jtL (.list xs) b)) δ := by
  refine jt_5 rfl rfl rfl (XsOk.ret (XOk.ifT (δ1 := δ) ((TOk.val (isi_seq rfl rfl rfl rfl (FOk.isiSeq (v := .list xs) rfl nofun nofun))).of rfl) ?_))
  have e0 : ts.map (fun t => AV.str (txt t)) = (ts.map txt).map AV.str := by simp
  refine XsOk.cons (δ1 := δ) (XOk.assignComp (nm' := nmC) (σc := sC b) (EvOk.name (av := .list xs) rfl) ItOk.list ?_ (comp_all (ts := ts.map fun t => .str (txt t)) (by simpa using hl) fun j a t ha ht => ?_) (by rw [sizeLine_eq]; omega) rfl (fun env hk hv => swaps_comp hk hv rfl (by decide))) ?_
  · exact ⟨rfl, by decide, by decide, rfl, rfl, rfl, (by show ∀ y ∈ (["colon", "comma", "sort_keys"] : List Str), _; decide), fun p hp => by
      simp only [sC, List.mem_cons, List.not_mem_nil, or_false] at hp
      rcases hp with rfl | rfl | rfl <;> rfl⟩
  · rw [List.getElem?_map, Option.map_eq_some_iff] at ht
    obtain ⟨t, ht, rfl⟩ := ht
    exact EvOk.call gn_json_text rfl fn_36 (EvLOk.cons (EvOk.name (av := a) rfl) (EvLOk.cons (EvOk.name (av := cA) rfl) (EvLOk.cons (EvOk.name (av := oA) rfl) (EvLOk.cons (EvOk.name (av := .bool b) rfl) EvLOk.nil)))) (hc j a t ha ht)
  · refine XsOk.ret (XOk.ret ?_)
    have hfin : (txt [91] ++ txt (inter ts)) ++ txt [93] = txt (91 :: (inter ts ++ [93])) := by rw [txt_app, txt_app]; rfl
    have hil := inter_len hts
    have h4 : ts.length * (B + 1) ≤ 4 * (B + 1) := Nat.mul_le_mul_right _ hn
    rw [← hfin, e0]
    refine EvOk.bin (EvOk.bin (b := .str (txt (inter ts))) (by rw [show txt [91] = Str.ofString "[" from lit91.symm]; exact EvOk.str) ?_ (BOk.cat ?_)) (by rw [show txt [93] = Str.ofString "]" from lit93.symm]; exact EvOk.str) (BOk.cat ?_)
    · rw [← glue_txt]
      exact EvOk.join (EvOk.name (av := cA) rfl) (EvLOk.cons (EvOk.name (av := .list ((ts.map txt).map AV.str)) rfl) EvLOk.nil) (join_fits hts hn hB)
    · rw [txt_len, txt_len, sizeLine_eq]; simp only [List.length_cons, List.length_nil]; omega
    · rw [txt_app, txt_len, txt_len, sizeLine_eq]; simp only [List.length_append, List.length_cons, List.length_nil]; omega
end Mine

namespace Mine
set_option maxRecDepth 100000

variable {k : Nat} {δ : Draw} {b : Bool}
noncomputable def jtK (es : List (Str × AV)) (b : Bool) (ks : List AV) : Loc := setL "keys" (.val (.list ks)) (jtL (.dict es) b)
noncomputable def jtP (es : List (Str × AV)) (b : Bool) (ks : List AV) (fs : List Str) : Loc := setL "parts" (.own (fs.map AV.str)) (jtK es b ks)
noncomputable def jtB : List Stmt := match stAt (wB (stAt (bodyOf 36) 6)) 2 with
  | .For _ _ b _ _ => b
  | _ => []

theorem jsonS_eq (k : Str) : jsonS k.cps.toList = txt (34 :: (k.cps.toList.flatMap jesc ++ [34])) := rfl
theorem entry_eq (k : Str) (t : List Nat) : (jsonS k.cps.toList ++ Str.ofString ":") ++ txt t = txt (entryT k t) := by
  rw [jsonS_eq, lit58, show sg 58 = txt [58] from rfl, txt_app, txt_app]
  unfold entryT
  congr 1
  simp

theorem jt_turn {es : List (Str × AV)} {ks : List AV} {fs : List Str} {e : Str × AV} {t : List Nat} (hg : getE es e.1 = some e.2) (hk : KeyOk e.1) (hc : CallOk (k + 2) 36 [e.2, cA, oA, .bool b] δ (.ok (.str (txt t))) δ) (ht : t.length ≤ 1000000) (hf : fs.length ≤ 4) :
    XsOk (k + 2) nm36 (setL "key" (.val (.str e.1)) (jtP es b ks fs)) δ jtB .next (jtP es b ks (fs ++ [txt (entryT e.1 t)])) δ := by
  refine XsOk.forget (ℓ2 := setL "key" (.val (.str e.1)) (jtP es b ks (fs ++ [txt (entryT e.1 t)]))) ?_ (by unfold jtP jtK jtL; repeat constructor)
  refine XsOk.cons (XOk.ifF (δ1 := δ) ((TOk.not (TOk.val (EvOk.bcall bn_isinstance rfl (fun _ => nofun) (EvLOk.cons (EvOk.name (av := .str e.1) rfl) (EvLOk.cons (EvOk.bname bn_str rfl) EvLOk.nil)) (FOk.isiStr (v := .str e.1) rfl)))).of rfl) XsOk.nil) (XsOk.one ?_)
  have hlen : (jsonS e.1.cps.toList).length ≤ 122 := by
    rw [jsonS_eq, txt_len]
    have q2 := esc_len e.1.cps.toList
    have q3 : e.1.cps.toList.length ≤ 10 := by rw [str_len]; exact hk.2
    simp only [List.length_cons, List.length_append, List.length_nil]; omega
  have e1 : (Str.ofString ":").length = 1 := by decide +kernel
  refine XOk.appendS (fs := fs) (y := txt (entryT e.1 t)) rfl ?_ (by rw [sizeLine_eq]; omega) rfl
  rw [← entry_eq]
  refine EvOk.bin (EvOk.bin (EvOk.call gn_json_string rfl fn_30 (EvLOk.cons (EvOk.name (av := .str e.1) rfl) EvLOk.nil) ((json_string_ok (cs := e.1.cps.toList) hk.1 (by rw [str_len]; have := hk.2; omega)).mono (by omega))) (EvOk.name (av := oA) rfl) (BOk.cat ?_))
    (EvOk.call gn_json_text rfl fn_36 (EvLOk.cons (EvOk.sub (EvOk.name (av := .dict es) rfl) (EvOk.name (av := .str e.1) rfl) (GOk.dict hg)) (EvLOk.cons (EvOk.name (av := cA) rfl) (EvLOk.cons (EvOk.name (av := oA) rfl) (EvLOk.cons (EvOk.name (av := .bool b) rfl) EvLOk.nil)))) hc) (BOk.cat ?_)
  · rw [e1, sizeLine_eq]; omega
  · rw [Str.length_append, e1, txt_len, sizeLine_eq]; omega

theorem jt_loop {es : List (Str × AV)} {ks : List AV} {tx : Str × AV → List Nat} : ∀ (l : List (Str × AV)) (fs : List Str), (∀ e ∈ l, getE es e.1 = some e.2 ∧ KeyOk e.1 ∧ CallOk (k + 2) 36 [e.2, cA, oA, .bool b] δ (.ok (.str (txt (tx e)))) δ ∧ (tx e).length ≤ 1000000) → fs.length + l.length ≤ 4 →
    LOk (k + 2) nm36 (jtP es b ks fs) δ "key" (l.map fun e => .str e.1) jtB .next (jtP es b ks (fs ++ l.map fun e => txt (entryT e.1 (tx e)))) δ
  | [], fs, _, _ => by simpa using LOk.nil
  | e :: l, fs, h, hn => by
    obtain ⟨h1, h2, h3, h4⟩ := h e (List.mem_cons_self ..)
    have ih := jt_loop (ks := ks) l (fs ++ [txt (entryT e.1 (tx e))]) (fun e he => h e (List.mem_cons_of_mem _ he)) (by simp at hn ⊢; omega)
    have e0 : fs ++ (e :: l).map (fun e => txt (entryT e.1 (tx e))) = (fs ++ [txt (entryT e.1 (tx e))]) ++ l.map fun e => txt (entryT e.1 (tx e)) := by simp
    rw [e0]
    exact LOk.step rfl (jt_turn h1 h2 h3 h4 (by simp at hn; omega)) (.inl rfl) ih

theorem jt_keys {es : List (Str × AV)} (h3 : es.length ≤ 3) {p1 p2 p3 p4 p5 p6 p7 p8} : EvOk k nm36 (vals (jtL (.dict es) b)) δ (.IfExp (.Name "sort_keys" p1) (.Call (.Name "sorted" p2) [.Name "value" p3] [] p4) (.Call (.Name "list" p5) [.Name "value" p6] [] p7) p8) (.ok (.list ((order b es).map fun e => .str e.1))) δ := by
  rw [order_keys]
  cases b with
  | true => exact EvOk.ifTrue (TOk.val (EvOk.name (av := .bool true) rfl)) (EvOk.bcall bn_sorted rfl (fun _ => nofun) (EvLOk.cons (EvOk.name (av := .dict es) rfl) EvLOk.nil) (FOk.sortedDict h3))
  | false => exact EvOk.ifFalse (TOk.val (EvOk.name (av := .bool false) rfl)) (EvOk.bcall bn_list rfl (fun _ => nofun) (EvLOk.cons (EvOk.name (av := .dict es) rfl) EvLOk.nil) (FOk.listOfDict (by rw [sizeLine_eq]; omega)))

theorem jt_dict {es : List (Str × AV)} {tx : Str × AV → List Nat} (h3 : es.length ≤ 3) (ho : (order b es).length ≤ 3) (h : ∀ e ∈ order b es, getE es e.1 = some e.2 ∧ KeyOk e.1 ∧ CallOk (k + 2) 36 [e.2, cA, oA, .bool b] δ (.ok (.str (txt (tx e)))) δ ∧ (tx e).length ≤ 900000) :
    ∃ ℓ', XsOk (k + 2) nm36 (jtL (.dict es) b) δ (bodyOf 36) (.ret (.str (txt (123 :: (inter ((order b es).map fun e => entryT e.1 (tx e)) ++ [125]))))) ℓ' δ := by
  refine ⟨jtP es b ((order b es).map fun e => .str e.1) ((order b es).map fun e => txt (entryT e.1 (tx e))), jt_6 rfl rfl rfl rfl (XsOk.ret (XOk.ifT (δ1 := δ) ((TOk.val (isi_name bn_dict rfl rfl rfl (FOk.isiDict (v := .dict es) rfl))).of rfl) ?_))⟩
  have hloop := jt_loop (k := k) (δ := δ) (b := b) (es := es) (ks := (order b es).map fun e => .str e.1) (tx := tx) (order b es) [] (fun e he => let ⟨a1, a2, a3, a4⟩ := h e he; ⟨a1, a2, a3, by omega⟩) (by simp; omega)
  rw [List.nil_append] at hloop
  refine XsOk.cons (δ1 := δ) (ℓ1 := jtK es b ((order b es).map fun e => .str e.1)) (XOk.assign (jt_keys h3) rfl) ?_
  refine XsOk.cons (δ1 := δ) (ℓ1 := jtP es b ((order b es).map fun e => .str e.1) []) (XOk.assignOwn EvLOk.nil rfl (by decide)) ?_
  refine XsOk.cons (δ1 := δ) (XOk.for (a := .list ((order b es).map fun e => .str e.1)) (δ1 := δ) (EvOk.name rfl) ItOk.list hloop) (XsOk.ret (XOk.ret ?_))
  have hts : ∀ t ∈ (order b es).map (fun e => entryT e.1 (tx e)), t.length ≤ 900200 := fun t ht => by
    obtain ⟨e, he, rfl⟩ := List.mem_map.mp ht
    obtain ⟨_, a2, _, a4⟩ := h e he
    have q2 := esc_len e.1.cps.toList
    have q3 : e.1.cps.toList.length ≤ 10 := by rw [str_len]; exact a2.2
    unfold entryT
    simp only [List.length_cons, List.length_append]
    omega
  have hil := inter_len hts
  rw [List.length_map] at hil
  have h4 : (order b es).length * (900200 + 1) ≤ 3 * (900200 + 1) := Nat.mul_le_mul_right _ ho
  have hm : (order b es).map (fun e => txt (entryT e.1 (tx e))) = ((order b es).map fun e => entryT e.1 (tx e)).map txt := by simp
  generalize hT : (order b es).map (fun e => entryT e.1 (tx e)) = ts at hts hil hm
  have hn : ts.length ≤ 4 := by rw [← hT, List.length_map]; omega
  have hfin : (txt [123] ++ txt (inter ts)) ++ txt [125] = txt (123 :: (inter ts ++ [125])) := by rw [txt_app, txt_app]; rfl
  rw [← hfin, hm]
  refine EvOk.bin (EvOk.bin (b := .str (txt (inter ts))) (by rw [show txt [123] = Str.ofString "{" from lit123.symm]; exact EvOk.str) ?_ (BOk.cat ?_)) (by rw [show txt [125] = Str.ofString "}" from lit125.symm]; exact EvOk.str) (BOk.cat ?_)
  · rw [← glue_txt]
    exact EvOk.join (EvOk.name (av := cA) rfl) (EvLOk.cons (EvOk.name (av := .list ((ts.map txt).map AV.str)) rfl) EvLOk.nil) (join_fits hts hn (by omega))
  · rw [txt_len, txt_len, sizeLine_eq]; simp only [List.length_cons, List.length_nil]; omega
  · rw [txt_app, txt_len, txt_len, sizeLine_eq]; simp only [List.length_append, List.length_cons, List.length_nil]; omega
end Mine

namespace Mine
set_option maxRecDepth 100000

section
variable {k : Nat} {nm : List (Str × NameKind)} {ℓ : Loc} {δ δ' : Draw}
/-- x.append(e) where e raises -/
theorem XOk.appendExc {x np apos pos p e xs X} (h0 : ℓ.lookup x = some (.own xs)) (h : EvOk k nm (peek ℓ) δ e (.exc X) δ')
    (hd : (x == ("__debug__" : Str)) = false := by decide) (hline : (apos.endLine == pos.line) = true := by rfl) (hst : ∀ env, starEach [e] env = [(false, eval e env)] := by intro _; rfl) (hbt : ∀ env, backTo pos (starEach [e] env) = [(false, eval e env)] := by intro _; rfl) :
    XOk k nm ℓ δ (.Expr (.Call (.Attribute (.Name x np) "append" apos) [e] [] pos) p) (.exc X) ℓ δ' := by
  constructor; intro F O s Q E K S hn hc hr he
  obtain ⟨m, hns, hl, hi⟩ := S.nml
  obtain ⟨hk, D, items, hm, hDO, hpl, hrd⟩ := hl x _ h0
  refine wpAny_Expr (wpAny_Call_append rfl ?_ hline (hbt _) (wpAny_Name (wpAny_loadName_local K.c.kind hk (m := m) (by rw [K.loc]; exact hns.keeps v_stays_real) hm ⟨D, items, rfl, hpl, ?_⟩) hd)) (by unfold interactive; rw [K.c.kind]; rfl) rfl
  · rw [hbt]; rfl
  exact h.run F.C s _ _ K.c (S.evPeek K) (fun v av1 s1 e1 a1 r1 => nomatch e1) fun e X s1 e1 x => he e X s1 (by cases e1; rfl) (ExcStat.of K S x)
end

theorem XsOk.raiseT {k nm ℓ δ np s p q cpos pos rest} (hx : nm.lookup (Str.ofString "TypeError") = some .globalImplicit) :
    XsOk k nm ℓ δ (.Raise (some (.Call (.Name "TypeError" np) [.Constant (.str s) p q] [] cpos)) none pos :: rest) (.exc "TypeError") ℓ δ :=
  XsOk.exc (XOk.raise F.excCall_TypeError F.excRaise_TypeError bn_TypeError hx (EvLOk.cons EvOk.str EvLOk.nil) (by show 1 ≤ 10; decide))

theorem txt_self (x : Str) : txt x.cps.toList = x := by cases x; simp [txt]
theorem pow4 {n : Nat} (h : n ≤ 4) : 400 * 4 ^ n ≤ 102400 := by
  have : 4 ^ n ≤ 4 ^ 4 := Nat.pow_le_pow_right (by decide) h
  have e : (4 : Nat) ^ 4 = 256 := by decide
  omega
theorem jt_body {δ : Draw} {b : Bool} : ∀ (n : Nat) (v : AV), n ≤ 5 → JokN n v → ∃ ℓ', XsOk (n + 2) nm36 (jtL v b) δ (bodyOf 36) (.ret (.str (txt (jtextN b n v)))) ℓ' δ
  | n, .none, _, _ => ⟨_, by unfold jtextN; exact jt_none⟩
  | n, .bool true, _, _ => ⟨_, by unfold jtextN; exact jt_true⟩
  | n, .bool false, _, _ => ⟨_, by unfold jtextN; exact jt_false⟩
  | n, .int i, _, h => ⟨_, by unfold jtextN; rw [txt_self]; unfold JokN at h; exact jt_int h.1⟩
  | n, .str x, _, h => ⟨_, by
      unfold JokN at h
      unfold jtextN
      rw [← jsonS_eq]
      have := jt_str (k := n) (δ := δ) (b := b) (cs := x.cps.toList) h.1 (by rw [str_len]; have := h.2; omega)
      rw [show (⟨x.cps.toList.toArray⟩ : Str) = x from txt_self x] at this
      exact this⟩
  | n + 1, .list xs, hn, h => by
    unfold JokN at h
    unfold jtextN
    refine ⟨_, jt_list (k := n + 3) (by simp) (fun j x t hx ht => ?_) (by simp; omega) (B := 102400) (by decide) fun t ht => ?_⟩
    · rw [List.getElem?_map, hx] at ht
      cases ht
      obtain ⟨ℓ', hb⟩ := jt_body (δ := δ) (b := b) n x (by omega) (h.2 x (List.mem_of_getElem? hx))
      exact jt_call4 hb rfl
    · obtain ⟨x, hx, rfl⟩ := List.mem_map.mp ht
      exact Nat.le_trans (jtext_len n x (h.2 x hx)) (pow4 (by omega))
  | n + 1, .dict es, hn, h => by
    unfold JokN at h
    unfold jtextN
    obtain ⟨hl, hm⟩ := order_mem (b := b) h.1 h.2.1
    refine jt_dict (k := n + 1) (tx := fun e => jtextN b n e.2) h.1 (by omega) fun e he => ?_
    obtain ⟨he1, he2⟩ := hm e he
    obtain ⟨q1, q2⟩ := h.2.2 e he1
    obtain ⟨ℓ', hb⟩ := jt_body (δ := δ) (b := b) n e.2 (by omega) q2
    exact ⟨he2, q1, jt_call4 hb rfl, Nat.le_trans (Nat.le_trans (jtext_len n e.2 q2) (pow4 (by omega))) (by decide)⟩
  | 0, .list _, _, h => by unfold JokN at h; exact h.elim
  | 0, .dict _, _, h => by unfold JokN at h; exact h.elim
  | n, .bytes _, _, h => by unfold JokN at h; exact h.elim
  | n, .tuple _, _, h => by unfold JokN at h; exact h.elim
  | n, .idict _, _, h => by unfold JokN at h; exact h.elim
  | n, .draw, _, h => by unfold JokN at h; exact h.elim
  | n, .cells, _, h => by unfold JokN at h; exact h.elim
  | n, .typ _, _, h => by unfold JokN at h; exact h.elim
  | n, .range _, _, h => by unfold JokN at h; exact h.elim
  | n, .types _, _, h => by unfold JokN at h; exact h.elim
  | n, .raw _, _, h => by unfold JokN at h; exact h.elim

theorem json_text_ok {δ b n v} (hn : n ≤ 5) (h : JokN n v) : CallOk (n + 3) 36 [v, cA, oA, .bool b] δ (.ok (.str (txt (jtextN b n v)))) δ :=
  let ⟨_, hb⟩ := jt_body n v hn h; jt_call4 hb rfl
theorem json_text_ok3 {δ n v} (hn : n ≤ 5) (h : JokN n v) : CallOk (n + 3) 36 [v, cA, oA] δ (.ok (.str (txt (jtextN false n v)))) δ :=
  let ⟨_, hb⟩ := jt_body n v hn h; jt_call3 hb rfl

/-! ## what is refused -/
variable {k : Nat} {δ : Draw}
theorem jt_bytes {x : Array UInt8} {b : Bool} : XsOk k nm36 (jtL (.bytes x) b) δ (bodyOf 36) (.exc "TypeError") (jtL (.bytes x) b) δ :=
  jt_6 rfl rfl rfl rfl (XsOk.cons (XOk.ifF (δ1 := δ) ((TOk.val (isi_name bn_dict rfl rfl rfl (FOk.isiDict (v := .bytes x) rfl))).of rfl) XsOk.nil) (XsOk.raiseT rfl))
theorem jt_idict {i : Int} {v : AV} : ∃ ℓ', XsOk k nm36 (jtL (.idict [(i, v)]) false) δ (bodyOf 36) (.exc "TypeError") ℓ' δ := by
  refine ⟨setL "key" (.val (.int i)) (setL "parts" (.own []) (setL "keys" (.val (.list [.int i])) (jtL (.idict [(i, v)]) false))), jt_6 rfl rfl rfl rfl (XsOk.exc (XOk.ifT (δ1 := δ) ((TOk.val (isi_name bn_dict rfl rfl rfl (FOk.isiDict (v := .idict [(i, v)]) rfl))).of rfl) ?_))⟩
  refine XsOk.cons (δ1 := δ) (ℓ1 := setL "keys" (.val (.list [.int i])) (jtL (.idict [(i, v)]) false)) (XOk.assign (av := .list [.int i]) ?_ rfl) ?_
  · exact EvOk.ifFalse (TOk.val (EvOk.name (av := .bool false) rfl)) (EvOk.bcall bn_list rfl (fun _ => nofun) (EvLOk.cons (EvOk.name (av := .idict [(i, v)]) rfl) EvLOk.nil) (FOk.listOfIdict (by show 1 ≤ sizeLine; decide)))
  refine XsOk.cons (δ1 := δ) (ℓ1 := setL "parts" (.own []) (setL "keys" (.val (.list [.int i])) (jtL (.idict [(i, v)]) false))) (XOk.assignOwn EvLOk.nil rfl (by decide)) ?_
  refine XsOk.exc (XOk.for (a := .list [.int i]) (δ1 := δ) (EvOk.name rfl) ItOk.list (LOk.exc rfl ?_))
  exact XsOk.exc (XOk.ifT (δ1 := δ) ((TOk.not (TOk.val (EvOk.bcall bn_isinstance rfl (fun _ => nofun) (EvLOk.cons (EvOk.name (av := .int i) rfl) (EvLOk.cons (EvOk.bname bn_str rfl) EvLOk.nil)) (FOk.isiStr (v := .int i) rfl)))).of rfl) (XsOk.raiseT rfl))
/-- {key: octets} -/
theorem json_text_bytes {key : Str} {x : Array UInt8} (hk : KeyOk key) : CallOk 4 36 [.dict [(key, .bytes x)], cA, oA] δ (.exc "TypeError") δ := by
  refine jt_call3 (k := 3) (o := .exc "TypeError") (ℓ' := setL "key" (.val (.str key)) (jtP [(key,.bytes x)] false [.str key] [])) (jt_6 rfl rfl rfl rfl (XsOk.exc (XOk.ifT (δ1 := δ) ((TOk.val (isi_name bn_dict rfl rfl rfl (FOk.isiDict (v := .dict [(key, .bytes x)]) rfl))).of rfl) ?_))) rfl
  refine XsOk.cons (δ1 := δ) (ℓ1 := jtK [(key, .bytes x)] false [.str key]) (XOk.assign (jt_keys (es := [(key, .bytes x)]) (by show 1 ≤ 3; decide)) rfl) ?_
  refine XsOk.cons (δ1 := δ) (ℓ1 := jtP [(key, .bytes x)] false [.str key] []) (XOk.assignOwn EvLOk.nil rfl (by decide)) ?_
  refine XsOk.exc (XOk.for (a := .list [.str key]) (δ1 := δ) (EvOk.name rfl) ItOk.list (LOk.exc rfl ?_))
  refine XsOk.cons (XOk.ifF (δ1 := δ) ((TOk.not (TOk.val (EvOk.bcall bn_isinstance rfl (fun _ => nofun) (EvLOk.cons (EvOk.name (av := .str key) rfl) (EvLOk.cons (EvOk.bname bn_str rfl) EvLOk.nil)) (FOk.isiStr (v := .str key) rfl)))).of rfl) XsOk.nil) (XsOk.exc (XOk.appendExc (xs := []) rfl ?_))
  have hlen : (jsonS key.cps.toList).length ≤ 122 := by
    rw [jsonS_eq, txt_len]
    have q2 := esc_len key.cps.toList
    have q3 : key.cps.toList.length ≤ 10 := by rw [str_len]; exact hk.2
    simp only [List.length_cons, List.length_append, List.length_nil]; omega
  have e1 : (Str.ofString ":").length = 1 := by decide +kernel
  refine EvOk.binR (EvOk.bin (EvOk.call gn_json_string rfl fn_30 (EvLOk.cons (EvOk.name (av := .str key) rfl) EvLOk.nil) ((json_string_ok (cs := key.cps.toList) hk.1 (by rw [str_len]; have := hk.2; omega)).mono (by omega))) (EvOk.name (av := oA) rfl) (BOk.cat ?_)) ?_
  · rw [e1, sizeLine_eq]; omega
  · exact EvOk.call gn_json_text rfl fn_36 (EvLOk.cons (EvOk.sub (EvOk.name (av := .dict [(key, .bytes x)]) rfl) (EvOk.name (av := .str key) rfl) (GOk.dict (c := .bytes x) (by simp [getE]))) (EvLOk.cons (EvOk.name (av := cA) rfl) (EvLOk.cons (EvOk.name (av := oA) rfl) (EvLOk.cons (EvOk.name (av := .bool false) rfl) EvLOk.nil)))) ((jt_call4 (k := 0) jt_bytes rfl).mono (by omega))
/-- [value, {number: value}] -/
theorem json_text_key {n : Nat} {v : AV} {i : Int} (hn : n ≤ 5) (h : JokN n v) : CallOk (n + 4) 36 [.list [v, .idict [(i, v)]], cA, oA] δ (.exc "TypeError") δ := by
  refine jt_call3 (k := n + 3) (o := .exc "TypeError") (ℓ' := jtL (.list [v, .idict [(i, v)]]) false) (jt_5 rfl rfl rfl (XsOk.exc (XOk.ifT (δ1 := δ) ((TOk.val (isi_seq rfl rfl rfl rfl (FOk.isiSeq (v := .list [v, .idict [(i, v)]]) rfl nofun nofun))).of rfl) ?_))) rfl
  refine XsOk.exc (XOk.assignCompExc (nm' := nmC) (σc := sC false) (a := .list [v, .idict [(i, v)]]) (items := [v, .idict [(i, v)]]) ?_ ItOk.list ?_ (CompR.later (v := .str (txt (jtextN false n v))) (.inl ⟨rfl, rfl⟩) ?_ (CompR.exc (.inl ⟨rfl, rfl⟩) ?_)) (by show 2 ≤ sizeLine; decide) rfl ?_)
  · exact EvOk.name rfl
  · exact ⟨rfl, by decide, by decide, rfl, rfl, rfl, (by show ∀ y ∈ (["colon", "comma", "sort_keys"] : List Str), _; decide), fun p hp => by
      simp only [sC, List.mem_cons, List.not_mem_nil, or_false] at hp
      rcases hp with rfl | rfl | rfl <;> rfl⟩
  · exact EvOk.call gn_json_text rfl fn_36 (EvLOk.cons (EvOk.name (av := v) rfl) (EvLOk.cons (EvOk.name (av := cA) rfl) (EvLOk.cons (EvOk.name (av := oA) rfl) (EvLOk.cons (EvOk.name (av := .bool false) rfl) EvLOk.nil)))) (json_text_ok hn h)
  rotate_left
  · exact fun env hk hv => swaps_comp hk hv rfl (by decide)
  · obtain ⟨ℓ', hb⟩ := jt_idict (k := 0) (δ := δ) (i := i) (v := v)
    exact EvOk.call gn_json_text rfl fn_36 (EvLOk.cons (EvOk.name (av := .idict [(i, v)]) rfl) (EvLOk.cons (EvOk.name (av := cA) rfl) (EvLOk.cons (EvOk.name (av := oA) rfl) (EvLOk.cons (EvOk.name (av := .bool false) rfl) EvLOk.nil)))) ((jt_call4 (k := 0) hb rfl).mono (by omega))
end Mine

namespace Mine
set_option maxRecDepth 100000

theorem pop_plain {w : World} {A : Around} {E : Value → Shared → Prop} {s : Shared} {l : Addr} {its : Array Value} {y : Value} {t : Tok} {Q : Value → Shared → Prop} (hl : PlainL s.heap l its) (hy : its[0]? = some y) (hz : its.size ≤ sizeLine)
    (hQ : ∀ h', PlainL h' l (its.eraseIdxIfInBounds 0) → Heap.SameBut l s.heap h' → Q y { s with heap := h' }) : wpAny (MM w) A (call (.builtin "list.pop") [.ref l, .int 0 t]) Q E s := by
  obtain ⟨o, n, ho, hc, hdn, hd⟩ := id hl
  obtain ⟨n', hd'⟩ := Obj.data_mapSeq hd (·.eraseIdxIfInBounds 0)
  have hne : its.isEmpty = false := by
    cases hi : its.isEmpty with
    | false => rfl
    | true =>
      have : its.size = 0 := by simpa using hi
      simp [this] at hy
  have hlt : 0 < its.size := (Array.getElem?_eq_some_iff.mp hy).1
  refine wpAny_call_entry F.slot_list_pop hl.isList.typeIs F.entry_list_pop ?_ (F.args_list_pop_2 _ _)
  unfold Builtin.«list.pop»
  refine wpAny_bind (wpAny_pure (wpAny_bind (wpAny_pure ?_)))
  have hf : (!Builtin.List.listFitsIndex 0) = false := by decide
  have hk : seqIndex? 0 its.size = some 0 := by
    unfold seqIndex?
    simp
    first | exact hlt | exact Array.size_pos_iff.mp hlt
  dsimp only
  rw [if_neg (by rw [hf]; decide)]
  refine wpAny_bind (listItems_at ho hd ?_)
  rw [if_neg (by rw [hne]; decide), hk]
  simp only [Option.bind_some, hy, Option.map_some]
  have hz' : (its.eraseIdxIfInBounds 0).size ≤ sizeLine + 1 := by unfold Array.eraseIdxIfInBounds; split <;> (try rw [Array.size_eraseIdx]) <;> omega
  refine wpAny_bind (listUpdate_at ho hd (wpAny_pure ⟨_, rfl, hQ _ ?_ (Heap.SameBut.update ..)⟩) hz hz')
  refine ⟨_, n', Heap.get?_update_self _ ho (Obj.isFreed_of_seq hd'), (Obj.cls_mapSeq ..).trans hc, ?_, hd'⟩
  obtain ⟨c, d, dt, sl⟩ := o
  subst hd
  exact hdn
end Mine

namespace Mine
set_option maxRecDepth 100000

theorem ints_of_rdl {w D h H} : ∀ {vs : List Value} {ns : List Int}, RdL w D h H vs (ns.map AV.int) → IntsAre vs ns
  | [], [], _ => .nil
  | _ :: _, n :: ns, .cons r1 r2 => by cases r1 with | int _ t => exact .cons _ t (ints_of_rdl r2)

section
variable {k : Nat} {nm : List (Str × NameKind)} {σ : List (Str × AV)} {δ δ1 δ2 δ' : Draw}
theorem draw_item {x p kd p2 pos} {i : Int} {av : AV} (hx : σ.lookup x = some .draw) (h0 : 0 ≤ i) (h1 : i < 2 ^ 63) (hd : (x == ("__debug__" : Str)) = false)
    (hv : ∀ (w : World) (D : DA) (h : Heap) (H : List Addr) (d c : Addr) (t1 t2 : Tok), D = some (d, c) → ∃ v, (#[Value.ref c, .int δ.seed t1, .int δ.bud t2] : Array Value)[i.toNat]? = some v ∧ Rd w D h H v av) :
    EvOk k nm σ δ (.Subscript (.Name x p) (.Constant (.int i) kd p2) pos) (.ok av) δ := by
  constructor; intro C s Q E O S hq he
  refine Sub_any ((EvOk.name (k := k) (nm := nm) (δ := δ) hx hd).run C s _ _ O S (fun va bv s1 e1 a1 r1 => ?_) fun e X s1 e1 _ => nomatch e1)
  cases e1
  have S1 := S.aft O a1
  cases r1 with | @draw d c hD =>
  obtain ⟨hne, t1, t2, its, hl, hp, hr⟩ := S1.dr d c hD
  obtain ⟨v, hv1, hv2⟩ := hv C.w C.D s1.heap C.H d c t1 t2 hD
  refine wpAny_Constant_int ?_
  exact ⟨"list", _, slot_list_getitem.lookup, hl.typeIs, wpAny_getItem_list hl h0 h1 hv1 (hq _ _ _ rfl (a1.trans (Aft.of_tok S1)) hv2)⟩
theorem EvOk.draw0 {x p kd p2 pos} (hx : σ.lookup x = some .draw) (hd : (x == ("__debug__" : Str)) = false := by decide) : EvOk k nm σ δ (.Subscript (.Name x p) (.Constant (.int 0) kd p2) pos) (.ok .cells) δ :=
  draw_item hx (by decide) (by decide) hd fun w D h H d c t1 t2 e => ⟨_, rfl, .cells e⟩
theorem EvOk.draw1 {x p kd p2 pos} (hx : σ.lookup x = some .draw) (hd : (x == ("__debug__" : Str)) = false := by decide) : EvOk k nm σ δ (.Subscript (.Name x p) (.Constant (.int 1) kd p2) pos) (.ok (.int δ.seed)) δ :=
  draw_item hx (by decide) (by decide) hd fun w D h H d c t1 t2 e => ⟨_, rfl, .int _ _⟩
theorem EvOk.draw2 {x p kd p2 pos} (hx : σ.lookup x = some .draw) (hd : (x == ("__debug__" : Str)) = false := by decide) : EvOk k nm σ δ (.Subscript (.Name x p) (.Constant (.int 2) kd p2) pos) (.ok (.int δ.bud)) δ :=
  draw_item hx (by decide) (by decide) hd fun w D h H d c t1 t2 e => ⟨_, rfl, .int _ _⟩

/-- draw[0] != [] -/
theorem TOk.drawNe {l p2 pos} (h1 : EvOk k nm σ δ l (.ok .cells) δ) : TOk k nm σ δ (.Compare l [.NotEq] [.List [] p2] pos) (!decide (δ.cells = [])) δ := by
  constructor; intro C s Q E O S hq
  refine wpAny_isTrue_Compare1 (h1.run C s _ _ O S (fun va av s1 e1 a1 r1 => ?_) fun e X s1 e1 _ => nomatch e1) rfl
  cases e1
  have S1 := S.aft O a1
  refine (EvOk.list (k := k) (nm := nm) (σ := σ) (δ := δ) (pos := p2) EvLOk.nil (by decide)).run C s1 _ _ O S1 (fun vb bv s2 e2 a2 r2 => ?_) fun e X s1 e1 _ => nomatch e1
  cases e2
  cases r1 with | @cells d c hD =>
  cases r2 with | @list b items _ g1 g2 g3 g4 =>
  have S2 := S1.aft O a2
  obtain ⟨hne, t1, t2, its, hl, hp, hr⟩ := S2.dr d c hD
  have hroom := O.room.units
  refine ke_ne_ints (xs := its.toList) (ys := items.toList) (by rw [Array.toArray_toList]; exact hp.isList) (by rw [Array.toArray_toList]; exact g1) (ints_of_rdl hr) (ints_of_rdl (ns := []) g4) (by rw [cLine_val]; omega) ?_
  exact wpAny_truthy_bool (hq _ (a1.trans a2))

theorem tail_erase (its : Array Value) {v : Value} {r : List Value} (h : its.toList = v :: r) : its[0]? = some v ∧ (its.eraseIdxIfInBounds 0).toList = r := by
  have e : its = (v :: r).toArray := by rw [← h]
  subst e
  refine ⟨by simp, ?_⟩
  unfold Array.eraseIdxIfInBounds
  simp

/-- draw[0].pop(0) -/
theorem EvOk.pop {o apos kd p2 pos} {i : Int} {r : List Int} (h1 : EvOk k nm σ δ o (.ok .cells) δ) (hc : δ.cells = i :: r) (hlen : δ.cells.length ≤ 1000) (hbase : ∀ env, attributeBase o "pop" env (eval o env) = eval o env := by intro _; rfl) (hline : (apos.endLine == pos.line) = true := by rfl) :
    EvOk k nm σ δ (.Call (.Attribute o "pop" apos) [.Constant (.int 0) kd p2] [] pos) (.ok (.int i)) { δ with cells := r } := by
  constructor; intro C s Q E O S hq he
  have ha : EvLOk k nm σ δ [.Constant (.int 0) kd p2] (.ok [.int 0]) δ := EvLOk.cons EvOk.int EvLOk.nil
  refine wpAny_Call_method_late (hbase _) ?_ hline rfl ?_
  · rw [all_backTo _ _ (ha.plain _)]
    simp [backToKw, keywordEach]
  refine h1.run C s _ _ O S (fun va av s1 e1 a1 r1 => ?_) fun e X s1 e1 _ => nomatch e1
  cases e1
  have S1 := S.aft O a1
  cases r1 with | @cells d c hD =>
  obtain ⟨hne, t1, t2, its, hl, hp, hr⟩ := S1.dr d c hD
  obtain ⟨oc, nc, hoc, hcc, hdc, hdd⟩ := id hp
  refine ⟨"list", "list.pop", F.plainAttrs_list, F.slot_list_pop, F.type_list_pop, hp.isList.typeIs, fun b e => ?_, ?_⟩
  · cases e
    exact ⟨oc, hoc, hdc⟩
  refine callWith_any (fun _ => nofun) (by rw [any_backTo]; exact ha.plain _) ?_
  refine ha.run C s1 pos _ _ O S1 (fun vals avs s2 e2 a2 r2 => ?_) fun e X s1 e1 _ => nomatch e1
  cases e2
  cases r2 with | cons q1 q2 =>
  cases q2; cases q1
  have S2 := S1.aft O a2
  obtain ⟨hne, t1, t2, its, hl, hp, hr⟩ := S2.dr d c hD
  rw [hc] at hr
  generalize hI : its.toList = L at hr
  cases hr with | @cons v vs _ _ r1 r2 =>
  obtain ⟨e1, e2⟩ := tail_erase its hI
  have hsz : its.size ≤ sizeLine := by
    have h1 := (r2).length
    have h2 : its.size = (v :: vs).length := by rw [← hI, Array.length_toList]
    rw [h2, sizeLine_eq]
    rw [hc] at hlen
    simp at h1 hlen ⊢
    omega
  refine pop_plain hp e1 hsz fun h' hp' hs' => ?_
  cases r1
  refine hq _ _ _ rfl ((a1.trans a2).trans ⟨⟨rfl, rfl, rfl⟩, ?_, ?_, Nat.le_of_eq hs'.1.symm⟩) (.int _ _)
  · exact v_stays fun b o hb e => (hs'.2 b fun q => hb (by rw [hD, q]; simp [Dl])).trans e
  · intro d' c' e'
    rw [hD] at e'
    cases e'
    obtain ⟨od, hod, hdr⟩ := hl
    exact ⟨hne, t1, t2, _, ⟨od, (hs'.2 d hne).trans hod, hdr⟩, hp', by rw [e2]; exact rdl_ints r2⟩
/-- draw[i] = e -/
theorem XOk.drawSet {ℓ : Loc} {x np kd p2 p' e p} {i v : Int} (hx : (peek ℓ).lookup x = some .draw) (h : EvOk k nm (vals ℓ) δ e (.ok (.int v)) δ1) (hi : (i = 1 ∧ δ' = { δ1 with seed := v }) ∨ (i = 2 ∧ δ' = { δ1 with bud := v }))
    (hd : (x == ("__debug__" : Str)) = false := by decide) (hsw : ∀ env, swapsWith e (some (.Subscript (.Name x np) (.Constant (.int i) kd p2) p')) p.line env = pure false := by intro _; rfl) :
    XOk k nm ℓ δ (.Assign [.Subscript (.Name x np) (.Constant (.int i) kd p2) p'] e p) .next ℓ δ' := by
  constructor; intro F O s Q E K S hn hc hr he
  refine wpAny_Assign_Subscript (h.run (F.C.hide O) s _ _ (K.c.hide O) (S.evVals K) (fun v av1 s1 e1 a1 r1 => ?_) fun e X s1 e1 _ => nomatch e1) (hsw _)
  cases e1
  cases r1 with | int _ tv =>
  have a1 := aft_back a1
  have S1 := S.aft' K a1
  refine (EvOk.name (k := k) (nm := nm) (δ := δ1) hx hd).run F.C s1 _ _ K.c (S1.evPeek K) (fun va bv s2 e2 a2 r2 => ?_) fun e X s1 e1 _ => nomatch e1
  cases e2
  cases r2 with | @draw d c hD =>
  refine wpAny_Constant_int ?_
  have a3 := a2.trans (Aft.of_tok ((S1.evPeek K).aft K.c a2) (t := s2.toks + 1))
  obtain ⟨hne, t1, t2, its, hl, hp, hrd⟩ := a3.dr d c hD
  have hb : 0 ≤ i ∧ i < 2 ^ 63 ∧ i < 3 := by rcases hi with ⟨rfl, _⟩ | ⟨rfl, _⟩ <;> decide
  refine wpAny_setItem_list hl hb.1 hb.2.1 hb.2.2 fun h' hl' hs' => ?_
  refine hn _ rfl (Nxt.of_aft K S ((a1.trans a3).trans ⟨⟨rfl, rfl, rfl⟩, v_stays fun b o hb' e' => (hs'.2 b fun q => hb' (by rw [hD, q]; simp [Dl])).trans e', ?_, Nat.le_of_eq hs'.1.symm⟩))
  intro d' c' e'
  rw [hD] at e'
  cases e'
  obtain ⟨oc, nc, hoc, hcr⟩ := hp
  have hpc : PlainL h' c its := ⟨oc, nc, (hs'.2 c (Ne.symm hne)).trans hoc, hcr⟩
  rcases hi with ⟨rfl, rfl⟩ | ⟨rfl, rfl⟩
  · exact ⟨hne, tv, t2, its, hl', hpc, rdl_ints hrd⟩
  · exact ⟨hne, t1, tv, its, hl', hpc, rdl_ints hrd⟩
end
end Mine

namespace Mine
set_option maxRecDepth 100000

theorem EvOk.draw1' {k nm σ δ x p kd p2 pos} {i : Int} (hx : σ.lookup x = some .draw) (hi : δ.seed = i) (hd : (x == ("__debug__" : Str)) = false := by decide) : EvOk k nm σ δ (.Subscript (.Name x p) (.Constant (.int 1) kd p2) pos) (.ok (.int i)) δ := hi ▸ EvOk.draw1 hx hd
theorem EvOk.draw2' {k nm σ δ x p kd p2 pos} {i : Int} (hx : σ.lookup x = some .draw) (hi : δ.bud = i) (hd : (x == ("__debug__" : Str)) = false := by decide) : EvOk k nm σ δ (.Subscript (.Name x p) (.Constant (.int 2) kd p2) pos) (.ok (.int i)) δ := hi ▸ EvOk.draw2 hx hd

structure Draw.Good (δ : Draw) : Prop where
  cells : ∀ c ∈ δ.cells, 0 ≤ c
  len : δ.cells.length ≤ 60
  seed : 0 ≤ δ.seed ∧ δ.seed < 2147483647

theorem def_104 : DefAt 104 (fdOf 104) ["draw", "many"] (bodyOf 104) := ⟨fun _ => rfl, fun _ => rfl, rfl, rfl, rfl, rfl, rfl, rfl, rfl, by decide⟩
noncomputable abbrev nm104 : List (Str × NameKind) := (fdOf 104).scope.names
noncomputable def tkL (n : Nat) : Loc := [("draw", .val .draw), ("many", .val (.int (n : Int)))]
noncomputable def tkF (n : Nat) (f : Int) : Loc := [("draw", .val .draw), ("many", .val (.int (n : Int))), ("found", .val (.int f))]

theorem take_call {δ δ' : Draw} {n : Nat} {f : Int} (hn : 0 < n) (h : XOk 0 nm104 (tkL n) δ (stAt (bodyOf 104) 0) .next (tkF n f) δ') : CallOk 1 104 [.draw, .int (n : Int)] δ (.ok (.int (f.fmod n))) δ' := by
  refine CallOk.plain (o := .ret (.int (f.fmod n))) (ℓ' := tkF n f) def_104 (by decide) (by decide) rfl (fun s vals hv => ?_) (XsOk.cons h (XsOk.ret (XOk.ret ?_))) rfl
  · match vals, hv with
    | [a, b], _ => exact BindsTo.of_eq rfl
  · exact EvOk.bin (EvOk.name (av := .int f) rfl) (EvOk.name (av := .int (n : Int)) rfl) (BOk.mod (by omega))

theorem take_ok {δ : Draw} (g : δ.Good) {n : Nat} (hn : 0 < n) : ∃ (r : Nat) (δ' : Draw), r < n ∧ δ'.Good ∧ CallOk 1 104 [.draw, .int (n : Int)] δ (.ok (.int (r : Int))) δ' := by
  have fin : ∀ (f : Int), 0 ≤ f → ∃ r : Nat, r < n ∧ f.fmod n = (r : Int) := fun f hf => by
    refine ⟨f.toNat % n, Nat.mod_lt _ hn, ?_⟩
    rw [Int.fmod_eq_emod_of_nonneg _ (by omega), Int.natCast_emod, Int.toNat_of_nonneg hf]
  cases hc : δ.cells with
  | nil =>
    have hseed := g.seed
    have e1 : (δ.seed * 48271).fmod 2147483647 = (δ.seed * 48271) % 2147483647 := Int.fmod_eq_emod_of_nonneg _ (by decide)
    have b1 := Int.emod_nonneg (δ.seed * 48271) (b := 2147483647) (by decide)
    have b2 := Int.emod_lt_of_pos (δ.seed * 48271) (b := 2147483647) (by decide)
    have e2 : ((δ.seed * 48271) % 2147483647).fdiv 7 = ((δ.seed * 48271) % 2147483647) / 7 := Int.fdiv_eq_ediv_of_nonneg _ (by decide)
    obtain ⟨r, hr, e3⟩ := fin (((δ.seed * 48271) % 2147483647) / 7) (by omega)
    refine ⟨r, { δ with seed := (δ.seed * 48271) % 2147483647 }, hr, ⟨by simp [hc], by simp [hc], b1, b2⟩, ?_⟩
    rw [← e3]
    refine take_call hn (XOk.ifF (δ1 := δ) ((TOk.drawNe (EvOk.draw0 rfl)).of (by simp [hc])) ?_)
    refine XsOk.cons (ℓ1 := tkL n) (δ1 := { δ with seed := (δ.seed * 48271) % 2147483647 }) (XOk.drawSet (δ1 := δ) (i := 1) rfl ?_ (.inl ⟨rfl, rfl⟩)) (XsOk.one (XOk.assign ?_ rfl))
    · rw [← e1]
      exact EvOk.bin (EvOk.bin (EvOk.draw1 rfl) EvOk.int (BOk.mul (mulOk_small (by omega) (by decide)))) EvOk.int (BOk.mod (by decide))
    · rw [← e2]
      exact EvOk.bin (EvOk.draw1' (i := (δ.seed * 48271) % 2147483647) rfl rfl) EvOk.int (BOk.div (by decide) (PyProof.noPylong_small (by decide)))
  | cons i r =>
    have hi := g.cells i (by simp [hc])
    obtain ⟨q, hq, e3⟩ := fin i hi
    refine ⟨q, { δ with cells := r }, hq, ⟨fun c h => g.cells c (by rw [hc]; exact List.mem_cons_of_mem _ h), by have := g.len; simp [hc] at this ⊢; omega, g.seed⟩, ?_⟩
    rw [← e3]
    exact take_call hn (XOk.ifT (δ1 := δ) ((TOk.drawNe (EvOk.draw0 rfl)).of (by simp [hc])) (XsOk.one (XOk.assign (EvOk.pop (EvOk.draw0 rfl) hc (by have := g.len; omega)) rfl)))
end Mine

namespace Mine
set_option maxRecDepth 100000

/-! ## _law_blank -/
theorem def_118 : DefAt 118 (fdOf 118) ["draw"] (bodyOf 118) := ⟨fun _ => rfl, fun _ => rfl, rfl, rfl, rfl, rfl, rfl, rfl, rfl, by decide⟩
noncomputable abbrev nm118 : List (Str × NameKind) := (fdOf 118).scope.names
noncomputable def blanks : List (List Nat) := [[], [], [32], [10, 9], [13, 32]]
theorem blk_get {r : Nat} (hr : r < 5) : ∃ b, blanks[r]? = some b ∧ Blk b ∧ b.length ≤ 2 := by
  have key : ∀ b ∈ blanks, Blk b ∧ b.length ≤ 2 := by
    intro b hb
    simp only [blanks, List.mem_cons, List.not_mem_nil, or_false] at hb
    rcases hb with rfl | rfl | rfl | rfl | rfl <;> refine ⟨?_, by decide⟩ <;> intro c hc <;> simp at hc
    · subst hc; rfl
    · rcases hc with rfl | rfl <;> rfl
    · rcases hc with rfl | rfl <;> rfl
  have hl : r < blanks.length := hr
  exact ⟨blanks[r], List.getElem?_eq_getElem hl, key _ (List.getElem_mem hl)⟩
theorem EvOk.blankList {k nm σ δ p1 p2 p3 p4 p5 p6 k1 k2 k3 k4 k5} : EvOk k nm σ δ (.List [.Constant (.str (Str.ofString "")) k1 p1, .Constant (.str (Str.ofString "")) k2 p2, .Constant (.str (Str.ofString " ")) k3 p3, .Constant (.str (Str.ofString "\n\t")) k4 p4, .Constant (.str (Str.ofString "\x0d ")) k5 p5] p6) (.ok (.list (blanks.map fun b => .str (txt b)))) δ := by
  have e : blanks.map (fun b => AV.str (txt b)) = [.str (Str.ofString ""), .str (Str.ofString ""), .str (Str.ofString " "), .str (Str.ofString "\n\t"), .str (Str.ofString "\x0d ")] := by
    have h : blanks.map txt = [Str.ofString "", Str.ofString "", Str.ofString " ", Str.ofString "\n\t", Str.ofString "\x0d "] := by decide +kernel
    have := congrArg (List.map AV.str) h
    rw [List.map_map] at this
    exact this
  rw [e]
  exact EvOk.list (EvLOk.cons EvOk.str (EvLOk.cons EvOk.str (EvLOk.cons EvOk.str (EvLOk.cons EvOk.str (EvLOk.cons EvOk.str EvLOk.nil))))) (by decide)
theorem blank_ok {δ : Draw} (g : δ.Good) : ∃ (b : List Nat) (δ' : Draw), Blk b ∧ b.length ≤ 2 ∧ δ'.Good ∧ CallOk 2 118 [.draw] δ (.ok (.str (txt b))) δ' := by
  obtain ⟨r, δ', hr, g', hc⟩ := take_ok g (n := 5) (by decide)
  obtain ⟨b, e, hb, hl⟩ := blk_get hr
  refine ⟨b, δ', hb, hl, g', ?_⟩
  refine CallOk.plain (o := .ret (.str (txt b))) (ℓ' := [("draw", .val .draw)]) def_118 (by decide) (by decide) rfl (fun s vals hv => ?_) (XsOk.ret (XOk.ret ?_)) rfl
  · match vals, hv with
    | [a], _ => exact BindsTo.of_eq rfl
  · exact EvOk.sub EvOk.blankList (EvOk.call gn_law_take rfl fn_104 (EvLOk.cons (EvOk.name (av := .draw) rfl) (EvLOk.cons EvOk.int EvLOk.nil)) hc) (GOk.list (by omega) (by omega) (by simp [e]))
end Mine

namespace Mine
set_option maxRecDepth 100000

local macro_rules | `(tactic| walk_at "size") => `(tactic| first | omega | assumption | (simp only [Str.length_append, len_one, len_hex4, len_lit1, len_lit2, sizeLine_eq] <;> omega) | skip)
local macro_rules | `(tactic| walk_at "op") => `(tactic| first
  | exact BOk.addL | exact BOk.addLr | exact BOk.addN | exact BOk.add
  | (refine' BOk.subL ?oa; (case' oa => omega))
  | (refine' BOk.modL ?ob; (case' ob => decide))
  | (refine' BOk.divL ?oc; (case' oc => decide))
  | (refine' BOk.cat ?od; (case' od => walk_at "size"))
  | exact POk.eqS | exact POk.neS | exact POk.inS | exact POk.eqI | exact POk.neI | exact POk.ltI | exact POk.leI | exact POk.gtI | exact POk.geI | exact POk.isNone | exact POk.isB | exact POk.inI | exact POk.inD
  | skip)
local macro_rules | `(tactic| walk_at "side") => `(tactic| first | omega | assumption | decide | skip)
local macro_rules | `(tactic| walk_at "item") => `(tactic| first
  | exact GOk.strN (by omega) (by assumption)
  | (refine' GOk.hexd ?ia; (case' ia => omega))
  | (refine' GOk.list ?ib ?ic ?id; (case' ib => decide); (case' ic => decide); (case' id => rfl))
  | skip)
local macro_rules | `(tactic| walk_at "ev") => `(tactic| first
  | exact EvOk.name (by rfl) (by decide)
  | exact EvOk.int | exact EvOk.str | exact EvOk.none | exact EvOk.bool | exact EvOk.bytes
  | (refine' EvOk.bin ?ba ?bb ?bc; (case' ba => walk_at "ev"); (case' bb => walk_at "ev"); (case' bc => walk_at "op"))
  | (refine' EvOk.slice ?sa ?sb ?sc ?sd ?se; (case' sa => walk_at "ev"); (case' sb => walk_at "ev"); (case' sc => walk_at "ev"); (case' sd => walk_at "side"); (case' se => walk_at "side"))
  | (refine' EvOk.sliceTo ?ra ?rb ?rc; (case' ra => walk_at "ev"); (case' rb => walk_at "ev"); (case' rc => walk_at "side"))
  | (refine' EvOk.sub ?ua ?ub ?uc; (case' ua => walk_at "ev"); (case' ub => walk_at "ev"); (case' uc => walk_at "item"))
  | (refine' EvOk.tuple ?ta ?tb; (case' ta => walk_at "ev"); (case' tb => decide))
  | (refine' EvLOk.cons ?ca ?cb; (case' ca => walk_at "ev"); (case' cb => walk_at "ev"))
  | exact EvLOk.nil
  | exact EvOk.hexName (by rfl)
  | exact EvOk.escapes (by rfl)
  | exact EvOk.escaped (by rfl)
  | (refine' EvOk.bcall bn_len (by rfl) (by intro _; nofun) ?fa (FOk.lenS ?fb); (case' fa => walk_at "ev"); (case' fb => walk_at "side"))
  | (refine' EvOk.bcall bn_ord (by rfl) (by intro _; nofun) ?fc FOk.ord; (case' fc => walk_at "ev"))
  | (refine' EvOk.bcall bn_chr (by rfl) (by intro _; nofun) ?fd (FOk.chr ?fe ?ff); (case' fd => walk_at "ev"); (case' fe => walk_at "side"); (case' ff => walk_at "side"))
  | (refine' EvOk.bcall bn_str (by rfl) (by intro _; nofun) ?fg (FOk.strOf ?fh); (case' fg => walk_at "ev"); (case' fh => walk_at "side"))
  | (refine' EvOk.bcall bn_int (by rfl) (by intro _; nofun) ?fi (FOk.intOf ?fj ?fk); (case' fi => walk_at "ev"); (case' fj => walk_at "side"); (case' fk => walk_at "side"))
  | (refine' EvOk.bcall bn_range (by rfl) (by intro _; nofun) ?fl FOk.range; (case' fl => walk_at "ev"))
  | (refine' EvOk.bcall bn_abs (by rfl) (by intro _; nofun) ?fm FOk.abs; (case' fm => walk_at "ev"))
  | (refine' TOk.cmp' ?pa ?pb ?pc ?pd; (case' pa => walk_at "ev"); (case' pb => walk_at "ev"); (case' pc => walk_at "op"))
  | (refine' TOk.not ?na; (case' na => walk_at "ev"))
  | (refine' EvOk.cmp ?qa ?qb ?qc; (case' qa => walk_at "ev"); (case' qb => walk_at "ev"); (case' qc => walk_at "op"))
  | skip)

/-! ## _law_text -/
theorem def_111 : DefAt 111 (fdOf 111) ["draw"] (bodyOf 111) := ⟨fun _ => rfl, fun _ => rfl, rfl, rfl, rfl, rfl, rfl, rfl, rfl, by decide⟩
noncomputable abbrev nm111 : List (Str × NameKind) := (fdOf 111).scope.names
/-- the signs: the sign, as it is to be written, another writing -/
noncomputable def sgT : List (Nat × Pc × Pc) := [(97, .bare 97, .uni [48, 48, 54, 49]), (34, .esc 34 34, .uni [48, 48, 50, 50]), (92, .esc 92 92, .uni [48, 48, 53, 67]), (10, .esc 110 10, .uni [48, 48, 48, 97]), (47, .bare 47, .esc 47 47),
  (0, .uni [48, 48, 48, 48], .uni [48, 48, 48, 48]), (233, .uni [48, 48, 101, 57], .bare 233), (128512, .pair [100, 56, 51, 100] [100, 101, 48, 48], .bare 128512), (127, .uni [48, 48, 55, 102], .bare 127), (8, .esc 98 8, .uni [48, 48, 48, 56]),
  (65518, .uni [102, 102, 101, 101], .uni [70, 70, 69, 69]), (32, .bare 32, .uni [48, 48, 50, 48])]
noncomputable def uniC (c : Nat) : Prop := c < 55296 ∨ (57344 ≤ c ∧ c ≤ 1114111)
structure SgOk (p : Nat × Pc × Pc) : Prop where
  ok1 : p.2.1.ok
  ok2 : p.2.2.ok
  val1 : p.2.1.val = p.1
  val2 : p.2.2.val = p.1
  text : p.2.1.text = jesc p.1
  asc : ∀ c ∈ jesc p.1, 32 ≤ c ∧ c ≤ 126
  len1 : p.2.1.text.length ≤ 12
  len2 : p.2.2.text.length ≤ 12
  uni2 : ∀ c ∈ p.2.2.text, c < 128 ∨ c = 233 ∨ c = 128512
  le : p.1 ≤ 1114111
  uni : p.1 < 55296 ∨ p.1 = 65518 ∨ p.1 = 128512
theorem sgT_ok : ∀ p ∈ sgT, SgOk p := by
  intro p hp
  simp only [sgT, List.mem_cons, List.not_mem_nil, or_false] at hp
  rcases hp with rfl | rfl | rfl | rfl | rfl | rfl | rfl | rfl | rfl | rfl | rfl | rfl
  all_goals refine ⟨?_, ?_, by decide, by decide, by decide, by decide, by decide, by decide, by decide, by decide, by decide⟩
  all_goals first | (show _ ∈ escs; decide) | (show 32 ≤ _ ∧ _ ≠ _ ∧ _ ≠ _; decide) | (show (_ = 4 ∧ _ ∧ _) ∨ _; exact .inl ⟨by decide, by decide, by decide⟩) | (show _ ∨ (_ = 4 ∧ _ ∧ _); exact .inr ⟨by decide, by decide, by decide, by decide⟩) | (show _ = 4 ∧ _; exact ⟨by decide, by decide, by decide, by decide, by decide, by decide, by decide, by decide⟩)

noncomputable def sgA (p : Nat × Pc × Pc) : AV := .tuple [.str (txt [p.1]), .str (txt p.2.1.text), .str (txt p.2.2.text)]
noncomputable def sgsA : AV := .list (sgT.map sgA)
theorem signs_eq : sgsA = .list ([("a", "a", "\\u0061"), ("\"", "\\\"", "\\u0022"), ("\\", "\\\\", "\\u005C"), ("\n", "\\n", "\\u000a"), ("/", "/", "\\/"), ("\u0000", "\\u0000", "\\u0000"), ("é", "\\u00e9", "é"), ("😀", "\\ud83d\\ude00", "😀"), ("\u007f", "\\u007f", "\u007f"), ("\u0008", "\\b", "\\u0008"), ("￮", "\\uffee", "\\uFFEE"), (" ", " ", "\\u0020")].map
    fun (p : String × String × String) => .tuple [.str (Str.ofString p.1), .str (Str.ofString p.2.1), .str (Str.ofString p.2.2)]) := by
  have h : sgT.map (fun p => (txt [p.1], txt p.2.1.text, txt p.2.2.text)) = [("a", "a", "\\u0061"), ("\"", "\\\"", "\\u0022"), ("\\", "\\\\", "\\u005C"), ("\n", "\\n", "\\u000a"), ("/", "/", "\\/"), ("\u0000", "\\u0000", "\\u0000"), ("é", "\\u00e9", "é"), ("😀", "\\ud83d\\ude00", "😀"), ("\u007f", "\\u007f", "\u007f"), ("\u0008", "\\b", "\\u0008"), ("￮", "\\uffee", "\\uFFEE"), (" ", " ", "\\u0020")].map
    fun (p : String × String × String) => (Str.ofString p.1, Str.ofString p.2.1, Str.ofString p.2.2) := by decide +kernel
  have := congrArg (List.map fun q : Str × Str × Str => AV.tuple [.str q.1, .str q.2.1, .str q.2.2]) h
  rw [List.map_map, List.map_map] at this
  exact congrArg AV.list this

/-- what has been drawn: the sign and its second writing -/
noncomputable def txL (ps : List (Nat × Pc × Pc)) : Loc := [("draw", .val .draw), ("signs", .val sgsA), ("plain", .val (.str (txt (ps.map (·.1))))), ("first", .val (.str (txt (34 :: ps.flatMap fun p => p.2.1.text)))), ("second", .val (.str (txt (34 :: ps.flatMap fun p => p.2.2.text))))]
noncomputable def txS (pl fi se : List Nat) (a : AV) (q : Nat × Pc × Pc) : Loc := [("draw", .val .draw), ("signs", .val sgsA), ("plain", .val (.str (txt pl))), ("first", .val (.str (txt fi))), ("second", .val (.str (txt se))), ("k", .val a), ("mark", .val (.str (txt [q.1]))), ("one", .val (.str (txt q.2.1.text))), ("two", .val (.str (txt q.2.2.text)))]
noncomputable def txB : List Stmt := wB (stAt (bodyOf 111) 4)

theorem flat_len {ps : List (Nat × Pc × Pc)} (h : ∀ p ∈ ps, SgOk p) : (ps.flatMap fun p => p.2.1.text).length ≤ ps.length * 12 ∧ (ps.flatMap fun p => p.2.2.text).length ≤ ps.length * 12 := by
  induction ps with
  | nil => simp
  | cons p r ih =>
    have h1 := h p (List.mem_cons_self ..)
    have := h1.len1
    have := h1.len2
    have := ih fun q hq => h q (List.mem_cons_of_mem _ hq)
    simp only [List.flatMap_cons, List.length_append, List.length_cons]
    omega

theorem sgOk_dup {p : Nat × Pc × Pc} (h : SgOk p) : SgOk (p.1, p.2.1, p.2.1) := ⟨h.ok1, h.ok1, h.val1, h.val1, h.text, h.asc, h.len1, h.len1, fun c hc => by rw [h.text] at hc; have := h.asc c hc; omega, h.le, h.uni⟩

theorem text_turn {δ : Draw} (g : δ.Good) {ps : List (Nat × Pc × Pc)} (hp : ∀ p ∈ ps, SgOk p) (hl : ps.length ≤ 10) {a : AV} : ∃ (p : Nat × Pc × Pc) (δ' : Draw), SgOk p ∧ δ'.Good ∧
    XsOk 1 nm111 (setL "k" (.val a) (txL ps)) δ txB .next (txL (ps ++ [p])) δ' := by
  obtain ⟨r, δ1, hr, g1, hc1⟩ := take_ok g (n := 12) (by decide)
  obtain ⟨b, δ2, hb, g2, hc2⟩ := take_ok g1 (n := 2) (by decide)
  have hlt : r < sgT.length := hr
  have hmem := List.getElem_mem hlt
  generalize hq : sgT[r] = q at hmem
  have hq' : (sgT.map sgA)[((r : Nat) : Int).toNat]? = some (sgA q) := by simp [List.getElem?_eq_getElem hlt, hq]
  have hqo := sgT_ok q hmem
  obtain ⟨hf1, hf2⟩ := flat_len hp
  have h1 := hqo.len1
  have h2 := hqo.len2
  have cat : ∀ {x y : List Nat} {k}, x.length + y.length ≤ 1000 → BOk k .Add (.str (txt x)) (.str (txt y)) (.str (txt (x ++ y))) := fun {x y k} h => by
    rw [← txt_app]; exact BOk.cat (by rw [txt_len, txt_len, sizeLine_eq]; omega)
  by_cases hb0 : b = 0
  · refine ⟨q, δ2, hqo, g2, ?_⟩
    have e1 : txt ((ps ++ [q]).map (·.1)) = txt (ps.map (·.1) ++ [q.1]) := by simp
    have e2 : txt (34 :: (ps ++ [q]).flatMap fun p => p.2.1.text) = txt ((34 :: ps.flatMap fun p => p.2.1.text) ++ q.2.1.text) := by simp
    have e3 : txt (34 :: (ps ++ [q]).flatMap fun p => p.2.2.text) = txt ((34 :: ps.flatMap fun p => p.2.2.text) ++ q.2.2.text) := by simp
    unfold txL
    rw [e1, e2, e3]
    refine XsOk.forget (ℓ2 := txS ((ps.map (·.1)) ++ [q.1]) ((34 :: ps.flatMap fun p => p.2.1.text) ++ q.2.1.text) ((34 :: ps.flatMap fun p => p.2.2.text) ++ q.2.2.text) a q) ?_ (.cons rfl (.cons rfl (.cons rfl (.cons rfl (.cons rfl .nil)))))
    refine XsOk.cons (ℓ1 := txS (ps.map (·.1)) (34 :: ps.flatMap fun p => p.2.1.text) (34 :: ps.flatMap fun p => p.2.2.text) a q) (δ1 := δ1) (XOk.unpackT [("mark", _), ("one", _), ("two", _)] rfl (EvOk.sub (a := sgsA) (EvOk.name rfl) (EvOk.call gn_law_take rfl fn_104 (EvLOk.cons (EvOk.name (av := .draw) rfl) (EvLOk.cons EvOk.int EvLOk.nil)) hc1) (GOk.list (by omega) (by omega) hq')) (by decide) rfl) ?_
    refine XsOk.cons (ℓ1 := txS ((ps.map (·.1)) ++ [q.1]) (34 :: ps.flatMap fun p => p.2.1.text) (34 :: ps.flatMap fun p => p.2.2.text) a q) (δ1 := δ1) (XOk.assign (EvOk.bin (EvOk.name rfl) (EvOk.name rfl) (cat (by simp; omega))) rfl) ?_
    refine XsOk.cons (ℓ1 := txS ((ps.map (·.1)) ++ [q.1]) ((34 :: ps.flatMap fun p => p.2.1.text) ++ q.2.1.text) (34 :: ps.flatMap fun p => p.2.2.text) a q) (δ1 := δ1) (XOk.assign (EvOk.bin (EvOk.name rfl) (EvOk.name rfl) (cat (by simp only [List.length_cons]; omega))) rfl) ?_
    refine XsOk.one (XOk.assign (EvOk.bin (EvOk.name rfl) (EvOk.ifTrue (δ1 := δ2) (TOk.cmp' (EvOk.call gn_law_take rfl fn_104 (EvLOk.cons (EvOk.name (av := .draw) rfl) (EvLOk.cons EvOk.int EvLOk.nil)) hc2) EvOk.int POk.eqI (by simp [hb0])) (EvOk.name rfl)) (cat (by simp only [List.length_cons]; omega))) rfl)
  · refine ⟨(q.1, q.2.1, q.2.1), δ2, sgOk_dup hqo, g2, ?_⟩
    have e1 : txt ((ps ++ [(q.1, q.2.1, q.2.1)]).map (·.1)) = txt (ps.map (·.1) ++ [q.1]) := by simp
    have e2 : txt (34 :: (ps ++ [(q.1, q.2.1, q.2.1)]).flatMap fun p => p.2.1.text) = txt ((34 :: ps.flatMap fun p => p.2.1.text) ++ q.2.1.text) := by simp
    have e3 : txt (34 :: (ps ++ [(q.1, q.2.1, q.2.1)]).flatMap fun p => p.2.2.text) = txt ((34 :: ps.flatMap fun p => p.2.2.text) ++ q.2.1.text) := by simp
    unfold txL
    rw [e1, e2, e3]
    refine XsOk.forget (ℓ2 := txS ((ps.map (·.1)) ++ [q.1]) ((34 :: ps.flatMap fun p => p.2.1.text) ++ q.2.1.text) ((34 :: ps.flatMap fun p => p.2.2.text) ++ q.2.1.text) a q) ?_ (.cons rfl (.cons rfl (.cons rfl (.cons rfl (.cons rfl .nil)))))
    refine XsOk.cons (ℓ1 := txS (ps.map (·.1)) (34 :: ps.flatMap fun p => p.2.1.text) (34 :: ps.flatMap fun p => p.2.2.text) a q) (δ1 := δ1) (XOk.unpackT [("mark", _), ("one", _), ("two", _)] rfl (EvOk.sub (a := sgsA) (EvOk.name rfl) (EvOk.call gn_law_take rfl fn_104 (EvLOk.cons (EvOk.name (av := .draw) rfl) (EvLOk.cons EvOk.int EvLOk.nil)) hc1) (GOk.list (by omega) (by omega) hq')) (by decide) rfl) ?_
    refine XsOk.cons (ℓ1 := txS ((ps.map (·.1)) ++ [q.1]) (34 :: ps.flatMap fun p => p.2.1.text) (34 :: ps.flatMap fun p => p.2.2.text) a q) (δ1 := δ1) (XOk.assign (EvOk.bin (EvOk.name rfl) (EvOk.name rfl) (cat (by simp; omega))) rfl) ?_
    refine XsOk.cons (ℓ1 := txS ((ps.map (·.1)) ++ [q.1]) ((34 :: ps.flatMap fun p => p.2.1.text) ++ q.2.1.text) (34 :: ps.flatMap fun p => p.2.2.text) a q) (δ1 := δ1) (XOk.assign (EvOk.bin (EvOk.name rfl) (EvOk.name rfl) (cat (by simp only [List.length_cons]; omega))) rfl) ?_
    refine XsOk.one (XOk.assign (EvOk.bin (EvOk.name rfl) (EvOk.ifFalse (δ1 := δ2) (TOk.cmp' (EvOk.call gn_law_take rfl fn_104 (EvLOk.cons (EvOk.name (av := .draw) rfl) (EvLOk.cons EvOk.int EvLOk.nil)) hc2) EvOk.int POk.eqI (by simp [hb0])) (EvOk.name rfl)) (cat (by simp only [List.length_cons]; omega))) rfl)

theorem text_loop : ∀ (items : List AV) (δ : Draw) (ps : List (Nat × Pc × Pc)), δ.Good → (∀ p ∈ ps, SgOk p) → ps.length + items.length ≤ 10 → ∃ (qs : List (Nat × Pc × Pc)) (δ' : Draw), qs.length = ps.length + items.length ∧ (∀ p ∈ qs, SgOk p) ∧ δ'.Good ∧
    LOk 1 nm111 (txL ps) δ "k" items txB .next (txL qs) δ'
  | [], δ, ps, g, hp, _ => ⟨ps, δ, rfl, hp, g, LOk.nil⟩
  | a :: items, δ, ps, g, hp, hl => by
    obtain ⟨p, δ1, hpo, g1, ht⟩ := text_turn g hp (by simp at hl; omega) (a := a)
    obtain ⟨qs, δ2, e, hq, g2, hL⟩ := text_loop items δ1 (ps ++ [p]) g1 (fun q hq => (List.mem_append.mp hq).elim (hp q) fun h => by simp at h; exact h ▸ hpo) (by simp at hl ⊢; omega)
    exact ⟨qs, δ2, by simp at e ⊢; omega, hq, g2, LOk.step rfl ht (.inl rfl) hL⟩

theorem text_ok {δ : Draw} (g : δ.Good) : ∃ (ps : List (Nat × Pc × Pc)) (δ' : Draw), ps.length ≤ 3 ∧ (∀ p ∈ ps, SgOk p) ∧ δ'.Good ∧
    CallOk 2 111 [.draw] δ (.ok (.tuple [.str (txt (ps.map (·.1))), .str (txt (34 :: ((ps.flatMap fun p => p.2.1.text) ++ [34]))), .str (txt (34 :: ((ps.flatMap fun p => p.2.2.text) ++ [34])))])) δ' := by
  obtain ⟨r, δ1, hr, g1, hc⟩ := take_ok g (n := 4) (by decide)
  obtain ⟨ps, δ2, e, hp, g2, hL⟩ := text_loop ((List.range r).map fun i => .int (Int.ofNat i)) δ1 [] g1 (fun _ h => nomatch h) (by simp; omega)
  simp at e
  refine ⟨ps, δ2, by omega, hp, g2, ?_⟩
  obtain ⟨hf1, hf2⟩ := flat_len hp
  have cat : ∀ {x y : List Nat} {k}, x.length + y.length ≤ 1000 → BOk k .Add (.str (txt x)) (.str (txt y)) (.str (txt (x ++ y))) := fun {x y k} h => by
    rw [← txt_app]; exact BOk.cat (by rw [txt_len, txt_len, sizeLine_eq]; omega)
  refine CallOk.plain (ℓ' := txL ps) (o := .ret (.tuple [.str (txt (ps.map (·.1))), .str (txt ((34 :: (ps.flatMap fun p => p.2.1.text)) ++ [34])), .str (txt ((34 :: (ps.flatMap fun p => p.2.2.text)) ++ [34]))])) def_111 (by decide) (by decide) rfl (fun s vals hv => ?_) ?_ rfl
  · match vals, hv with
    | [a], _ => exact BindsTo.of_eq rfl
  refine XsOk.cons (δ1 := δ) (ℓ1 := [("draw", .val .draw), ("signs", .val sgsA)]) (XOk.assign (av := sgsA) ?_ rfl) ?_
  · rw [signs_eq]
    exact EvOk.list (by walk_at "ev") (by decide)
  have l0 : Str.ofString "" = txt [] := by decide +kernel
  have l1 : Str.ofString "\"" = txt [34] := by decide +kernel
  refine XsOk.cons (δ1 := δ) (ℓ1 := [("draw", .val .draw), ("signs", .val sgsA), ("plain", .val (.str (txt [])))]) (XOk.assign (av := .str (txt [])) (by rw [← l0]; exact EvOk.str) rfl) ?_
  refine XsOk.cons (δ1 := δ) (ℓ1 := [("draw", .val .draw), ("signs", .val sgsA), ("plain", .val (.str (txt []))), ("first", .val (.str (txt [34])))]) (XOk.assign (av := .str (txt [34])) (by rw [← l1]; exact EvOk.str) rfl) ?_
  refine XsOk.cons (δ1 := δ) (ℓ1 := txL []) (XOk.assign (av := .str (txt [34])) (by rw [← l1]; exact EvOk.str) rfl) ?_
  refine XsOk.cons (δ1 := δ2) (XOk.for (a := .range r) (δ1 := δ1) (EvOk.bcall bn_range rfl (fun _ => nofun) (EvLOk.cons (EvOk.call gn_law_take rfl fn_104 (EvLOk.cons (EvOk.name (av := .draw) rfl) (EvLOk.cons EvOk.int EvLOk.nil)) hc) EvLOk.nil) FOk.range) (ItOk.range (by omega)) hL) ?_
  refine XsOk.ret (XOk.ret (EvOk.tuple (EvLOk.cons (EvOk.name rfl) (EvLOk.cons (EvOk.bin (EvOk.name rfl) (by rw [← l1]; exact EvOk.str) (cat ?_)) (EvLOk.cons (EvOk.bin (EvOk.name rfl) (by rw [← l1]; exact EvOk.str) (cat ?_)) EvLOk.nil))) (by rw [sizeLine_eq]; show 3 ≤ _; decide)))
  · simp only [List.length_cons, List.length_nil]; omega
  · simp only [List.length_cons, List.length_nil]; omega
end Mine

namespace Mine
set_option maxRecDepth 100000

/-! ## deep equality (where it is true) -/
/-- two values are found equal -/
noncomputable def EqW (w : World) (A : Around) (s : Shared) (v y : Value) : Prop := ∀ (E : Value → Shared → Prop) (Q : Bool → Shared → Prop), Q true s → wpAny (MM w) A (eqBool v y) Q E s

section
variable {w : World} {A : Around} {s : Shared}
theorem EqW.same (v : Value) : EqW w A s v v := fun E Q h => SeqAt.EqAt.same v (pw) w E Q h
theorem EqW.of {v y : Value} (h : SeqAt.EqAt A s v y true) : EqW w A s v y := fun E Q hq => h pw w E Q hq
theorem EqW.refs {l b : Addr} (h : ∀ (E : Value → Shared → Prop) (Q : Value → Shared → Prop), Q (.bool true) s → wpAny (MM w) A (richCompare .Eq (.ref l) (.ref b)) Q E s) : EqW w A s (.ref l) (.ref b) := fun E Q hq => by
  unfold eqBool
  refine wpAny_holding ?_
  refine wpAny_ite_split (fun _ => wpAny_bind (wpAny_rule (wpAny_pure hq))) (fun _ => ?_)
  exact wpAny_bind (h E _ (wpAny_truthy_bool hq))

open SeqAt MeetsSeq MeetsSeq2 MeetsSeq3 SeqRoads2 AutoSeq1 in
theorem eqw_loop {l b : Addr} {items items2 : Array Value} {n n2 : Nat} {dd dd2 : Option Addr} {sl sl2 : Array (Option Value)} (hsz : items.size = items2.size) {code : Nat} {r : Bool} (hcode : (code = 2 ∧ r = true) ∨ (code = 3 ∧ r = false)) :
    ∀ (k i : Nat), items.size - i = k → ∀ (A : Around) (R : Result → Shared → Prop) (s : Shared), s.heap.get? l = some { cls := .type "list", dict := dd, data := .seq items n, slots := sl } → s.heap.get? b = some { cls := .type "list", dict := dd2, data := .seq items2 n2, slots := sl2 } →
      (∀ j (h1 : j < items.size) (h2 : j < items2.size), EqW w A.in1 s items[j] items2[j]) → R (.ok (.ret (.bool r))) s →
      wpAny (MM w) A.in1 (Builtin.«list.__eq__.loop» ⟨[.ref l, .ref b, rawInt i, rawInt code], []⟩) (fun fin s' => match fin with | .done f => R (.ok f) s' | .again c' => c'.quiet = true ∧ codeAny (MM w) A c' R s') (fun e s' => R (.error e) s') s
  | 0, i, hk, A, R, s, hl, hb, he, h => by
    obtain ⟨hp, g, d, tk, os⟩ := s
    rcases hcode with ⟨rfl, rfl⟩ | ⟨rfl, rfl⟩
    all_goals
      wp_walk using wpAny_loadPart' hl, wpAny_loadPart' hb
      have hi1 : items[((i : Nat) : Int).toNat]? = none := by simp; omega
      have hi2 : items2[((i : Nat) : Int).toNat]? = none := by simp; omega
      rw [hi1, hi2]
      wp_walk using wpAny_loadPart' hl, wpAny_loadPart' hb
    · show R (.ok (.ret (.bool (items.size == items2.size)))) _
      rw [hsz]; simpa using h
    · show R (.ok (.ret (.bool (items.size != items2.size)))) _
      rw [hsz]; simpa using h
  | k + 1, i, hk, A, R, s, hl, hb, he, h => by
    obtain ⟨hp, g, d, tk, os⟩ := s
    have hlt : i < items.size := by omega
    have hlt2 : i < items2.size := by omega
    have hi1 : items[((i : Nat) : Int).toNat]? = some items[i] := by simp [hlt]
    have hi2 : items2[((i : Nat) : Int).toNat]? = some items2[i] := by simp [hlt2]
    have hc : ((i : Int) + 1) = ((i + 1 : Nat) : Int) := by push_cast; rfl
    have next : ∀ {c : Nat}, c = code → plainId "list.__eq__.loop" = true ∧ codeAny (MM w) A (.builtin "list.__eq__.loop" ⟨[.ref l, .ref b, rawInt ((i + 1 : Nat) : Int), rawInt (c : Int)], []⟩) R ⟨hp, g, d, tk, os⟩ := fun {c} e => by
      subst e
      exact ⟨plain_eq_loop, codeAny_builtin entry_eq_loop (by
        rw [Around.under_plainId plain_eq_loop _]
        exact eqw_loop hsz hcode k (i + 1) (by omega) A R _ hl hb he h)⟩
    rcases hcode with ⟨rfl, rfl⟩ | ⟨rfl, rfl⟩
    all_goals
      wp_walk using wpAny_loadPart' hl, wpAny_loadPart' hb
      rw [hi1, hi2]
      refine wpAny_bind (he i hlt hlt2 _ _ ?_)
      wp_walk
      rw [hc]
      exact ⟨plainId_quiet plain_eq_loop _, (next rfl).2⟩

open SeqAt MeetsSeq MeetsSeq2 MeetsSeq3 SeqRoads2 AutoSeq1 in
theorem eqw_lists {l b : Addr} {items items2 : Array Value} (hl : s.heap.IsList l items) (hb : s.heap.IsList b items2) (hsz : items.size = items2.size) (hu : A.units < cLine) (he : ∀ j (h1 : j < items.size) (h2 : j < items2.size), EqW w A.in1 s items[j] items2[j]) {E : Value → Shared → Prop} {Q : Value → Shared → Prop} :
    (Q (.bool true) s → wpAny (MM w) A (compareOp .Eq (.ref l) (.ref b)) Q E s) ∧ (Q (.bool false) s → wpAny (MM w) A (compareOp .NotEq (.ref l) (.ref b)) Q E s) := by
  obtain ⟨⟨cls, dd, data, sl⟩, ho, hc, n, hd⟩ := id hl
  obtain ⟨⟨cls2, dd2, data2, sl2⟩, ho2, hc2, n2, hd2⟩ := id hb
  simp only at hc hd hc2 hd2
  subst hc hd hc2 hd2
  have f3 := AutoSeq1.sub_list_list
  have hne : ¬ (items.size != items2.size) = true := by simp [hsz]
  constructor
  · intro h
    refine wpAny_richCompare_same_room (op := .Eq) hl.typeIs hb.typeIs F.slot_list_eq ?_ hu
    refine wpAny_call (codeAny_call_builtin F.slot_list_eq.plain F.entry_list_eq (F.slot_list_eq.check _ _ _ _ _ _ _ _ hl.typeIs (F.args_list_eq_2 _ _) ?_))
    obtain ⟨hp, g, d, tk, os⟩ := s
    wp_walk using wpAny_loadPart' ho, wpAny_loadPart' ho2
    refine ⟨plainId_quiet plain_eq_loop _, codeAny_builtin entry_eq_loop ?_⟩
    rw [Around.under_plainId plain_eq_loop _]
    refine eqw_loop hsz (code := 2) (r := true) (.inl ⟨rfl, rfl⟩) _ 0 rfl A (wants (fun v s' => v ≠ .notImplemented ∧ Q v s') E) _ ho ho2 he ?_
    exact ⟨(fun x => nomatch x), h⟩
  · intro h
    refine wpAny_richCompare_same_room (op := .NotEq) hl.typeIs hb.typeIs F.slot_list_ne ?_ hu
    refine wpAny_call (codeAny_call_builtin F.slot_list_ne.plain F.entry_list_ne (F.slot_list_ne.check _ _ _ _ _ _ _ _ hl.typeIs (F.args_list_ne_2 _ _) ?_))
    obtain ⟨hp, g, d, tk, os⟩ := s
    wp_walk using wpAny_loadPart' ho, wpAny_loadPart' ho2
    refine ⟨plainId_quiet plain_eq_loop _, codeAny_builtin entry_eq_loop ?_⟩
    rw [Around.under_plainId plain_eq_loop _]
    refine eqw_loop hsz (code := 3) (r := false) (.inr ⟨rfl, rfl⟩) _ 0 rfl A (wants (fun v s' => v ≠ .notImplemented ∧ Q v s') E) _ ho ho2 he ?_
    exact ⟨(fun x => nomatch x), h⟩
end
end Mine

namespace Mine
set_option maxRecDepth 100000

section
variable {w : World} {A : Around} {s : Shared}
theorem eqw_pairs {nm : String} {a b : Addr} {ka kb : List (Str × Value)} {E : Value → Shared → Prop} {Q : Bool → Shared → Prop} (ha : (a == sysModules) = false) (hb : (b == sysModules) = false)
    (da : s.heap.DictOf (PySem.strKind pw w) a ka) (db : s.heap.DictOf (PySem.strKind pw w) b kb) (hlen : ka.length = kb.length) (hits : ∀ (i : Nat) k v, ka[i]? = some (k, v) → ∃ y, valueAt kb k = some y ∧ EqW w A s v y) (h : Q true s) :
    wpAny (MM w) A (Builtin.Dict.samePairs nm a b) Q E s := by
  obtain ⟨oa, es, ep, hoa, _, hda, hka, hpa, _⟩ := da
  obtain ⟨ob, es', ep', hob, _, hdb, hkb, hpb, _⟩ := db
  have hla : ka.length = es.size := by rw [← hpa.length]; exact Array.length_toList
  have hlb : kb.length = es'.size := by rw [← hpb.length]; exact Array.length_toList
  have hsz : es.size = es'.size := by omega
  have hfind : ∀ k, findBy (PySem.strKind pw w).is es' k = valueAt kb k := fun k => by
    rw [← hpb.find k]
    unfold findBy
    rw [← Array.find?_toList]
  unfold Builtin.Dict.samePairs Builtin.Dict.showsAll
  rw [if_neg (by rw [ha]; exact Bool.false_ne_true), if_neg (by rw [hb]; exact Bool.false_ne_true)]
  refine wpAny_bind (wpAny_pure (wpAny_bind (wpAny_pure (wpAny_bind (wpAny_dictEntries hoa hda ?_)))))
  dsimp only
  refine wpAny_bind (wpAny_dictEntries hob hdb ?_)
  rw [if_neg (by rw [hsz]; simp)]
  refine wpAny_bind (wpAny_dictEpoch hoa hda (wpAny_bind ?_))
  rw [Std.Legacy.Range.forIn_eq_forIn_range']
  simp only [Std.Legacy.Range.size, Nat.sub_zero, Nat.add_sub_cancel, Nat.div_one]
  refine wpAny_forIn_list _ (fun rest q s' => s' = s ∧ q = (none, ()) ∧ ∀ i ∈ rest, i < es.size) _ ?_ ?_ _ _ ⟨rfl, rfl, fun i hi => by have := (List.mem_range'.mp hi); omega⟩
  · rintro i rest q s' ⟨rfl, rfl, hr⟩
    have hi : i < es.size := hr i (List.mem_cons_self ..)
    have hi' : i < ka.length := by omega
    refine wpAny_bind (wpAny_dictEntries hoa hda ?_)
    rw [Array.getElem?_eq_getElem hi]
    obtain ⟨k, v, hkv⟩ : ∃ k v, ka[i] = (k, v) := ⟨_, _, rfl⟩
    have hget : ka[i]? = some (k, v) := by rw [List.getElem?_eq_getElem hi', hkv]
    obtain ⟨y, hy, he⟩ := hits i k v hget
    obtain ⟨hkey, hval⟩ := hpa.get? (i := i) (e := es[i]) (k := k) (v := v) (by rw [Array.getElem?_toList]; exact Array.getElem?_eq_getElem hi) hget
    obtain ⟨k', hk', hh⟩ := hka es[i] (Array.getElem_mem hi)
    have ekk : k' = k := (PySem.strKind pw w).inj _ _ _ hk' hkey
    rw [ekk] at hh
    show wpAny _ _ (holding [es[i].key, es[i].val] _ >>= _) _ _ _
    rw [hh]
    refine wpAny_bind (wpAny_holding (wpAny_bind (wpAny_dictFind_of hkey hob hdb hkb ?_)))
    have hf := hfind k
    rw [hy, findBy_of_findIdx?] at hf
    cases hj : es'.findIdx? fun e => (PySem.strKind pw w).is k e.key with
    | none => rw [hj] at hf; cases hf
    | some j =>
      rw [hj] at hf
      obtain ⟨hjlt, _, _⟩ := Array.findIdx?_eq_some_iff_getElem.mp hj
      have ey : es'[j].val = y := by simpa [Array.getElem?_eq_getElem hjlt] using hf
      refine wpAny_bind (wpAny_dictEntries hob hdb ?_)
      rw [Array.getElem?_eq_getElem hjlt]
      rw [← hval, ← ey] at he
      refine wpAny_holding (he _ _ ?_)
      show wpAny _ _ (if (!true) = true then _ else _) _ _ _
      rw [if_neg (by decide)]
      refine wpAny_bind (wpAny_dictEpoch hoa hda ?_)
      rw [if_neg (by simp)]
      exact wpAny_pure ⟨rfl, rfl, fun j hj => hr j (List.mem_cons_of_mem _ hj)⟩
  · rintro q s' ⟨rfl, rfl, _⟩
    exact wpAny_pure h

theorem eqw_dicts {a b : Addr} {ka kb : List (Str × Value)} {E : Value → Shared → Prop} {Q : Value → Shared → Prop} (ha : (a == sysModules) = false) (hb : (b == sysModules) = false)
    (da : s.heap.DictOf (PySem.strKind pw w) a ka) (db : s.heap.DictOf (PySem.strKind pw w) b kb) (hlen : ka.length = kb.length) (hu : A.units < cLine) (hits : ∀ (i : Nat) k v, ka[i]? = some (k, v) → ∃ y, valueAt kb k = some y ∧ EqW w A.in1 s v y) :
    (Q (.bool true) s → wpAny (MM w) A (compareOp .Eq (.ref a) (.ref b)) Q E s) ∧ (Q (.bool false) s → wpAny (MM w) A (compareOp .NotEq (.ref a) (.ref b)) Q E s) := by
  constructor
  · intro h
    refine wpAny_richCompare_same_room (op := .Eq) da.typeIs db.typeIs PySem.F.slot_dict_eq (wpAny_call_entry PySem.F.slot_dict_eq da.typeIs PySem.F.entry_dict_eq ?_ (PySem.F.args_dict_eq_2 _ _)) hu
    show wpAny _ _ (Builtin.Dict.dictSlotArgs "__eq__" ⟨[.ref a, .ref b], []⟩ >>= _) _ _ s
    refine wpAny_bind ?_
    unfold Builtin.Dict.dictSlotArgs
    refine wpAny_bind (wpAny_notOrdered_dict da.typeIs ?_)
    show wpAny _ _ (pure (Value.ref a, Value.ref b)) _ _ s
    refine wpAny_pure (wpAny_bind (wpAny_isInstance (T := "dict") db.typeIs PySem.F.sub_dict_dict ?_))
    simp only [Bool.not_true, Bool.false_eq_true, if_false]
    refine wpAny_bind (wpAny_pure (wpAny_bind (wpAny_pure (wpAny_bind (eqw_pairs ha hb da db hlen hits ?_)))))
    exact wpAny_pure ⟨_, rfl, (fun x => nomatch x), h⟩
  · intro h
    refine wpAny_richCompare_same_room (op := .NotEq) da.typeIs db.typeIs PySem.F.slot_dict_ne (wpAny_call_entry PySem.F.slot_dict_ne da.typeIs PySem.F.entry_dict_ne ?_ (PySem.F.args_dict_ne_2 _ _)) hu
    show wpAny _ _ (Builtin.Dict.dictSlotArgs "__ne__" ⟨[.ref a, .ref b], []⟩ >>= _) _ _ s
    refine wpAny_bind ?_
    unfold Builtin.Dict.dictSlotArgs
    refine wpAny_bind (wpAny_notOrdered_dict da.typeIs ?_)
    show wpAny _ _ (pure (Value.ref a, Value.ref b)) _ _ s
    refine wpAny_pure (wpAny_bind (wpAny_isInstance (T := "dict") db.typeIs PySem.F.sub_dict_dict ?_))
    simp only [Bool.not_true, Bool.false_eq_true, if_false]
    refine wpAny_bind (wpAny_pure (wpAny_bind (wpAny_pure (wpAny_bind (eqw_pairs ha hb da db hlen hits ?_)))))
    exact wpAny_pure ⟨_, rfl, (fun x => nomatch x), h⟩
end

noncomputable def EqN : Nat → AV → AV → Prop
  | _, .none, .none => True
  | _, .bool a, .bool b => a = b
  | _, .int a, .int b => a = b
  | _, .str a, .str b => a = b
  | n + 1, .list xs, .list ys => xs.length = ys.length ∧ ∀ (i : Nat) x y, xs[i]? = some x → ys[i]? = some y → EqN n x y
  | n + 1, .dict es, .dict fs => es.length = fs.length ∧ ∀ p ∈ es, ∃ u, getE fs p.1 = some u ∧ EqN n p.2 u
  | _, _, _ => False

theorem keys_at {w D h H} {ka : List (Str × Value)} {es : List (Str × AV)} (hk : ka.map (·.1) = es.map (·.1)) (hr : RdL w D h H (ka.map (·.2)) (es.map (·.2))) {i : Nat} {k : Str} {v : Value} (e : ka[i]? = some (k, v)) : ∃ a, (k, a) ∈ es ∧ Rd w D h H v a := by
  have h1 : (ka.map (·.1))[i]? = some k := by simp [e]
  have h2 : (ka.map (·.2))[i]? = some v := by simp [e]
  obtain ⟨a, ha, r⟩ := hr.pick h2
  rw [hk] at h1
  rw [List.getElem?_map] at h1 ha
  cases q : es[i]? with
  | none => rw [q] at h1; cases h1
  | some p =>
    rw [q] at h1 ha
    simp at h1 ha
    subst h1 ha
    exact ⟨p.2, List.mem_of_getElem? q, r⟩

section
variable {w : World} {D : DA} {H : List Addr} {s : Shared}
theorem eqN_w : ∀ (n : Nat) (A : Around) (v y : Value) (a b : AV), EqN n a b → A.units + n < cLine → Rd w D s.heap H v a → Rd w D s.heap H y b → EqW w A s v y ∧ ∀ l b, v = .ref l → y = .ref b → (∀ (E : Value → Shared → Prop) (Q : Value → Shared → Prop), (Q (.bool true) s → wpAny (MM w) A (compareOp .Eq (.ref l) (.ref b)) Q E s) ∧ (Q (.bool false) s → wpAny (MM w) A (compareOp .NotEq (.ref l) (.ref b)) Q E s))
  | n, A, v, y, .none, b, h, _, r1, r2 => by
    cases b <;> unfold EqN at h <;> first | exact h.elim | skip
    cases r1; cases r2
    exact ⟨EqW.same _, fun _ _ e => nomatch e⟩
  | n, A, v, y, .bool x, b, h, _, r1, r2 => by
    cases b <;> unfold EqN at h <;> first | exact h.elim | skip
    cases r1; cases r2; subst h
    exact ⟨EqW.same _, fun _ _ e => nomatch e⟩
  | n, A, v, y, .int x, b, h, _, r1, r2 => by
    cases b <;> unfold EqN at h <;> first | exact h.elim | skip
    cases r1 with | int _ t =>
    cases r2 with | int _ u =>
    subst h
    refine ⟨EqW.of ?_, fun _ _ e => nomatch e⟩
    have := SeqAt.EqAt.int_int (A := A) (s := s) x t x u
    simpa using this
  | n, A, v, y, .str x, b, h, _, r1, r2 => by
    cases b <;> unfold EqN at h <;> first | exact h.elim | skip
    cases r1 with | str _ t =>
    cases r2 with | str _ u =>
    subst h
    refine ⟨EqW.of ?_, fun _ _ e => nomatch e⟩
    have := SeqAt.EqAt.str_str (A := A) (s := s) x t x u
    simpa using this
  | n + 1, A, v, y, .list xs, b, h, hu, r1, r2 => by
    cases b <;> unfold EqN at h <;> first | exact h.elim | skip
    cases r1 with | @list l items _ g1 g2 gs g3 =>
    cases r2 with | @list l2 items2 _ k1 k2 ks k3 =>
    have n1 := g3.length
    have n2 := k3.length
    simp at n1 n2
    have key := fun {E Q} => eqw_lists (A := A) (E := E) (Q := Q) g1 k1 (by omega) (by omega) fun j h1 h2 => by
      obtain ⟨x, hx, rx⟩ := g3.pick (i := j) (v := items[j]) (by rw [Array.getElem?_toList]; exact Array.getElem?_eq_getElem h1)
      obtain ⟨z, hz, rz⟩ := k3.pick (i := j) (v := items2[j]) (by rw [Array.getElem?_toList]; exact Array.getElem?_eq_getElem h2)
      exact (eqN_w n A.in1 _ _ x z (h.2 j x z hx hz) (by show A.units + 1 + n < cLine; omega) rx rz).1
    exact ⟨EqW.refs fun E Q hq => key.1 hq, fun l' b' e1 e2 E Q => by cases e1; cases e2; exact key⟩
  | n + 1, A, v, y, .dict es, b, h, hu, r1, r2 => by
    cases b <;> unfold EqN at h <;> first | exact h.elim | skip
    cases r1 with | @dict l ka _ g1 g2 gs gk g3 =>
    cases r2 with | @dict l2 kb fs k1 k2 ks kk k3 =>
    have n1 := congrArg List.length gk
    have n2 := congrArg List.length kk
    simp at n1 n2
    have key := fun {E Q} => eqw_dicts (A := A) (E := E) (Q := Q) (ne_sys gs) (ne_sys ks) g1 k1 (by have := h.1; omega) (by omega) fun i k v e => by
      obtain ⟨a, ha, ra⟩ := keys_at gk g3 e
      obtain ⟨u, hu', hn⟩ := h.2 _ ha
      rcases valueAt_rd kk k3 k with ⟨_, e2⟩ | ⟨y, b, e1, e2, hy⟩
      · rw [e2] at hu'; cases hu'
      · rw [e2] at hu'; cases hu'
        exact ⟨y, e1, (eqN_w n A.in1 _ _ a _ hn (by show A.units + 1 + n < cLine; omega) ra hy).1⟩
    exact ⟨EqW.refs fun E Q hq => key.1 hq, fun l' b' e1 e2 E Q => by cases e1; cases e2; exact key⟩
  | 0, A, v, y, .list xs, b, h, _, _, _ => by cases b <;> unfold EqN at h <;> exact h.elim
  | 0, A, v, y, .dict xs, b, h, _, _, _ => by cases b <;> unfold EqN at h <;> exact h.elim
  | n, A, v, y, .bytes _, b, h, _, _, _ => by cases b <;> unfold EqN at h <;> exact h.elim
  | n, A, v, y, .tuple _, b, h, _, _, _ => by cases b <;> unfold EqN at h <;> exact h.elim
  | n, A, v, y, .idict _, b, h, _, _, _ => by cases b <;> unfold EqN at h <;> exact h.elim
  | n, A, v, y, .draw, b, h, _, _, _ => by cases b <;> unfold EqN at h <;> exact h.elim
  | n, A, v, y, .cells, b, h, _, _, _ => by cases b <;> unfold EqN at h <;> exact h.elim
  | n, A, v, y, .typ _, b, h, _, _, _ => by cases b <;> unfold EqN at h <;> exact h.elim
  | n, A, v, y, .range _, b, h, _, _, _ => by cases b <;> unfold EqN at h <;> exact h.elim
  | n, A, v, y, .types _, b, h, _, _, _ => by cases b <;> unfold EqN at h <;> exact h.elim
  | n, A, v, y, .raw _, b, h, _, _, _ => by cases b <;> unfold EqN at h <;> exact h.elim
end

/-- a list or a dict -/
noncomputable def AV.big : AV → Bool
  | .list _ | .dict _ => true
  | _ => false
theorem big_ref {w D h H v a} (r : Rd w D h H v a) (hb : a.big = true) : ∃ l, v = .ref l := by
  cases r <;> first | (exact ⟨_, rfl⟩) | cases hb
theorem EqN.big {n a b} (h : EqN n a b) (hb : a.big = true) : b.big = true := by
  cases a <;> first | cases hb | skip
  all_goals cases n <;> cases b <;> unfold EqN at h <;> first | exact h.elim | rfl
theorem POk.eqN {k n a b} (h : EqN n a b) (hb : a.big = true) (hn : n ≤ 20) : POk k .Eq a b true := by
  constructor; intro C σ δ s va vb Q E nm O S ra rb hq
  obtain ⟨l, rfl⟩ := big_ref ra hb
  obtain ⟨l2, rfl⟩ := big_ref rb (h.big hb)
  have := O.room.units
  exact (((eqN_w n C.A _ _ a b h (by rw [cLine_val]; omega) ra rb).2 _ _ rfl rfl) E Q).1 (hq _ (Aft.refl S))
theorem POk.neN {k n a b} (h : EqN n a b) (hb : a.big = true) (hn : n ≤ 20) : POk k .NotEq a b false := by
  constructor; intro C σ δ s va vb Q E nm O S ra rb hq
  obtain ⟨l, rfl⟩ := big_ref ra hb
  obtain ⟨l2, rfl⟩ := big_ref rb (h.big hb)
  have := O.room.units
  exact (((eqN_w n C.A _ _ a b h (by rw [cLine_val]; omega) ra rb).2 _ _ rfl rfl) E Q).2 (hq _ (Aft.refl S))
/-- != [] -/
theorem POk.neNil {k xs} : POk k .NotEq (.list xs) (.list []) (!xs.isEmpty) := by
  constructor; intro C σ δ s va vb Q E nm O S ra rb hq
  have hu := O.room.units
  cases ra with | @list l items _ g1 g2 gs g3 =>
  cases rb with | @list l2 items2 _ k1 k2 ks k3 =>
  have n1 := g3.length
  have n2 := k3.length
  simp at n1 n2
  cases xs with
  | nil =>
    refine (eqw_lists g1 k1 (by simp at n1; simp [n1, n2]) (by rw [cLine_val]; omega) fun j h1 h2 => ?_).2 (hq _ (Aft.refl S))
    simp at n1
    subst n1; exact absurd h1 (Nat.not_lt_zero j)
  | cons x r =>
    exact SeqAt.RcNeAt.lists_lengths g1 k1 (by rw [bne_iff_ne, n1, n2]; simp) (by rw [cLine_val]; omega) pw C.w _ _ (hq _ (Aft.refl S))
/-- in (a, b) -/
theorem POk.inT2 {k} {i a b : Int} : POk k .In (.int i) (.tuple [.int a, .int b]) (a == i || b == i) := by
  constructor; intro C σ δ s va vb Q E nm O S ra rb hq
  cases ra with | int _ t =>
  cases rb with | @tuple l items _ g1 g2 g3 =>
  generalize hI : items.toList = L at g3
  cases g3 with | cons r1 r2 =>
  cases r2 with | cons r2 r3 =>
  cases r3
  cases r1 with | int _ t1 =>
  cases r2 with | int _ t2 =>
  have e : items = #[.int a t1, .int b t2] := by rw [← Array.toList_inj, hI]
  subst e
  refine SeqAt.in_tupleAt (fun v => match v with | .int n _ => n == i | _ => false) g1 (fun y hy => ?_) ?_
  · simp only [List.mem_toArray, List.mem_cons, List.not_mem_nil, or_false] at hy
    rcases hy with rfl | rfl
    · exact SeqAt.EqAt.int_int a t1 i t
    · exact SeqAt.EqAt.int_int b t2 i t
  · have := hq _ (Aft.refl S)
    simpa using this
end Mine

namespace Mine
set_option maxRecDepth 100000

/-! ## what is drawn, plainly -/
noncomputable def TxtOk (x : Str) : Prop := (∀ c ∈ x.cps.toList, ∃ p, SgOk p ∧ p.1 = c) ∧ x.length ≤ 3
noncomputable def GoodN : Nat → AV → Prop
  | _, .none => True
  | _, .bool _ => True
  | _, .int i => i.natAbs < 10 ^ 40
  | _, .str x => TxtOk x
  | n + 1, .list xs => xs.length ≤ 3 ∧ ∀ x ∈ xs, GoodN n x
  | n + 1, .dict es => es.length ≤ 3 ∧ (es.map (·.1)).Nodup ∧ ∀ e ∈ es, TxtOk e.1 ∧ GoodN n e.2
  | _, _ => False

theorem TxtOk.key {x : Str} (h : TxtOk x) : KeyOk x := ⟨fun c hc => by obtain ⟨p, hp, rfl⟩ := h.1 c hc; exact hp.le, by have := h.2; omega⟩
theorem log2_small {m : Nat} (h : m < 10 ^ 40) : m.log2 < 1920 := by
  by_cases h0 : m = 0
  · subst h0; decide
  · have : m.log2 < 134 := (Nat.log2_lt h0).mpr (Nat.lt_trans h (by decide))
    omega
theorem GoodN.jok : ∀ {n : Nat} {v : AV}, GoodN n v → JokN n v
  | n, .none, _ => by unfold JokN; trivial
  | n, .bool _, _ => by unfold JokN; trivial
  | n, .int i, h => by
    unfold GoodN at h
    unfold JokN
    refine ⟨log2_small h, ?_⟩
    rw [PySem.ofString_length]
    have := int_text_length_le10 (a := i) (k := 40) (by decide) h
    omega
  | n, .str x, h => by unfold GoodN at h; unfold JokN; exact h.key
  | n + 1, .list xs, h => by unfold GoodN at h; unfold JokN; exact ⟨h.1, fun x hx => (h.2 x hx).jok⟩
  | n + 1, .dict es, h => by unfold GoodN at h; unfold JokN; exact ⟨h.1, h.2.1, fun x hx => ⟨(h.2.2 x hx).1.key, (h.2.2 x hx).2.jok⟩⟩
  | 0, .list _, h => by unfold GoodN at h; exact h.elim
  | 0, .dict _, h => by unfold GoodN at h; exact h.elim
  | n, .bytes _, h => by unfold GoodN at h; exact h.elim
  | n, .tuple _, h => by unfold GoodN at h; exact h.elim
  | n, .idict _, h => by unfold GoodN at h; exact h.elim
  | n, .draw, h => by unfold GoodN at h; exact h.elim
  | n, .cells, h => by unfold GoodN at h; exact h.elim
  | n, .typ _, h => by unfold GoodN at h; exact h.elim
  | n, .range _, h => by unfold GoodN at h; exact h.elim
  | n, .types _, h => by unfold GoodN at h; exact h.elim
  | n, .raw _, h => by unfold GoodN at h; exact h.elim

/-! ### numbers -/
theorem digits_head (m : Nat) : 0 < m → ∃ c r, (Nat.toDigits 10 m).map Char.toNat = c :: r ∧ c ≠ 48 := by
  induction m using Nat.strongRecOn with
  | _ m ih =>
    intro h0
    by_cases h : m < 10
    · rw [Nat.toDigits_of_lt_base h]
      refine ⟨_, _, rfl, ?_⟩
      have : ∀ d : Fin 10, 0 < d.1 → (Nat.digitChar d.1).toNat ≠ 48 := by decide
      exact this ⟨m, h⟩ h0
    · have hm : m % 10 < 10 := Nat.mod_lt m (by decide)
      have t : Nat.toDigits 10 (m / 10) ++ Nat.toDigits 10 (m % 10) = Nat.toDigits 10 (10 * (m / 10) + m % 10) := Nat.toDigits_append_toDigits (by decide) (by omega) hm
      rw [Nat.div_add_mod] at t
      obtain ⟨c, r, e, hc⟩ := ih (m / 10) (by omega) (by omega)
      rw [← t, List.map_append, e]
      exact ⟨c, _, rfl, hc⟩
theorem digits_facts (m : Nat) : (∀ c ∈ (Nat.toDigits 10 m).map Char.toNat, isDig c = true) ∧ (Nat.toDigits 10 m).map Char.toNat ≠ [] ∧ (((Nat.toDigits 10 m).map Char.toNat).head? = some 48 → (Nat.toDigits 10 m).map Char.toNat = [48]) ∧ NumText.AllDigits ((Nat.toDigits 10 m).map Char.toNat) := by
  have hd : NumText.AllDigits ((Nat.toDigits 10 m).map Char.toNat) := by
    intro c hc
    obtain ⟨ch, hch, e⟩ := List.mem_map.mp hc
    have r := digit_range (Nat.isDigit_of_mem_toDigits (by decide) (by decide) hch)
    rw [← e]
    exact r
  refine ⟨fun c hc => decide_eq_true (hd c hc), ?_, ?_, hd⟩
  · by_cases h0 : 0 < m
    · obtain ⟨c, r, e, _⟩ := digits_head m h0; rw [e]; exact fun q => nomatch q
    · have : m = 0 := by omega
      subst this; decide
  · by_cases h0 : 0 < m
    · obtain ⟨c, r, e, hc⟩ := digits_head m h0
      rw [e]
      intro q
      simp at q
      exact absurd q hc
    · have : m = 0 := by omega
      subst this
      intro _; decide
theorem num_tree {i : Int} (h : i.natAbs < 10 ^ 40) : ∃ neg ds, (Str.ofString (toString i)).cps.toList = pre neg ++ ds ∧ NumOk neg ds i := by
  have hlen := int_text_length_le10 (a := i) (k := 40) (by decide) h
  rw [← PySem.ofString_length] at hlen
  have hl2 : (Str.ofString (toString i)).cps.toList.length ≤ 41 := by rw [str_len]; exact hlen
  cases i with
  | ofNat m =>
    have e : (Str.ofString (toString (Int.ofNat m))).cps.toList = (Nat.toDigits 10 m).map Char.toNat := KIN.signs_num m
    obtain ⟨d1, d2, d3, d4⟩ := digits_facts m
    refine ⟨false, _, e, d1, d2, d3, ?_, by rw [e] at hl2; omega⟩
    have e' : (⟨(pre false ++ (Nat.toDigits 10 m).map Char.toNat).toArray⟩ : Str) = Str.ofString (toString (Int.ofNat m)) := (str_of_list e).symm
    rw [e']
    have := intText_digits (x := Str.ofString (toString (Int.ofNat m))) (by rw [e]; exact d4) (by rw [e]; exact d2) (by omega)
    rw [this, e, KIN.val_back]; rfl
  | negSucc m =>
    have e : (Str.ofString (toString (Int.negSucc m))).cps.toList = 45 :: (Nat.toDigits 10 (m + 1)).map Char.toNat := by
      rw [signs_ofString]
      show ("-" ++ Nat.repr (m + 1)).toList.map Char.toNat = _
      rw [String.toList_append, Nat.toList_repr]
      rfl
    obtain ⟨d1, d2, d3, d4⟩ := digits_facts (m + 1)
    refine ⟨true, _, e, d1, d2, d3, ?_, by rw [e] at hl2; simp only [List.length_cons] at hl2; omega⟩
    have e' : (⟨(pre true ++ (Nat.toDigits 10 (m + 1)).map Char.toNat).toArray⟩ : Str) = Str.ofString (toString (Int.negSucc m)) := (str_of_list e).symm
    rw [e']
    have := intText_neg (x := Str.ofString (toString (Int.negSucc m))) e d4 d2 (by omega)
    rw [this, KIN.val_back]; rfl

noncomputable def uniD (c : Nat) : Prop := c < 128 ∨ c = 233 ∨ c = 128512

/-- behind the first piece -/
noncomputable def tailT (c : Nat) : List (List Nat) → List Nat
  | [] => [c]
  | l => 44 :: (inter l ++ [c])
theorem inter_cons (c : Nat) (x : List Nat) : ∀ l : List (List Nat), inter (x :: l) ++ [c] = x ++ tailT c l
  | [] => rfl
  | y :: l => by simp [inter, tailT]

structure GenI (n : Nat) (v : AV) (e1 e2 : List Nat) : Prop where
  good : GoodN n v
  one : e1 = jtextN false n v
  two : ∃ a b t, Blk a ∧ Blk b ∧ JT.ok t ∧ t.val = v ∧ t.dep ≤ n ∧ e2 = a ++ (t.text ++ b)
  len : e2.length ≤ 400 * 4 ^ n + 4
  uni : ∀ c ∈ e2, uniD c
structure GenE (n : Nat) (k : Str) (v : AV) (e1 e2 : List Nat) : Prop where
  key : TxtOk k
  good : GoodN n v
  one : e1 = entryT k (jtextN false n v)
  two : ∃ a ps b c t d, (Blk a ∧ Blk b ∧ Blk c ∧ Blk d) ∧ PsOk ps ∧ keyOf ps = k ∧ JT.ok t ∧ t.val = v ∧ t.dep ≤ n ∧ e2 = a ++ (34 :: (textOf ps ++ 34 :: (b ++ 58 :: (c ++ (t.text ++ d)))))
  len : e2.length ≤ 400 * 4 ^ n + 50
  uni : ∀ c ∈ e2, uniD c
structure Gen (n : Nat) (v : AV) (l1 l2 : List Nat) : Prop where
  good : GoodN n v
  one : l1 = jtextN false n v
  two : ∃ t, JT.ok t ∧ t.val = v ∧ t.dep ≤ n ∧ t.text = l2
  len : l2.length ≤ 400 * 4 ^ n
  uni : ∀ c ∈ l2, uniD c

theorem Gen.len1 {n v l1 l2} (h : Gen n v l1 l2) : l1.length ≤ 400 * 4 ^ n := by rw [h.one]; exact jtext_len n v h.good.jok
theorem Blk.uni {b : List Nat} (h : Blk b) : ∀ c ∈ b, uniD c := fun c hc => by
  have := h c hc
  simp only [blank, Bool.or_eq_true, beq_iff_eq] at this
  exact .inl (by omega)

theorem Gen.item {n v l1 l2 a b} (h : Gen n v l1 l2) (ha : Blk a) (hb : Blk b) (la : a.length ≤ 2) (lb : b.length ≤ 2) : GenI n v l1 (a ++ l2 ++ b) := by
  obtain ⟨t, h1, h2, h3, rfl⟩ := h.two
  refine ⟨h.good, h.one, ⟨a, b, t, ha, hb, h1, h2, h3, by simp⟩, by have := h.len; simp; omega, fun c hc => ?_⟩
  simp only [List.mem_append] at hc
  rcases hc with (hc | hc) | hc
  · exact ha.uni c hc
  · exact h.uni c hc
  · exact hb.uni c hc

theorem jl_of {n : Nat} : ∀ (rows : List (AV × List Nat × List Nat)), (∀ e ∈ rows, GenI n e.1 e.2.1 e.2.2) → ∃ its : JL, its.ok ∧ its.vals = rows.map (·.1) ∧ its.dep ≤ n ∧ its.rest = tailT 93 (rows.map (·.2.2)) ∧ (∀ b0, rows ≠ [] → its.open b0 = inter (rows.map (·.2.2)) ++ [93]) ∧ (rows = [] → its = .nil)
  | [], _ => ⟨.nil, trivial, rfl, Nat.zero_le _, rfl, fun _ q => absurd rfl q, fun _ => rfl⟩
  | e :: rows, h => by
    obtain ⟨its, h1, h2, h3, h4, _, _⟩ := jl_of rows fun e he => h e (List.mem_cons_of_mem _ he)
    obtain ⟨a, b, t, ha, hb, ht, hv, hd, e2⟩ := (h e (List.mem_cons_self ..)).two
    have key : ∀ b0, (JL.cons a t b its).open b0 = inter ((e :: rows).map (·.2.2)) ++ [93] := fun b0 => by
      rw [List.map_cons, inter_cons, ← h4, e2]
      simp [JL.open]
    refine ⟨.cons a t b its, ⟨ha, ht, hb, h1⟩, by simp [JL.vals, h2, hv], Nat.max_le.mpr ⟨hd, h3⟩, ?_, fun b0 _ => key b0, fun q => nomatch q⟩
    have := key []
    simp only [JL.open] at this
    simp only [JL.rest, List.map_cons, tailT]
    rw [this]
    simp

theorem jd_of {n : Nat} : ∀ (rows : List (Str × AV × List Nat × List Nat)) (prev : List Str), (∀ e ∈ rows, GenE n e.1 e.2.1 e.2.2.1 e.2.2.2) → (prev ++ rows.map (·.1)).Nodup → ∃ its : JD, its.ok prev ∧ its.vals = rows.map (fun e => (e.1, e.2.1)) ∧ its.dep ≤ n ∧ its.rest = tailT 125 (rows.map (·.2.2.2)) ∧ (∀ b0, rows ≠ [] → its.open b0 = inter (rows.map (·.2.2.2)) ++ [125]) ∧ (rows = [] → its = .nil)
  | [], prev, _, _ => ⟨.nil, trivial, rfl, Nat.zero_le _, rfl, fun _ q => absurd rfl q, fun _ => rfl⟩
  | e :: rows, prev, h, hn => by
    have hn' : ((prev ++ [e.1]) ++ rows.map (·.1)).Nodup := by simpa using hn
    obtain ⟨its, h1, h2, h3, h4, _, _⟩ := jd_of rows (prev ++ [e.1]) (fun e he => h e (List.mem_cons_of_mem _ he)) hn'
    obtain ⟨a, ps, b, c, t, d, hbl, hps, hk, ht, hv, hd, e2⟩ := (h e (List.mem_cons_self ..)).two
    have key : ∀ b0, (JD.cons a ps b c t d its).open b0 = inter ((e :: rows).map (·.2.2.2)) ++ [125] := fun b0 => by
      rw [List.map_cons, inter_cons, ← h4, e2]
      simp [JD.open]
    have hnin : keyOf ps ∉ prev := by
      rw [hk]
      have := List.nodup_append.mp (List.nodup_append.mp hn').1
      intro q
      exact this.2.2 _ q _ (by simp) rfl
    refine ⟨.cons a ps b c t d its, ⟨hbl, hps, ht, hnin, by rw [hk]; exact h1⟩, by simp [JD.vals, h2, hv, hk], Nat.max_le.mpr ⟨hd, h3⟩, ?_, fun b0 _ => key b0, fun q => nomatch q⟩
    have := key []
    simp only [JD.open] at this
    simp only [JD.rest, List.map_cons, tailT]
    rw [this]
    simp

theorem inter_mem {c : Nat} : ∀ {l : List (List Nat)}, c ∈ inter l → c = 44 ∨ ∃ x ∈ l, c ∈ x
  | [], h => by simp [inter] at h
  | [x], h => .inr ⟨x, by simp, h⟩
  | x :: y :: r, h => by
    simp only [inter, List.mem_append, List.mem_cons] at h
    rcases h with h | h | h
    · exact .inr ⟨x, by simp, h⟩
    · exact .inl h
    · rcases inter_mem (l := y :: r) h with h | ⟨z, hz, h⟩
      · exact .inl h
      · exact .inr ⟨z, List.mem_cons_of_mem _ hz, h⟩

theorem gen_list {n : Nat} {rows : List (AV × List Nat × List Nat)} {b0 : List Nat} (h : ∀ e ∈ rows, GenI n e.1 e.2.1 e.2.2) (hl : rows.length ≤ 3) (hb : Blk b0) (lb : b0.length ≤ 2) :
    Gen (n + 1) (.list (rows.map (·.1))) (91 :: (inter (rows.map (·.2.1)) ++ [93])) (91 :: ((if rows = [] then b0 else inter (rows.map (·.2.2))) ++ [93])) := by
  obtain ⟨its, h1, h2, h3, h4, h5, h6⟩ := jl_of rows h
  have hp := Nat.one_le_pow n 4 (by decide)
  refine ⟨?_, ?_, ⟨.list b0 its, ⟨hb, h1⟩, by simp [JT.val, h2], by simp only [JT.dep]; omega, ?_⟩, ?_, fun c hc => ?_⟩
  · unfold GoodN
    refine ⟨by simpa using hl, fun x hx => ?_⟩
    obtain ⟨e, he, rfl⟩ := List.mem_map.mp hx
    exact (h e he).good
  · unfold jtextN
    congr 3
    rw [List.map_map]
    exact List.map_congr_left fun e he => (h e he).one
  · unfold JT.text
    by_cases hr : rows = []
    · rw [if_pos hr, h6 hr]; rfl
    · rw [if_neg hr, h5 b0 hr]
  · have h7 := inter_len (B := 400 * 4 ^ n + 4) (l := rows.map (·.2.2)) fun x hx => by
      obtain ⟨e, he, rfl⟩ := List.mem_map.mp hx
      exact (h e he).len
    rw [List.length_map] at h7
    have h8 : rows.length * (400 * 4 ^ n + 4 + 1) ≤ 3 * (400 * 4 ^ n + 4 + 1) := Nat.mul_le_mul_right _ hl
    simp only [List.length_cons, List.length_append, List.length_nil, Nat.pow_succ]
    split <;> omega
  · simp only [List.mem_cons, List.mem_append, List.not_mem_nil, or_false] at hc
    rcases hc with rfl | hc | rfl
    · exact .inl (by decide)
    · split at hc
      · exact hb.uni c hc
      · rcases inter_mem hc with rfl | ⟨x, hx, hc⟩
        · exact .inl (by decide)
        · obtain ⟨e, he, rfl⟩ := List.mem_map.mp hx
          exact (h e he).uni c hc
    · exact .inl (by decide)

theorem gen_dict {n : Nat} {rows : List (Str × AV × List Nat × List Nat)} {b0 : List Nat} (h : ∀ e ∈ rows, GenE n e.1 e.2.1 e.2.2.1 e.2.2.2) (hn : (rows.map (·.1)).Nodup) (hl : rows.length ≤ 3) (hb : Blk b0) (lb : b0.length ≤ 2) :
    Gen (n + 1) (.dict (rows.map fun e => (e.1, e.2.1))) (123 :: (inter (rows.map (·.2.2.1)) ++ [125])) (123 :: ((if rows = [] then b0 else inter (rows.map (·.2.2.2))) ++ [125])) := by
  obtain ⟨its, h1, h2, h3, h4, h5, h6⟩ := jd_of rows [] h (by simpa using hn)
  have hp := Nat.one_le_pow n 4 (by decide)
  refine ⟨?_, ?_, ⟨.dict b0 its, ⟨hb, h1⟩, by simp [JT.val, h2], by simp only [JT.dep]; omega, ?_⟩, ?_, fun c hc => ?_⟩
  · unfold GoodN
    refine ⟨by simpa using hl, by simpa [Function.comp_def] using hn, fun x hx => ?_⟩
    obtain ⟨e, he, rfl⟩ := List.mem_map.mp hx
    exact ⟨(h e he).key, (h e he).good⟩
  · unfold jtextN
    congr 3
    show _ = (rows.map fun e => (e.1, e.2.1)).map _
    rw [List.map_map]
    exact List.map_congr_left fun e he => (h e he).one
  · unfold JT.text
    by_cases hr : rows = []
    · rw [if_pos hr, h6 hr]; rfl
    · rw [if_neg hr, h5 b0 hr]
  · have h7 := inter_len (B := 400 * 4 ^ n + 50) (l := rows.map (·.2.2.2)) fun x hx => by
      obtain ⟨e, he, rfl⟩ := List.mem_map.mp hx
      exact (h e he).len
    rw [List.length_map] at h7
    have h8 : rows.length * (400 * 4 ^ n + 50 + 1) ≤ 3 * (400 * 4 ^ n + 50 + 1) := Nat.mul_le_mul_right _ hl
    simp only [List.length_cons, List.length_append, List.length_nil, Nat.pow_succ]
    split <;> omega
  · simp only [List.mem_cons, List.mem_append, List.not_mem_nil, or_false] at hc
    rcases hc with rfl | hc | rfl
    · exact .inl (by decide)
    · split at hc
      · exact hb.uni c hc
      · rcases inter_mem hc with rfl | ⟨x, hx, hc⟩
        · exact .inl (by decide)
        · obtain ⟨e, he, rfl⟩ := List.mem_map.mp hx
          exact (h e he).uni c hc
    · exact .inl (by decide)
end Mine

namespace Mine
set_option maxRecDepth 100000

local macro_rules | `(tactic| walk_at "size") => `(tactic| first | omega | assumption | (simp only [Str.length_append, len_one, len_hex4, len_lit1, len_lit2, sizeLine_eq] <;> omega) | skip)
local macro_rules | `(tactic| walk_at "op") => `(tactic| first
  | exact BOk.addL | exact BOk.addLr | exact BOk.addN | exact BOk.add
  | (refine' BOk.subL ?oa; (case' oa => omega))
  | (refine' BOk.modL ?ob; (case' ob => decide))
  | (refine' BOk.divL ?oc; (case' oc => decide))
  | (refine' BOk.cat ?od; (case' od => walk_at "size"))
  | exact POk.eqS | exact POk.neS | exact POk.inS | exact POk.eqI | exact POk.neI | exact POk.ltI | exact POk.leI | exact POk.gtI | exact POk.geI | exact POk.isNone | exact POk.isB | exact POk.inI | exact POk.inD
  | skip)
local macro_rules | `(tactic| walk_at "side") => `(tactic| first | omega | assumption | decide | skip)
local macro_rules | `(tactic| walk_at "item") => `(tactic| first
  | exact GOk.strN (by omega) (by assumption)
  | (refine' GOk.hexd ?ia; (case' ia => omega))
  | (refine' GOk.list ?ib ?ic ?id; (case' ib => decide); (case' ic => decide); (case' id => rfl))
  | skip)
local macro_rules | `(tactic| walk_at "ev") => `(tactic| first
  | exact EvOk.name (by rfl) (by decide)
  | exact EvOk.int | exact EvOk.str | exact EvOk.none | exact EvOk.bool | exact EvOk.bytes
  | (refine' EvOk.bin ?ba ?bb ?bc; (case' ba => walk_at "ev"); (case' bb => walk_at "ev"); (case' bc => walk_at "op"))
  | (refine' EvOk.slice ?sa ?sb ?sc ?sd ?se; (case' sa => walk_at "ev"); (case' sb => walk_at "ev"); (case' sc => walk_at "ev"); (case' sd => walk_at "side"); (case' se => walk_at "side"))
  | (refine' EvOk.sliceTo ?ra ?rb ?rc; (case' ra => walk_at "ev"); (case' rb => walk_at "ev"); (case' rc => walk_at "side"))
  | (refine' EvOk.sub ?ua ?ub ?uc; (case' ua => walk_at "ev"); (case' ub => walk_at "ev"); (case' uc => walk_at "item"))
  | (refine' EvOk.tuple ?ta ?tb; (case' ta => walk_at "ev"); (case' tb => decide))
  | (refine' EvLOk.cons ?ca ?cb; (case' ca => walk_at "ev"); (case' cb => walk_at "ev"))
  | exact EvLOk.nil
  | exact EvOk.hexName (by rfl)
  | exact EvOk.escapes (by rfl)
  | exact EvOk.escaped (by rfl)
  | (refine' EvOk.bcall bn_len (by rfl) (by intro _; nofun) ?fa (FOk.lenS ?fb); (case' fa => walk_at "ev"); (case' fb => walk_at "side"))
  | (refine' EvOk.bcall bn_ord (by rfl) (by intro _; nofun) ?fc FOk.ord; (case' fc => walk_at "ev"))
  | (refine' EvOk.bcall bn_chr (by rfl) (by intro _; nofun) ?fd (FOk.chr ?fe ?ff); (case' fd => walk_at "ev"); (case' fe => walk_at "side"); (case' ff => walk_at "side"))
  | (refine' EvOk.bcall bn_str (by rfl) (by intro _; nofun) ?fg (FOk.strOf ?fh); (case' fg => walk_at "ev"); (case' fh => walk_at "side"))
  | (refine' EvOk.bcall bn_int (by rfl) (by intro _; nofun) ?fi (FOk.intOf ?fj ?fk); (case' fi => walk_at "ev"); (case' fj => walk_at "side"); (case' fk => walk_at "side"))
  | (refine' EvOk.bcall bn_range (by rfl) (by intro _; nofun) ?fl FOk.range; (case' fl => walk_at "ev"))
  | (refine' EvOk.bcall bn_abs (by rfl) (by intro _; nofun) ?fm FOk.abs; (case' fm => walk_at "ev"))
  | (refine' TOk.cmp' ?pa ?pb ?pc ?pd; (case' pa => walk_at "ev"); (case' pb => walk_at "ev"); (case' pc => walk_at "op"))
  | (refine' TOk.not ?na; (case' na => walk_at "ev"))
  | (refine' EvOk.cmp ?qa ?qb ?qc; (case' qa => walk_at "ev"); (case' qb => walk_at "ev"); (case' qc => walk_at "op"))
  | skip)

/-! ## _law_value: the head and the leaves -/
theorem def_125 : DefAt 125 (fdOf 125) ["draw", "depth"] (bodyOf 125) := ⟨fun _ => rfl, fun _ => rfl, rfl, rfl, rfl, rfl, rfl, rfl, rfl, by decide⟩
noncomputable abbrev nm125 : List (Str × NameKind) := (fdOf 125).scope.names
noncomputable def vaW (d w : Nat) : Loc := [("draw", .val .draw), ("depth", .val (.int (d : Int))), ("way", .val (.int (w : Int)))]

/-- a call of _law_take -/
theorem EvOk.take {k nm σ δ δ' p1 p2 e pos} {r : AV} {n : Int} (hn : nm.lookup (Str.ofString "_law_take") = some .globalImplicit) (hd : σ.lookup (Str.ofString "draw") = some .draw) (he : EvOk (k + 1) nm σ δ e (.ok (.int n)) δ)
    (hc : CallOk 1 104 [.draw, .int n] δ (.ok r) δ') (hs : ∀ env, starEach [e] env = [(false, eval e env)] := by intro _; rfl) : EvOk (k + 1) nm σ δ (.Call (.Name "_law_take" p1) [.Name "draw" p2, e] [] pos) (.ok r) δ' :=
  EvOk.call gn_law_take hn fn_104 (EvLOk.cons (EvOk.name hd) (EvLOk.cons he EvLOk.nil fun env => by rw [hs]; rfl) fun env => rfl) (hc.mono (by omega))

theorem Draw.Good.bud {δ : Draw} (g : δ.Good) (b : Int) : ({ δ with bud := b } : Draw).Good := ⟨g.cells, g.len, g.seed⟩

theorem value_start {δ : Draw} (g : δ.Good) {d : Nat} : ∃ (w : Nat) (δ1 : Draw), δ1.Good ∧ w < 6 ∧ (d = 0 → w = 3 ∨ w = 4) ∧
    ∀ {k o ℓ' δ' r}, XsOk (k + 1) nm125 (vaW d w) δ1 ((bodyOf 125).drop 2) o ℓ' δ' → o.res = some r → CallOk (k + 2) 125 [.draw, .int (d : Int)] δ r δ' := by
  have fin : ∀ {w : Nat} {δ1 : Draw} {k o ℓ' δ' r}, EvOk (k + 1) nm125 (vals [("draw", .val .draw), ("depth", .val (.int (d : Int)))]) δ (match (bodyOf 125).getD 0 (.Pass default) with | .Assign _ e _ => e | _ => default) (.ok (.int (w : Int))) δ1 →
      XsOk (k + 1) nm125 (vaW d w) { δ1 with bud := δ1.bud - 1 } ((bodyOf 125).drop 2) o ℓ' δ' → o.res = some r → CallOk (k + 2) 125 [.draw, .int (d : Int)] δ r δ' := fun {w δ1 k o ℓ' δ' r} he hx hr => by
    refine CallOk.plain (o := o) (ℓ' := ℓ') def_125 (by decide) (by decide) rfl (fun s vals hv => ?_) ?_ hr
    · match vals, hv with
      | [a, b], _ => exact BindsTo.of_eq rfl
    refine XsOk.cons (ℓ1 := vaW d w) (δ1 := δ1) (XOk.assign he rfl) ?_
    refine XsOk.cons (ℓ1 := vaW d w) (δ1 := { δ1 with bud := δ1.bud - 1 }) (XOk.drawSet (δ1 := δ1) (i := 2) (v := δ1.bud - 1) rfl ?_ (.inr ⟨rfl, rfl⟩)) hx
    exact EvOk.bin (EvOk.draw2 rfl) EvOk.int BOk.sub
  by_cases hd : d = 0
  · subst hd
    obtain ⟨r, δ1, hr, g1, hc⟩ := take_ok g (n := 2) (by decide)
    refine ⟨3 + r, _, g1.bud _, by omega, fun _ => by omega, fun {k o ℓ' δ' res} hx he => fin (δ1 := δ1) ?_ hx he⟩
    exact EvOk.ifFalse (TOk.cmp' (EvOk.name (av := .int ((0 : Nat) : Int)) rfl) EvOk.int POk.gtI rfl) (EvOk.bin EvOk.int (EvOk.take rfl rfl EvOk.int hc) BOk.addLr)
  · obtain ⟨r, δ1, hr, g1, hc⟩ := take_ok g (n := 6) (by decide)
    refine ⟨r, _, g1.bud _, by omega, fun q => absurd q hd, fun {k o ℓ' δ' res} hx he => fin (δ1 := δ1) ?_ hx he⟩
    exact EvOk.ifTrue (TOk.cmp' (EvOk.name (av := .int (d : Int)) rfl) EvOk.int POk.gtI (decide_eq_true (by omega))) (EvOk.take rfl rfl EvOk.int hc)

noncomputable def iT : Stmt → Expr
  | .If t _ _ _ => t
  | _ => default
/-- the first test -/
theorem value_test {k δ} {d w : Nat} : TOk k nm125 (peek (vaW d w)) δ (iT (stAt (bodyOf 125) 2)) (decide (w = 0 ∨ (d = 3 ∧ 2 < w) ∨ (δ.bud < 0 ∧ 0 < d))) δ := by
  have eW : ∀ {p1 p2 p3 a n op c}, POk k op (.int (w : Int)) (.int n) c → TOk k nm125 (peek (vaW d w)) δ (.Compare (.Name "way" p1) [op] [.Constant (.int n) a p2] p3) c δ := fun {p1 p2 p3 a n op c} h => TOk.cmp (EvOk.name rfl) EvOk.int h
  have eD : ∀ {p1 p2 p3 a n op c}, POk k op (.int (d : Int)) (.int n) c → TOk k nm125 (peek (vaW d w)) δ (.Compare (.Name "depth" p1) [op] [.Constant (.int n) a p2] p3) c δ := fun {p1 p2 p3 a n op c} h => TOk.cmp (EvOk.name rfl) EvOk.int h
  have eB : ∀ {p1 p2 p3 p4 p5 a b n op c}, POk k op (.int δ.bud) (.int n) c → TOk k nm125 (peek (vaW d w)) δ (.Compare (.Subscript (.Name "draw" p1) (.Constant (.int 2) a p2) p3) [op] [.Constant (.int n) b p4] p5) c δ := fun {p1 p2 p3 p4 p5 a b n op c} h => TOk.cmp (EvOk.draw2 rfl) EvOk.int h
  have and2 : ∀ {x y p a b}, TOk k nm125 (peek (vaW d w)) δ x a δ → TOk k nm125 (peek (vaW d w)) δ y b δ → TOk k nm125 (peek (vaW d w)) δ (.BoolOp .And [x, y] p) (a && b) δ := fun {x y p a b} h1 h2 => by
    cases a
    · exact TOk.bool (AllOk.andF h1)
    · cases b
      · exact TOk.bool (AllOk.andT h1 (AllOk.andF h2))
      · exact TOk.bool (AllOk.andT h1 (AllOk.andT h2 AllOk.andNil))
  have or3 : ∀ {x y z p a b c}, TOk k nm125 (peek (vaW d w)) δ x a δ → TOk k nm125 (peek (vaW d w)) δ y b δ → TOk k nm125 (peek (vaW d w)) δ z c δ → TOk k nm125 (peek (vaW d w)) δ (.BoolOp .Or [x, y, z] p) (a || b || c) δ := fun {x y z p a b c} h1 h2 h3 => by
    cases a
    · cases b
      · cases c
        · exact TOk.bool (AllOk.orF h1 (AllOk.orF h2 (AllOk.orF h3 AllOk.orNil)))
        · exact TOk.bool (AllOk.orF h1 (AllOk.orF h2 (AllOk.orT h3)))
      · exact TOk.bool (AllOk.orF h1 (AllOk.orT h2))
    · exact TOk.bool (AllOk.orT h1)
  refine TOk.of (or3 (eW POk.eqI) (and2 (eD POk.eqI) (eW POk.gtI)) (and2 (eB POk.ltI) (eD POk.gtI))) ?_
  by_cases h1 : w = 0 <;> by_cases h2 : d = 3 <;> by_cases h3 : 2 < w <;> by_cases h4 : δ.bud < 0 <;> by_cases h5 : 0 < d
  all_goals
    have e1 : ((w : Int) == 0) = decide (w = 0) := by rw [Bool.eq_iff_iff]; simp
    have e2 : ((d : Int) == 3) = decide (d = 3) := by rw [Bool.eq_iff_iff]; simp; omega
    have e3 : decide ((2 : Int) < w) = decide (2 < w) := by rw [Bool.eq_iff_iff]; simp; omega
    have e5 : decide ((0 : Int) < d) = decide (0 < d) := by rw [Bool.eq_iff_iff]; simp
    rw [e1, e2, e3, e5]
    simp [h1, h2, h3, h4, h5]

/-- nothing, truths -/
theorem value_const {δ : Draw} (g : δ.Good) {d w : Nat} (h : w = 0 ∨ (d = 3 ∧ 2 < w) ∨ (δ.bud < 0 ∧ 0 < d)) (n : Nat) : ∃ v l δ', δ'.Good ∧ Gen n v l l ∧ ∀ {k}, XsOk (k + 1) nm125 (vaW d w) δ ((bodyOf 125).drop 2) (.ret (.tuple [v, .str (txt l), .str (txt l)])) (vaW d w) δ' := by
  obtain ⟨r, δ', hr, g', hc⟩ := take_ok g (n := 3) (by decide)
  have hp := Nat.one_le_pow n 4 (by decide)
  have key : ∀ (r : Nat), r < 3 → ∃ v l, Gen n v l l ∧ ([(.tuple [.none, .str (txt wNull), .str (txt wNull)]), .tuple [.bool true, .str (txt wTrue), .str (txt wTrue)], .tuple [.bool false, .str (txt wFalse), .str (txt wFalse)]] : List AV)[r]? = some (.tuple [v, .str (txt l), .str (txt l)]) := by
    intro r hr
    have : r = 0 ∨ r = 1 ∨ r = 2 := by omega
    rcases this with rfl | rfl | rfl
    · exact ⟨.none, wNull, ⟨by unfold GoodN; trivial, by unfold jtextN; rfl, ⟨.null, trivial, rfl, Nat.zero_le _, rfl⟩, by show 4 ≤ _; omega, fun c hc => .inl ((by decide : ∀ c ∈ wNull, c < 128) c hc)⟩, rfl⟩
    · exact ⟨.bool true, wTrue, ⟨by unfold GoodN; trivial, by unfold jtextN; rfl, ⟨.tru, trivial, rfl, Nat.zero_le _, rfl⟩, by show 4 ≤ _; omega, fun c hc => .inl ((by decide : ∀ c ∈ wTrue, c < 128) c hc)⟩, rfl⟩
    · exact ⟨.bool false, wFalse, ⟨by unfold GoodN; trivial, by unfold jtextN; rfl, ⟨.fls, trivial, rfl, Nat.zero_le _, rfl⟩, by show 5 ≤ _; omega, fun c hc => .inl ((by decide : ∀ c ∈ wFalse, c < 128) c hc)⟩, rfl⟩
  obtain ⟨v, l, hg, hget⟩ := key r hr
  refine ⟨v, l, δ', g', hg, fun {k} => XsOk.ret (XOk.ifT (δ1 := δ) (value_test.of (decide_eq_true h)) (XsOk.ret (XOk.ret (EvOk.sub (b := .int (r : Int)) ?_ (EvOk.take rfl rfl EvOk.int hc) (GOk.list (by omega) (by omega) (by simpa using hget))))))⟩
  have e1 : txt wNull = Str.ofString "null" := litNull.symm
  have e2 : txt wTrue = Str.ofString "true" := litTrue.symm
  have e3 : txt wFalse = Str.ofString "false" := litFalse.symm
  rw [e1, e2, e3]
  exact EvOk.list (by walk_at "ev") (by show 3 ≤ sizeLine; decide)
end Mine

namespace Mine
set_option maxRecDepth 100000

local macro_rules | `(tactic| walk_at "size") => `(tactic| first | omega | assumption | (simp only [Str.length_append, len_one, len_hex4, len_lit1, len_lit2, sizeLine_eq] <;> omega) | skip)
local macro_rules | `(tactic| walk_at "op") => `(tactic| first
  | exact BOk.addL | exact BOk.addLr | exact BOk.addN | exact BOk.add
  | (refine' BOk.subL ?oa; (case' oa => omega))
  | (refine' BOk.modL ?ob; (case' ob => decide))
  | (refine' BOk.divL ?oc; (case' oc => decide))
  | (refine' BOk.cat ?od; (case' od => walk_at "size"))
  | exact POk.eqS | exact POk.neS | exact POk.inS | exact POk.eqI | exact POk.neI | exact POk.ltI | exact POk.leI | exact POk.gtI | exact POk.geI | exact POk.isNone | exact POk.isB | exact POk.inI | exact POk.inD
  | skip)
local macro_rules | `(tactic| walk_at "side") => `(tactic| first | omega | assumption | decide | skip)
local macro_rules | `(tactic| walk_at "item") => `(tactic| first
  | exact GOk.strN (by omega) (by assumption)
  | (refine' GOk.hexd ?ia; (case' ia => omega))
  | (refine' GOk.list ?ib ?ic ?id; (case' ib => decide); (case' ic => decide); (case' id => rfl))
  | skip)
local macro_rules | `(tactic| walk_at "ev") => `(tactic| first
  | exact EvOk.name (by rfl) (by decide)
  | exact EvOk.int | exact EvOk.str | exact EvOk.none | exact EvOk.bool | exact EvOk.bytes
  | (refine' EvOk.bin ?ba ?bb ?bc; (case' ba => walk_at "ev"); (case' bb => walk_at "ev"); (case' bc => walk_at "op"))
  | (refine' EvOk.slice ?sa ?sb ?sc ?sd ?se; (case' sa => walk_at "ev"); (case' sb => walk_at "ev"); (case' sc => walk_at "ev"); (case' sd => walk_at "side"); (case' se => walk_at "side"))
  | (refine' EvOk.sliceTo ?ra ?rb ?rc; (case' ra => walk_at "ev"); (case' rb => walk_at "ev"); (case' rc => walk_at "side"))
  | (refine' EvOk.sub ?ua ?ub ?uc; (case' ua => walk_at "ev"); (case' ub => walk_at "ev"); (case' uc => walk_at "item"))
  | (refine' EvOk.tuple ?ta ?tb; (case' ta => walk_at "ev"); (case' tb => decide))
  | (refine' EvLOk.cons ?ca ?cb; (case' ca => walk_at "ev"); (case' cb => walk_at "ev"))
  | exact EvLOk.nil
  | exact EvOk.hexName (by rfl)
  | exact EvOk.escapes (by rfl)
  | exact EvOk.escaped (by rfl)
  | (refine' EvOk.bcall bn_len (by rfl) (by intro _; nofun) ?fa (FOk.lenS ?fb); (case' fa => walk_at "ev"); (case' fb => walk_at "side"))
  | (refine' EvOk.bcall bn_ord (by rfl) (by intro _; nofun) ?fc FOk.ord; (case' fc => walk_at "ev"))
  | (refine' EvOk.bcall bn_chr (by rfl) (by intro _; nofun) ?fd (FOk.chr ?fe ?ff); (case' fd => walk_at "ev"); (case' fe => walk_at "side"); (case' ff => walk_at "side"))
  | (refine' EvOk.bcall bn_str (by rfl) (by intro _; nofun) ?fg (FOk.strOf ?fh); (case' fg => walk_at "ev"); (case' fh => walk_at "side"))
  | (refine' EvOk.bcall bn_int (by rfl) (by intro _; nofun) ?fi (FOk.intOf ?fj ?fk); (case' fi => walk_at "ev"); (case' fj => walk_at "side"); (case' fk => walk_at "side"))
  | (refine' EvOk.bcall bn_range (by rfl) (by intro _; nofun) ?fl FOk.range; (case' fl => walk_at "ev"))
  | (refine' EvOk.bcall bn_abs (by rfl) (by intro _; nofun) ?fm FOk.abs; (case' fm => walk_at "ev"))
  | (refine' TOk.cmp' ?pa ?pb ?pc ?pd; (case' pa => walk_at "ev"); (case' pb => walk_at "ev"); (case' pc => walk_at "op"))
  | (refine' TOk.not ?na; (case' na => walk_at "ev"))
  | (refine' EvOk.cmp ?qa ?qb ?qc; (case' qa => walk_at "ev"); (case' qb => walk_at "ev"); (case' qc => walk_at "op"))
  | skip)

noncomputable def vaTest (δ : Draw) (d w : Nat) : Prop := w = 0 ∨ (d = 3 ∧ 2 < w) ∨ (δ.bud < 0 ∧ 0 < d)

theorem gen_int {n : Nat} {i : Int} (h : i.natAbs < 10 ^ 40) : Gen n (.int i) (Str.ofString (toString i)).cps.toList (Str.ofString (toString i)).cps.toList := by
  obtain ⟨neg, ds, e, ho⟩ := num_tree h
  have hp := Nat.one_le_pow n 4 (by decide)
  have hl := int_text_length_le10 (a := i) (k := 40) (by decide) h
  rw [← PySem.ofString_length, ← str_len] at hl
  refine ⟨by unfold GoodN; exact h, by unfold jtextN; rfl, ⟨.num neg ds i, ho, rfl, Nat.zero_le _, e.symm⟩, by omega, fun c hc => ?_⟩
  rw [e, List.mem_append] at hc
  rcases hc with hc | hc
  · unfold pre at hc
    split at hc
    · simp at hc; subst hc; exact .inl (by decide)
    · simp at hc
  · have := ho.1 c hc
    simp only [isDig, decide_eq_true_eq] at this
    exact .inl (by omega)

/-- whole numbers -/
theorem value_number {δ : Draw} (g : δ.Good) {d : Nat} (h : ¬ vaTest δ d 1) (n : Nat) : ∃ v l δ', δ'.Good ∧ Gen n v l l ∧ ∃ ℓ', ∀ {k}, XsOk (k + 1) nm125 (vaW d 1) δ ((bodyOf 125).drop 2) (.ret (.tuple [v, .str (txt l), .str (txt l)])) ℓ' δ' := by
  obtain ⟨r, δ1, hr, g1, hc1⟩ := take_ok g (n := 10 ^ 40) (by decide)
  obtain ⟨b, δ2, hb, g2, hc2⟩ := take_ok g1 (n := 2) (by decide)
  have hi : ((r : Int) * (1 - 2 * (b : Int))).natAbs < 10 ^ 40 := by
    rw [Int.natAbs_mul]
    have : (1 - 2 * (b : Int)).natAbs = 1 := by omega
    rw [this]
    simpa using hr
  refine ⟨.int ((r : Int) * (1 - 2 * (b : Int))), _, δ2, g2, gen_int hi, [("draw", .val .draw), ("depth", .val (.int (d : Int))), ("way", .val (.int ((1 : Nat) : Int))), ("number", .val (.int ((r : Int) * (1 - 2 * (b : Int)))))], fun {k} => ?_⟩
  rw [txt_self]
  refine XsOk.cons (ℓ1 := vaW d 1) (δ1 := δ) (XOk.ifF (δ1 := δ) (value_test.of (decide_eq_false h)) XsOk.nil) ?_
  refine XsOk.ret (XOk.ifT (δ1 := δ) (TOk.cmp' (EvOk.name (av := .int ((1 : Nat) : Int)) rfl) EvOk.int POk.eqI rfl) ?_)
  have e40 : (10 : Int) ^ (40 : Int).toNat = ((10 ^ 40 : Nat) : Int) := by decide +kernel
  have hpow : BOk (k + 1) .Pow (.int 10) (.int 40) (.int ((10 ^ 40 : Nat) : Int)) := e40 ▸ BOk.pow (a := 10) (b := 40) (by decide) (by decide) (by decide)
  have hrb : r < 2 ^ 134 := Nat.lt_trans hr (by decide)
  refine XsOk.cons (δ1 := δ2) (ℓ1 := [("draw", .val .draw), ("depth", .val (.int (d : Int))), ("way", .val (.int ((1 : Nat) : Int))), ("number", .val (.int ((r : Int) * (1 - 2 * (b : Int)))))])
    (XOk.assign (av := .int ((r : Int) * (1 - 2 * (b : Int)))) (EvOk.bin (EvOk.take rfl rfl (EvOk.bin EvOk.int EvOk.int hpow) hc1) (EvOk.bin EvOk.int (EvOk.bin EvOk.int (EvOk.take rfl rfl EvOk.int hc2) (BOk.mul (mulOk_small (by decide) (by omega)))) BOk.sub) (BOk.mul (IntMulOk.of_le (m := 134) (n := 64) (intBits_le_iff.mpr (by simpa using hrb)) (intBits_le_iff.mpr (by omega)) (by decide)))) rfl) ?_
  refine XsOk.ret (XOk.ret (EvOk.tuple (EvLOk.cons (EvOk.name rfl) (EvLOk.cons (δ1 := δ2) ?_ (EvLOk.cons (δ1 := δ2) ?_ EvLOk.nil))) (by show 3 ≤ sizeLine; decide)))
  · exact EvOk.bcall bn_str rfl (fun _ => nofun) (EvLOk.cons (EvOk.name rfl) EvLOk.nil) (FOk.strOf (log2_small hi))
  · exact EvOk.bcall bn_str rfl (fun _ => nofun) (EvLOk.cons (EvOk.name rfl) EvLOk.nil) (FOk.strOf (log2_small hi))

theorem gen_text {n : Nat} {ps : List (Nat × Pc × Pc)} (hl : ps.length ≤ 3) (h : ∀ p ∈ ps, SgOk p) : Gen n (.str (txt (ps.map (·.1)))) (34 :: ((ps.flatMap fun p => p.2.1.text) ++ [34])) (34 :: ((ps.flatMap fun p => p.2.2.text) ++ [34])) ∧ PsOk (ps.map (·.2.2)) ∧ keyOf (ps.map (·.2.2)) = txt (ps.map (·.1)) ∧ textOf (ps.map (·.2.2)) = (ps.flatMap fun p => p.2.2.text) := by
  have hp := Nat.one_le_pow n 4 (by decide)
  obtain ⟨f1, f2⟩ := flat_len h
  have k1 : PsOk (ps.map (·.2.2)) := ⟨fun p hp => by obtain ⟨q, hq, rfl⟩ := List.mem_map.mp hp; exact (h q hq).ok2, by simp; omega⟩
  have k2 : keyOf (ps.map (·.2.2)) = txt (ps.map (·.1)) := by
    unfold keyOf valOf txt
    rw [List.map_map]
    congr 2
    exact List.map_congr_left fun p hp => (h p hp).val2
  have k3 : textOf (ps.map (·.2.2)) = (ps.flatMap fun p => p.2.2.text) := by
    unfold textOf
    rw [List.flatMap_map]
  refine ⟨⟨?_, ?_, ⟨.str (ps.map fun (p : Nat × Pc × Pc) => p.2.2), k1, by simp [JT.val, k2], Nat.zero_le _, by simp [JT.text, k3]⟩, ?_, fun c hc => ?_⟩, k1, k2, k3⟩
  · unfold GoodN
    refine ⟨fun c hc => ?_, by rw [txt_len]; simpa using hl⟩
    rw [txt_cps] at hc
    obtain ⟨p, hp, rfl⟩ := List.mem_map.mp hc
    exact ⟨p, h p hp, rfl⟩
  · unfold jtextN
    rw [txt_cps, List.flatMap_map]
    congr 2
    rw [List.flatMap_def, List.flatMap_def]
    congr 1
    exact List.map_congr_left fun p hp => (h p hp).text
  · simp only [List.length_cons, List.length_append, List.length_nil]; omega
  · simp only [List.mem_cons, List.mem_append, List.not_mem_nil, or_false] at hc
    rcases hc with rfl | hc | rfl
    · exact .inl (by decide)
    · obtain ⟨p, hp, hc⟩ := List.mem_flatMap.mp hc
      exact (h p hp).uni2 c hc
    · exact .inl (by decide)

theorem value_skip {δ : Draw} {d w : Nat} (h : ¬ vaTest δ d w) (h1 : w ≠ 1) {k o ℓ' δ'} (hx : XsOk (k + 1) nm125 (vaW d w) δ ((bodyOf 125).drop 4) o ℓ' δ') : XsOk (k + 1) nm125 (vaW d w) δ ((bodyOf 125).drop 2) o ℓ' δ' := by
  refine XsOk.cons (ℓ1 := vaW d w) (δ1 := δ) (XOk.ifF (δ1 := δ) (value_test.of (decide_eq_false h)) XsOk.nil) ?_
  exact XsOk.cons (ℓ1 := vaW d w) (δ1 := δ) (XOk.ifF (δ1 := δ) (TOk.cmp' (EvOk.name (av := .int (w : Int)) rfl) EvOk.int POk.eqI (by simp; omega)) XsOk.nil) hx

/-- texts -/
theorem value_text {δ : Draw} (g : δ.Good) {d w : Nat} (h : ¬ vaTest δ d w) (hw : w = 2 ∨ w = 5) (n : Nat) : ∃ v l1 l2 δ', δ'.Good ∧ Gen n v l1 l2 ∧ ∀ {k}, XsOk (k + 2) nm125 (vaW d w) δ ((bodyOf 125).drop 2) (.ret (.tuple [v, .str (txt l1), .str (txt l2)])) (vaW d w) δ' := by
  obtain ⟨ps, δ', hl, hp, g', hc⟩ := text_ok g
  refine ⟨_, _, _, δ', g', (gen_text hl hp).1, fun {k} => value_skip h (by omega) (XsOk.ret (XOk.ifT (δ1 := δ) (TOk.cmp' (EvOk.name (av := .int (w : Int)) rfl) (by walk_at "ev") POk.inT2 ?_) (XsOk.ret (XOk.ret ?_))))⟩
  · rcases hw with rfl | rfl <;> rfl
  · exact EvOk.call gn_law_text rfl fn_111 (EvLOk.cons (EvOk.name (av := .draw) rfl) EvLOk.nil) (hc.mono (by omega))

theorem value_mid {δ : Draw} {d w : Nat} (h : ¬ vaTest δ d w) (hw : w = 3 ∨ w = 4) {k o ℓ' δ'} (hx : XsOk (k + 1) nm125 (vaW d w) δ ((bodyOf 125).drop 5) o ℓ' δ') : XsOk (k + 1) nm125 (vaW d w) δ ((bodyOf 125).drop 2) o ℓ' δ' := by
  refine value_skip h (by omega) (XsOk.cons (ℓ1 := vaW d w) (δ1 := δ) (XOk.ifF (δ1 := δ) (TOk.cmp' (EvOk.name (av := .int (w : Int)) rfl) (by walk_at "ev") POk.inT2 ?_) XsOk.nil) hx)
  rcases hw with rfl | rfl <;> rfl
end Mine

namespace Mine
set_option maxRecDepth 100000

/-! ## _law_value: lists and tables -/
theorem XOk.appendT {k nm ℓ ℓ2 δ δ' x np apos pos p e} {fs : List (List Nat)} {l : List Nat} (h0 : ℓ.lookup x = some (.own ((fs.map txt).map AV.str))) (h : EvOk k nm (vals ℓ) δ e (.ok (.str (txt l))) δ') (hlen : fs.length ≤ 1000) (e2 : setL x (.own (((fs ++ [l]).map txt).map AV.str)) ℓ = ℓ2)
    (hd : (x == ("__debug__" : Str)) = false := by decide) (hline : (apos.endLine == pos.line) = true := by rfl) (hst : ∀ env, starEach [e] env = [(false, eval e env)] := by intro _; rfl) (hbt : ∀ env, backTo pos (starEach [e] env) = [(false, eval e env)] := by intro _; rfl) :
    XOk k nm ℓ δ (.Expr (.Call (.Attribute (.Name x np) "append" apos) [e] [] pos) p) .next ℓ2 δ' := by
  refine XOk.appendS h0 h (by rw [List.length_map, sizeLine_eq]; omega) ?_ hd hline hst hbt
  rw [← e2]
  congr 3
  simp

noncomputable def sL (fs : List (List Nat)) : List AV := (fs.map txt).map AV.str
/-- between two turns -/
noncomputable def vaS (d w : Nat) (fs ss : List (List Nat)) (vs : List AV) (es : List (Str × AV)) : Loc :=
  [("draw", .val .draw), ("depth", .val (.int (d : Int))), ("way", .val (.int (w : Int))), ("first", .own (sL fs)), ("second", .own (sL ss)), ("row", .own vs), ("table", .ownD es)]
/-- within a turn -/
noncomputable def vaT (d w : Nat) (fs ss : List (List Nat)) (vs : List AV) (es : List (Str × AV)) (a v : AV) (one two : List Nat) : Loc :=
  [("draw", .val .draw), ("depth", .val (.int (d : Int))), ("way", .val (.int (w : Int))), ("first", .own (sL fs)), ("second", .own (sL ss)), ("row", .own vs), ("table", .ownD es), ("k", .val a), ("value", .val v), ("one", .val (.str (txt one))), ("two", .val (.str (txt two)))]
noncomputable def vaK (d w : Nat) (fs ss : List (List Nat)) (vs : List AV) (es : List (Str × AV)) (a v : AV) (one two : List Nat) (key told may : List Nat) : Loc :=
  [("draw", .val .draw), ("depth", .val (.int (d : Int))), ("way", .val (.int (w : Int))), ("first", .own (sL fs)), ("second", .own (sL ss)), ("row", .own vs), ("table", .ownD es), ("k", .val a), ("value", .val v), ("one", .val (.str (txt one))), ("two", .val (.str (txt two))), ("key", .val (.str (txt key))), ("told", .val (.str (txt told))), ("may", .val (.str (txt may)))]
noncomputable def vaB : List Stmt := wB (stAt (bodyOf 125) 9)

theorem cat_ok {x y : List Nat} {k} (h : x.length + y.length ≤ 1000000) : BOk k .Add (.str (txt x)) (.str (txt y)) (.str (txt (x ++ y))) := by
  rw [← txt_app]; exact BOk.cat (by rw [txt_len, txt_len, sizeLine_eq]; omega)
/-- a call of _law_blank -/
theorem EvOk.blank {k nm σ δ δ' p1 p2 pos} {r : AV} (hn : nm.lookup (Str.ofString "_law_blank") = some .globalImplicit) (hd : σ.lookup (Str.ofString "draw") = some .draw)
    (hc : CallOk 2 118 [.draw] δ (.ok r) δ') : EvOk (k + 2) nm σ δ (.Call (.Name "_law_blank" p1) [.Name "draw" p2] [] pos) (.ok r) δ' :=
  EvOk.call gn_law_blank hn fn_118 (EvLOk.cons (EvOk.name hd) EvLOk.nil) (hc.mono (by omega))

/-- what a call for a value within gives -/
noncomputable def RecOk (k n d : Nat) : Prop := ∀ δ : Draw, δ.Good → ∃ v l1 l2 δ', δ'.Good ∧ Gen n v l1 l2 ∧ CallOk k 125 [.draw, .int ((d + 1 : Nat) : Int)] δ (.ok (.tuple [v, .str (txt l1), .str (txt l2)])) δ'

theorem pow3 {n : Nat} (h : n ≤ 3) : 400 * 4 ^ n ≤ 25600 := by
  have : 4 ^ n ≤ 4 ^ 3 := Nat.pow_le_pow_right (by decide) h
  have e : (4 : Nat) ^ 3 = 64 := by decide
  omega

/-- the first two lines of a turn -/
theorem turn_head {δ : Draw} (g : δ.Good) {k n d w : Nat} (hn : n ≤ 3) (R : RecOk (k + 2) n d) {fs ss : List (List Nat)} {vs : List AV} {es : List (Str × AV)} {a : AV} : ∃ v l1 l2 b1 b2 δ', δ'.Good ∧ Gen n v l1 l2 ∧ Blk b1 ∧ Blk b2 ∧ b1.length ≤ 2 ∧ b2.length ≤ 2 ∧
    ∀ {o ℓ' δ2}, XsOk (k + 2) nm125 (vaT d w fs ss vs es a v l1 (b1 ++ l2 ++ b2)) δ' (vaB.drop 2) o ℓ' δ2 → XsOk (k + 2) nm125 (setL "k" (.val a) (vaS d w fs ss vs es)) δ vaB o ℓ' δ2 := by
  obtain ⟨v, l1, l2, δ1, g1, G, hc⟩ := R δ g
  obtain ⟨b1, δ2, hb1, hl1, g2, hc1⟩ := blank_ok g1
  obtain ⟨b2, δ3, hb2, hl2, g3, hc2⟩ := blank_ok g2
  have hlen := G.len
  have hp := pow3 hn
  refine ⟨v, l1, l2, b1, b2, δ3, g3, G, hb1, hb2, hl1, hl2, fun {o ℓ' δ'} hx => ?_⟩
  refine XsOk.cons (δ1 := δ1) (ℓ1 := vaT d w fs ss vs es a v l1 l2) (XOk.unpackT [("value", _), ("one", _), ("two", _)] rfl (EvOk.call gn_law_value rfl fn_125 (EvLOk.cons (EvOk.name (av := .draw) rfl) (EvLOk.cons (EvOk.bin (EvOk.name (av := .int (d : Int)) rfl) EvOk.int BOk.addL) EvLOk.nil)) hc) (by decide) rfl) ?_
  refine XsOk.cons (δ1 := δ3) (ℓ1 := vaT d w fs ss vs es a v l1 (b1 ++ l2 ++ b2)) (XOk.assign (av := .str (txt (b1 ++ l2 ++ b2))) ?_ rfl) hx
  exact EvOk.bin (EvOk.bin (EvOk.blank rfl rfl hc1) (EvOk.name rfl) (cat_ok (by omega))) (EvOk.blank rfl rfl hc2) (cat_ok (by simp only [List.length_append]; omega))

theorem turn_tail {δ : Draw} {k d w : Nat} {fs ss : List (List Nat)} {vs : List AV} {es : List (Str × AV)} {a v : AV} {l1 l2 : List Nat} (h1 : fs.length ≤ 100) (h2 : ss.length ≤ 100) :
    XsOk (k + 2) nm125 (vaT d w fs ss vs es a v l1 l2) δ (vaB.drop 3) .next (vaT d w (fs ++ [l1]) (ss ++ [l2]) vs es a v l1 l2) δ := by
  refine XsOk.cons (ℓ1 := vaT d w (fs ++ [l1]) ss vs es a v l1 l2) (δ1 := δ) (XOk.appendT (fs := fs) (l := l1) rfl (EvOk.name rfl) (by omega) rfl) ?_
  exact XsOk.one (XOk.appendT (fs := ss) (l := l2) rfl (EvOk.name rfl) (by omega) rfl)
theorem turn_tailK {δ : Draw} {k d w : Nat} {fs ss : List (List Nat)} {vs : List AV} {es : List (Str × AV)} {a v : AV} {l1 l2 x y z : List Nat} (h1 : fs.length ≤ 100) (h2 : ss.length ≤ 100) :
    XsOk (k + 2) nm125 (vaK d w fs ss vs es a v l1 l2 x y z) δ (vaB.drop 3) .next (vaK d w (fs ++ [l1]) (ss ++ [l2]) vs es a v l1 l2 x y z) δ := by
  refine XsOk.cons (ℓ1 := vaK d w (fs ++ [l1]) ss vs es a v l1 l2 x y z) (δ1 := δ) (XOk.appendT (fs := fs) (l := l1) rfl (EvOk.name rfl) (by omega) rfl) ?_
  exact XsOk.one (XOk.appendT (fs := ss) (l := l2) rfl (EvOk.name rfl) (by omega) rfl)

/-- a turn of a list -/
theorem list_turn' {δ : Draw} (g : δ.Good) {k n d : Nat} (hn : n ≤ 3) (R : RecOk (k + 2) n d) {fs ss : List (List Nat)} {vs : List AV} {a : AV} (h1 : fs.length ≤ 100) (h2 : ss.length ≤ 100) (h3 : vs.length ≤ 100) : ∃ v e1 e2 δ', δ'.Good ∧ GenI n v e1 e2 ∧
    XsOk (k + 2) nm125 (setL "k" (.val a) (vaS d 3 fs ss vs [])) δ vaB .next (vaS d 3 (fs ++ [e1]) (ss ++ [e2]) (vs ++ [v]) []) δ' := by
  obtain ⟨v, l1, l2, b1, b2, δ1, g1, G, hb1, hb2, k1, k2, hx⟩ := turn_head g hn R (w := 3) (fs := fs) (ss := ss) (vs := vs) (es := []) (a := a)
  refine ⟨v, l1, b1 ++ l2 ++ b2, δ1, g1, G.item hb1 hb2 k1 k2, XsOk.forget (ℓ2 := vaT d 3 (fs ++ [l1]) (ss ++ [b1 ++ l2 ++ b2]) (vs ++ [v]) [] a v l1 (b1 ++ l2 ++ b2)) (hx ?_) ?_⟩
  · refine XsOk.cons (ℓ1 := vaT d 3 fs ss (vs ++ [v]) [] a v l1 (b1 ++ l2 ++ b2)) (δ1 := δ1) (XOk.ifT (δ1 := δ1) (TOk.cmp' (EvOk.name (av := .int ((3 : Nat) : Int)) rfl) EvOk.int POk.eqI rfl) (XsOk.one ?_)) (turn_tail h1 h2)
    exact XOk.append (av := v) (ℓ := vaT d 3 fs ss vs [] a v l1 (b1 ++ l2 ++ b2)) (x := "row") rfl (EvOk.name rfl) (by rw [sizeLine_eq]; omega)
  · exact .cons rfl (.cons rfl (.cons rfl (.cons rfl (.cons rfl (.cons rfl (.cons rfl .nil))))))

theorem getE_none {es : List (Str × AV)} {x : Str} (h : x ∉ es.map (·.1)) : getE es x = none := by
  unfold getE
  rw [Option.map_eq_none_iff, List.find?_eq_none]
  intro p hp q
  exact h (List.mem_map.mpr ⟨p, hp, by simpa using q⟩)
theorem getE_some {es : List (Str × AV)} {x : Str} (h : x ∈ es.map (·.1)) : (getE es x).isSome = true := by
  unfold getE
  rw [Option.isSome_map, List.find?_isSome]
  obtain ⟨p, hp, rfl⟩ := List.mem_map.mp h
  exact ⟨p, hp, by simp⟩

/-- a turn of a table -/
theorem dict_turn' {δ : Draw} (g : δ.Good) {k n d : Nat} (hn : n ≤ 3) (R : RecOk (k + 2) n d) {fs ss : List (List Nat)} {es : List (Str × AV)} {a : AV} (h1 : fs.length ≤ 100) (h2 : ss.length ≤ 100) (h3 : es.length ≤ 100) :
    (∃ δ', δ'.Good ∧ XsOk (k + 2) nm125 (setL "k" (.val a) (vaS d 4 fs ss [] es)) δ vaB .cont (vaS d 4 fs ss [] es) δ') ∨
    ∃ key v e1 e2 δ', δ'.Good ∧ GenE n key v e1 e2 ∧ key ∉ es.map (·.1) ∧
      XsOk (k + 2) nm125 (setL "k" (.val a) (vaS d 4 fs ss [] es)) δ vaB .next (vaS d 4 (fs ++ [e1]) (ss ++ [e2]) [] (es ++ [(key, v)])) δ' := by
  obtain ⟨v, l1, l2, b1, b2, δ1, g1, G, hb1, hb2, k1, k2, hx⟩ := turn_head g hn R (w := 4) (fs := fs) (ss := ss) (vs := []) (es := es) (a := a)
  obtain ⟨ps, δ2, hl, hp, g2, hc⟩ := text_ok g1
  obtain ⟨GT, t1, t2, t3⟩ := gen_text (n := 0) hl hp
  have way4 : ∀ {δ : Draw} {p1 p2 p3 a b}, TOk (k + 2) nm125 (peek (vaT d 4 fs ss [] es a v l1 (b1 ++ l2 ++ b2))) δ (.Compare (.Name "way" p1) [.Eq] [.Constant (.int 3) b p2] p3) false δ := TOk.cmp' (EvOk.name (av := .int ((4 : Nat) : Int)) rfl) EvOk.int POk.eqI rfl
  let K := vaK d 4 fs ss [] es a v l1 (b1 ++ l2 ++ b2) (ps.map (·.1)) (34 :: ((ps.flatMap fun (p : Nat × Pc × Pc) => p.2.1.text) ++ [34])) (34 :: ((ps.flatMap fun (p : Nat × Pc × Pc) => p.2.2.text) ++ [34]))
  have un : ∀ {p1 p2 p3 p4 p5 p6 p7 p8 kk}, XOk (k + 2) nm125 (vaT d 4 fs ss [] es a v l1 (b1 ++ l2 ++ b2)) δ1 (.Assign [.Tuple [.Name "key" p1, .Name "told" p2, .Name "may" p3] kk p4] (.Call (.Name "_law_text" p5) [.Name "draw" p6] [] p7) p8) .next K δ2 :=
    fun {p1 p2 p3 p4 p5 p6 p7 p8 kk} => XOk.unpackT [("key", _), ("told", _), ("may", _)] rfl (EvOk.call gn_law_text rfl fn_111 (EvLOk.cons (EvOk.name (av := .draw) rfl) EvLOk.nil) (hc.mono (by omega))) (by intro x hx; simp only [List.mem_cons, List.not_mem_nil, or_false] at hx; rcases hx with rfl | rfl | rfl <;> rfl) rfl
  by_cases hk : txt (ps.map (·.1)) ∈ es.map (·.1)
  · left
    refine ⟨δ2, g2, XsOk.forget (ℓ2 := K) (hx ?_) (.cons rfl (.cons rfl (.cons rfl (.cons rfl (.cons rfl (.cons rfl (.cons rfl .nil)))))))⟩
    refine XsOk.cont (XOk.ifF (δ1 := δ1) way4 (XsOk.cons (ℓ1 := K) (δ1 := δ2) un (XsOk.cont (XOk.ifT (δ1 := δ2) (TOk.cmp' (EvOk.name (av := .str (txt (ps.map (·.1)))) rfl) (EvOk.name (av := .dict es) rfl) POk.inD (getE_some hk)) (XsOk.cont XOk.cont)))))
  · right
    obtain ⟨b3, δ3, hb3, k3, g3, hc3⟩ := blank_ok g2
    obtain ⟨b4, δ4, hb4, k4, g4, hc4⟩ := blank_ok g3
    have hlen := G.len
    have hlen1 := G.len1
    have hpw := pow3 hn
    have hT1 := GT.len1
    have hT2 := GT.len
    simp only [List.length_cons, List.length_append, List.length_nil, Nat.pow_zero] at hT1 hT2
    let E1 : List Nat := ((34 :: ((ps.flatMap fun (p : Nat × Pc × Pc) => p.2.1.text) ++ [34])) ++ [58]) ++ l1
    let E2 : List Nat := (((b3 ++ (34 :: ((ps.flatMap fun (p : Nat × Pc × Pc) => p.2.2.text) ++ [34]))) ++ b4) ++ [58]) ++ (b1 ++ l2 ++ b2)
    obtain ⟨t, q1, q2, q3, rfl⟩ := G.two
    have GE : GenE n (txt (ps.map (·.1))) v E1 E2 := by
      obtain ⟨f1, f2⟩ := flat_len hp
      have GK := GT.good
      unfold GoodN at GK
      have one := GT.one
      unfold jtextN at one
      refine ⟨GK, G.good, ?_, ⟨b3, _, b4, b1, t, b2, ⟨hb3, hb4, hb1, hb2⟩, t1, t2, q1, q2, q3, ?_⟩, ?_, fun c hc => ?_⟩
      · show ((34 :: ((ps.flatMap fun (p : Nat × Pc × Pc) => p.2.1.text) ++ [34])) ++ [58]) ++ l1 = entryT _ _
        rw [one, ← G.one]
        unfold entryT
        simp
      · show (((b3 ++ (34 :: ((ps.flatMap fun (p : Nat × Pc × Pc) => p.2.2.text) ++ [34]))) ++ b4) ++ [58]) ++ (b1 ++ t.text ++ b2) = _
        rw [t3]; simp
      · show ((((b3 ++ (34 :: ((ps.flatMap fun (p : Nat × Pc × Pc) => p.2.2.text) ++ [34]))) ++ b4) ++ [58]) ++ (b1 ++ t.text ++ b2)).length ≤ _
        simp only [List.length_cons, List.length_append, List.length_nil]
        omega
      · have hc' : c ∈ (((b3 ++ (34 :: ((ps.flatMap fun (p : Nat × Pc × Pc) => p.2.2.text) ++ [34]))) ++ b4) ++ [58]) ++ (b1 ++ t.text ++ b2) := hc
        rw [List.mem_append, List.mem_append, List.mem_append, List.mem_append, List.mem_append, List.mem_append] at hc'
        rcases hc' with (((h | h) | h) | h) | (h | h) | h
        · exact hb3.uni c h
        · exact GT.uni c h
        · exact hb4.uni c h
        · simp at h; subst h; exact .inl (by decide)
        · exact hb1.uni c h
        · exact G.uni c h
        · exact hb2.uni c h
    refine ⟨_, v, E1, E2, δ4, g4, GE, hk, XsOk.forget (ℓ2 := vaK d 4 (fs ++ [E1]) (ss ++ [E2]) [] (es ++ [(txt (ps.map (·.1)), v)]) a v E1 E2 (ps.map (·.1)) (34 :: ((ps.flatMap fun (p : Nat × Pc × Pc) => p.2.1.text) ++ [34])) (34 :: ((ps.flatMap fun (p : Nat × Pc × Pc) => p.2.2.text) ++ [34]))) (hx ?_) (.cons rfl (.cons rfl (.cons rfl (.cons rfl (.cons rfl (.cons rfl (.cons rfl .nil)))))))⟩
    have l58 : Str.ofString ":" = txt [58] := by decide +kernel
    refine XsOk.cons (δ1 := δ4) (ℓ1 := vaK d 4 fs ss [] (es ++ [(txt (ps.map (·.1)), v)]) a v E1 E2 (ps.map (·.1)) (34 :: ((ps.flatMap fun (p : Nat × Pc × Pc) => p.2.1.text) ++ [34])) (34 :: ((ps.flatMap fun (p : Nat × Pc × Pc) => p.2.2.text) ++ [34]))) (XOk.ifF (δ1 := δ1) way4 (XsOk.cons (ℓ1 := K) (δ1 := δ2) un ?_)) (turn_tailK h1 h2)
    refine XsOk.cons (ℓ1 := K) (δ1 := δ2) (XOk.ifF (δ1 := δ2) (TOk.cmp' (EvOk.name (av := .str (txt (ps.map (·.1)))) rfl) (EvOk.name (av := .dict es) rfl) POk.inD (by rw [getE_none hk]; rfl)) XsOk.nil) ?_
    refine XsOk.cons (δ1 := δ2) (ℓ1 := vaK d 4 fs ss [] (es ++ [(txt (ps.map (·.1)), v)]) a v l1 (b1 ++ t.text ++ b2) (ps.map (·.1)) (34 :: ((ps.flatMap fun (p : Nat × Pc × Pc) => p.2.1.text) ++ [34])) (34 :: ((ps.flatMap fun (p : Nat × Pc × Pc) => p.2.2.text) ++ [34]))) (XOk.store (ℓ := K) (x := "table") (av := v) (key := txt (ps.map (·.1))) (es := es) rfl (EvOk.name rfl) (EvOk.name rfl) hk (by rw [sizeLine_eq]; omega)) ?_
    refine XsOk.cons (δ1 := δ2) (ℓ1 := vaK d 4 fs ss [] (es ++ [(txt (ps.map (·.1)), v)]) a v E1 (b1 ++ t.text ++ b2) (ps.map (·.1)) (34 :: ((ps.flatMap fun (p : Nat × Pc × Pc) => p.2.1.text) ++ [34])) (34 :: ((ps.flatMap fun (p : Nat × Pc × Pc) => p.2.2.text) ++ [34]))) (XOk.assign (av := .str (txt E1)) (EvOk.bin (EvOk.bin (EvOk.name rfl) (by rw [← l58]; exact EvOk.str) (cat_ok ?_)) (EvOk.name rfl) (cat_ok ?_)) rfl) (XsOk.one (XOk.assign (av := .str (txt E2)) (EvOk.bin (EvOk.bin (EvOk.bin (EvOk.bin (EvOk.blank rfl rfl hc3) (EvOk.name rfl) (cat_ok ?_)) (EvOk.blank rfl rfl hc4) (cat_ok ?_)) (by rw [← l58]; exact EvOk.str) (cat_ok ?_)) (EvOk.name rfl) (cat_ok ?_)) rfl))
    all_goals
      simp only [List.length_cons, List.length_append, List.length_nil]
      omega
end Mine

namespace Mine
set_option maxRecDepth 100000

theorem list_loop' {k n d : Nat} (hn : n ≤ 3) (R : RecOk (k + 2) n d) : ∀ (items : List AV) (δ : Draw) (rows : List (AV × List Nat × List Nat)), δ.Good → (∀ e ∈ rows, GenI n e.1 e.2.1 e.2.2) → rows.length + items.length ≤ 10 →
    ∃ (rows' : List (AV × List Nat × List Nat)) (δ' : Draw), δ'.Good ∧ (∀ e ∈ rows', GenI n e.1 e.2.1 e.2.2) ∧ rows'.length = rows.length + items.length ∧
    LOk (k + 2) nm125 (vaS d 3 (rows.map (·.2.1)) (rows.map (·.2.2)) (rows.map (·.1)) []) δ "k" items vaB .next (vaS d 3 (rows'.map (·.2.1)) (rows'.map (·.2.2)) (rows'.map (·.1)) []) δ'
  | [], δ, rows, g, h, _ => ⟨rows, δ, g, h, rfl, LOk.nil⟩
  | a :: items, δ, rows, g, h, hl => by
    obtain ⟨v, e1, e2, δ1, g1, G, ht⟩ := list_turn' g hn R (fs := rows.map (·.2.1)) (ss := rows.map (·.2.2)) (vs := rows.map (·.1)) (a := a) (by simp at hl ⊢; omega) (by simp at hl ⊢; omega) (by simp at hl ⊢; omega)
    obtain ⟨rows', δ2, g2, h2, el, hL⟩ := list_loop' hn R items δ1 (rows ++ [(v, e1, e2)]) g1 (fun e he => (List.mem_append.mp he).elim (h e) fun q => by simp at q; subst q; exact G) (by simp at hl ⊢; omega)
    refine ⟨rows', δ2, g2, h2, by simp at el ⊢; omega, LOk.step rfl ht (.inl rfl) ?_⟩
    simpa using hL

theorem dict_loop' {k n d : Nat} (hn : n ≤ 3) (R : RecOk (k + 2) n d) : ∀ (items : List AV) (δ : Draw) (rows : List (Str × AV × List Nat × List Nat)), δ.Good → (∀ e ∈ rows, GenE n e.1 e.2.1 e.2.2.1 e.2.2.2) → (rows.map (·.1)).Nodup → rows.length + items.length ≤ 10 →
    ∃ (rows' : List (Str × AV × List Nat × List Nat)) (δ' : Draw), δ'.Good ∧ (∀ e ∈ rows', GenE n e.1 e.2.1 e.2.2.1 e.2.2.2) ∧ (rows'.map (·.1)).Nodup ∧ rows'.length ≤ rows.length + items.length ∧
    LOk (k + 2) nm125 (vaS d 4 (rows.map (·.2.2.1)) (rows.map (·.2.2.2)) [] (rows.map fun e => (e.1, e.2.1))) δ "k" items vaB .next (vaS d 4 (rows'.map (·.2.2.1)) (rows'.map (·.2.2.2)) [] (rows'.map fun e => (e.1, e.2.1))) δ'
  | [], δ, rows, g, h, hn', _ => ⟨rows, δ, g, h, hn', Nat.le_refl _, LOk.nil⟩
  | a :: items, δ, rows, g, h, hnd, hl => by
    rcases dict_turn' g hn R (fs := rows.map (·.2.2.1)) (ss := rows.map (·.2.2.2)) (es := rows.map fun e => (e.1, e.2.1)) (a := a) (by simp at hl ⊢; omega) (by simp at hl ⊢; omega) (by simp at hl ⊢; omega) with ⟨δ1, g1, ht⟩ | ⟨key, v, e1, e2, δ1, g1, G, hk, ht⟩
    · obtain ⟨rows', δ2, g2, h2, hnd2, el, hL⟩ := dict_loop' hn R items δ1 rows g1 h hnd (by simp at hl ⊢; omega)
      exact ⟨rows', δ2, g2, h2, hnd2, by simp; omega, LOk.step rfl ht (.inr rfl) hL⟩
    · obtain ⟨rows', δ2, g2, h2, hnd2, el, hL⟩ := dict_loop' hn R items δ1 (rows ++ [(key, v, e1, e2)]) g1 (fun e he => (List.mem_append.mp he).elim (h e) fun q => by simp at q; subst q; exact G) (by
        rw [List.map_append, List.nodup_append]
        refine ⟨hnd, by simp, fun x hx y hy => ?_⟩
        simp at hy
        subst hy
        intro q
        subst q
        exact hk (by rw [List.map_map]; exact hx)) (by simp at hl ⊢; omega)
      refine ⟨rows', δ2, g2, h2, hnd2, by simp at el ⊢; omega, LOk.step rfl ht (.inl rfl) ?_⟩
      simpa using hL

/-- ','.join(parts) if parts != [] else a blank -/
theorem EvOk.joined {k nm σ δ δ' p1 p2 p3 p4 p5 p6 p7 p8 p9 p10 p11 kk} {x : Str} {ss : List (List Nat)} {b0 : List Nat} (hx : σ.lookup x = some (.list (sL ss))) (hd : σ.lookup (Str.ofString "draw") = some .draw) (hn : nm.lookup (Str.ofString "_law_blank") = some .globalImplicit) (hs : ∀ t ∈ ss, t.length ≤ 100000) (hl : ss.length ≤ 4) (hc : CallOk 2 118 [.draw] δ (.ok (.str (txt b0))) δ')
    (hdb : (x == ("__debug__" : Str)) = false) (hline : (p5.endLine == p7.line) = true) : EvOk (k + 2) nm σ δ (.IfExp (.Compare (.Name x p1) [.NotEq] [.List [] p2] p3) (.Call (.Attribute (.Constant (.str (Str.ofString ",")) kk p4) "join" p5) [.Name x p6] [] p7) (.Call (.Name "_law_blank" p8) [.Name "draw" p9] [] p10) p11) (.ok (.str (txt (if ss = [] then b0 else inter ss)))) (if ss = [] then δ' else δ) := by
  by_cases h : ss = []
  · rw [if_pos h, if_pos h]
    exact EvOk.ifFalse (TOk.cmp' (EvOk.name hx hdb) (EvOk.list EvLOk.nil (by decide)) POk.neNil (by subst h; rfl)) (EvOk.blank hn hd hc)
  · rw [if_neg h, if_neg h]
    refine EvOk.ifTrue (TOk.cmp' (EvOk.name hx hdb) (EvOk.list EvLOk.nil (by decide)) POk.neNil ?_) ?_
    · cases ss with
      | nil => exact absurd rfl h
      | cons => rfl
    · rw [← glue_txt]
      exact EvOk.join EvOk.str (EvLOk.cons (EvOk.name hx hdb) EvLOk.nil) (join_fits hs hl (by omega)) (fun _ => rfl) hline

theorem br_cat {k a b : Nat} {l : List Nat} (h : l.length ≤ 400000) : BOk k .Add (.str (txt [a])) (.str (txt l)) (.str (txt ([a] ++ l))) ∧ BOk k .Add (.str (txt ([a] ++ l))) (.str (txt [b])) (.str (txt (([a] ++ l) ++ [b]))) :=
  ⟨cat_ok (by simp; omega), cat_ok (by simp; omega)⟩

theorem value_ends {δ : Draw} (g : δ.Good) {k d w : Nat} (hw : w = 3 ∨ w = 4) {fs ss : List (List Nat)} {vs : List AV} {es : List (Str × AV)} (h1 : ∀ t ∈ fs, t.length ≤ 100000) (h2 : ∀ t ∈ ss, t.length ≤ 100000) (l1 : fs.length ≤ 3) (l2 : ss.length ≤ 3) : ∃ b0 δ', δ'.Good ∧ Blk b0 ∧ b0.length ≤ 2 ∧
    XsOk (k + 2) nm125 (vaS d w fs ss vs es) δ ((bodyOf 125).drop 10) (.ret (.tuple [if w = 3 then .list vs else .dict es, .str (txt ((if w = 3 then 91 else 123) :: (inter fs ++ [if w = 3 then 93 else 125]))), .str (txt ((if w = 3 then 91 else 123) :: ((if ss = [] then b0 else inter ss) ++ [if w = 3 then 93 else 125])))])) (vaS d w fs ss vs es) δ' := by
  obtain ⟨b0, δ1, hb, hl, g1, hc⟩ := blank_ok g
  refine ⟨b0, if ss = [] then δ1 else δ, by split <;> assumption, hb, hl, ?_⟩
  have i1 := inter_len h1
  have i2 := inter_len h2
  have m1 : fs.length * (100000 + 1) ≤ 3 * (100000 + 1) := Nat.mul_le_mul_right _ l1
  have m2 : ss.length * (100000 + 1) ≤ 3 * (100000 + 1) := Nat.mul_le_mul_right _ l2
  have i3 : (if ss = [] then b0 else inter ss).length ≤ 400000 := by split <;> omega
  have c1 := fun a b => br_cat (k := k + 2) (a := a) (b := b) (l := inter fs) (by omega)
  have c2 := fun a b => br_cat (k := k + 2) (a := a) (b := b) i3
  have e91 : Str.ofString "[" = txt [91] := lit91
  have e93 : Str.ofString "]" = txt [93] := lit93
  have e123 : Str.ofString "{" = txt [123] := lit123
  have e125 : Str.ofString "}" = txt [125] := lit125
  rcases hw with rfl | rfl
  · refine XsOk.ret (XOk.ifT (δ1 := δ) (TOk.cmp' (EvOk.name (av := .int ((3 : Nat) : Int)) rfl) EvOk.int POk.eqI rfl) (XsOk.ret (XOk.ret (EvOk.tuple (as := [_, _, _]) (EvLOk.cons (δ1 := δ) (EvOk.name (av := .list vs) rfl) (EvLOk.cons (δ1 := δ) (EvOk.bin (EvOk.bin (by rw [← e91]; exact EvOk.str) ?_ (c1 91 93).1) (by rw [← e93]; exact EvOk.str) (c1 91 93).2) (EvLOk.cons (EvOk.bin (EvOk.bin (by rw [← e91]; exact EvOk.str) (EvOk.joined (ss := ss) rfl rfl rfl h2 (by omega) hc (by decide) rfl) (c2 91 93).1) (by rw [← e93]; exact EvOk.str) (c2 91 93).2) EvLOk.nil))) (by show 3 ≤ sizeLine; decide)))))
    rw [← glue_txt]
    exact EvOk.join EvOk.str (EvLOk.cons (EvOk.name (av := .list (sL fs)) rfl) EvLOk.nil) (join_fits h1 (by omega) (by omega))
  · refine XsOk.cons (ℓ1 := vaS d 4 fs ss vs es) (δ1 := δ) (XOk.ifF (δ1 := δ) (TOk.cmp' (EvOk.name (av := .int ((4 : Nat) : Int)) rfl) EvOk.int POk.eqI rfl) XsOk.nil) ?_
    refine (XsOk.ret (XOk.ret (EvOk.tuple (as := [_, _, _]) (EvLOk.cons (δ1 := δ) (EvOk.name (av := .dict es) rfl) (EvLOk.cons (δ1 := δ) (EvOk.bin (EvOk.bin (by rw [← e123]; exact EvOk.str) ?_ (c1 123 125).1) (by rw [← e125]; exact EvOk.str) (c1 123 125).2) (EvLOk.cons (EvOk.bin (EvOk.bin (by rw [← e123]; exact EvOk.str) (EvOk.joined (ss := ss) rfl rfl rfl h2 (by omega) hc (by decide) rfl) (c2 123 125).1) (by rw [← e125]; exact EvOk.str) (c2 123 125).2) EvLOk.nil))) (by show 3 ≤ sizeLine; decide))))
    rw [← glue_txt]
    exact EvOk.join EvOk.str (EvLOk.cons (EvOk.name (av := .list (sL fs)) rfl) EvLOk.nil) (join_fits h1 (by omega) (by omega))

/-- lists and tables -/
theorem value_nest {δ : Draw} (g : δ.Good) {k n d w : Nat} (hn : n ≤ 2) (hw : w = 3 ∨ w = 4) (R : RecOk (k + 2) n d) : ∃ v l1 l2 δ', v.big = true ∧ δ'.Good ∧ Gen (n + 1) v l1 l2 ∧ ∃ ℓ', XsOk (k + 2) nm125 (vaW d w) δ ((bodyOf 125).drop 5) (.ret (.tuple [v, .str (txt l1), .str (txt l2)])) ℓ' δ' := by
  obtain ⟨r, δ1, hr, g1, hc⟩ := take_ok g (n := 4) (by decide)
  have start : ∀ {fs ss vs es o ℓ' δ2 δ'}, LOk (k + 2) nm125 (vaS d w [] [] [] []) δ1 "k" ((List.range r).map fun i => .int (Int.ofNat i)) vaB .next (vaS d w fs ss vs es) δ2 → XsOk (k + 2) nm125 (vaS d w fs ss vs es) δ2 ((bodyOf 125).drop 10) o ℓ' δ' → XsOk (k + 2) nm125 (vaW d w) δ ((bodyOf 125).drop 5) o ℓ' δ' := fun {fs ss vs es o ℓ' δ2 δ'} hL hx => by
    refine XsOk.cons (δ1 := δ) (ℓ1 := setL "first" (.own []) (vaW d w)) (XOk.assignOwn EvLOk.nil rfl (by decide)) ?_
    refine XsOk.cons (δ1 := δ) (ℓ1 := setL "second" (.own []) (setL "first" (.own []) (vaW d w))) (XOk.assignOwn EvLOk.nil rfl (by decide)) ?_
    refine XsOk.cons (δ1 := δ) (ℓ1 := setL "row" (.own []) (setL "second" (.own []) (setL "first" (.own []) (vaW d w)))) (XOk.assignOwn EvLOk.nil rfl (by decide)) ?_
    refine XsOk.cons (δ1 := δ) (ℓ1 := vaS d w [] [] [] []) (XOk.assignOwnD rfl) ?_
    exact XsOk.cons (δ1 := δ2) (XOk.for (a := .range r) (δ1 := δ1) (EvOk.bcall bn_range rfl (fun _ => nofun) (EvLOk.cons (EvOk.take rfl rfl EvOk.int hc) EvLOk.nil) FOk.range) (ItOk.range (by omega)) hL) hx
  have hpw := pow3 (n := n) (by omega)
  rcases hw with rfl | rfl
  · obtain ⟨rows, δ2, g2, hrow, el, hL⟩ := list_loop' (d := d) (by omega) R ((List.range r).map fun i => .int (Int.ofNat i)) δ1 [] g1 (fun _ h => nomatch h) (by simp; omega)
    simp at el
    have b1 : ∀ t ∈ rows.map (·.2.1), t.length ≤ 100000 := fun t ht => by
      obtain ⟨e, he, rfl⟩ := List.mem_map.mp ht
      have := jtext_len (b := false) n e.1 (hrow e he).good.jok
      rw [(hrow e he).one]; omega
    have b2 : ∀ t ∈ rows.map (·.2.2), t.length ≤ 100000 := fun t ht => by
      obtain ⟨e, he, rfl⟩ := List.mem_map.mp ht
      have := (hrow e he).len
      omega
    obtain ⟨b0, δ3, g3, hb, hbl, hx⟩ := value_ends g2 (k := k) (d := d) (w := 3) (.inl rfl) (vs := rows.map (·.1)) (es := []) b1 b2 (by simp; omega) (by simp; omega)
    have hS := start hL hx
    simp only [if_true, List.map_eq_nil_iff] at hS
    exact ⟨_, _, _, δ3, rfl, g3, gen_list hrow (by omega) hb hbl, _, hS⟩
  · obtain ⟨rows, δ2, g2, hrow, hnd, el, hL⟩ := dict_loop' (d := d) (by omega) R ((List.range r).map fun i => .int (Int.ofNat i)) δ1 [] g1 (fun _ h => nomatch h) (by simp) (by simp; omega)
    simp at el
    have b1 : ∀ t ∈ rows.map (·.2.2.1), t.length ≤ 100000 := fun t ht => by
      obtain ⟨e, he, rfl⟩ := List.mem_map.mp ht
      have h1 := jtext_len (b := false) n e.2.1 (hrow e he).good.jok
      have h2 := esc_len e.1.cps.toList
      have h3 := (hrow e he).key.2
      rw [← str_len] at h3
      rw [(hrow e he).one]
      unfold entryT
      simp only [List.length_cons, List.length_append]
      omega
    have b2 : ∀ t ∈ rows.map (·.2.2.2), t.length ≤ 100000 := fun t ht => by
      obtain ⟨e, he, rfl⟩ := List.mem_map.mp ht
      have := (hrow e he).len
      omega
    obtain ⟨b0, δ3, g3, hb, hbl, hx⟩ := value_ends g2 (k := k) (d := d) (w := 4) (.inr rfl) (vs := []) (es := rows.map fun e => (e.1, e.2.1)) b1 b2 (by simp; omega) (by simp; omega)
    have hS := start hL hx
    simp only [show ¬ (4 = 3) by decide, if_false, List.map_eq_nil_iff] at hS
    exact ⟨_, _, _, δ3, rfl, g3, gen_dict hrow hnd (by omega) hb hbl, _, hS⟩

/-- _law_value -/
theorem value_gen : ∀ (n d : Nat), d + n = 3 → ∀ δ : Draw, δ.Good → ∃ v l1 l2 δ', (d = 0 → v.big = true) ∧ δ'.Good ∧ Gen n v l1 l2 ∧ CallOk (n + 4) 125 [.draw, .int (d : Int)] δ (.ok (.tuple [v, .str (txt l1), .str (txt l2)])) δ' := by
  intro n
  induction n with
  | zero =>
    intro d hd δ g
    obtain ⟨w, δ1, g1, hw6, hw0, fin⟩ := value_start g (d := d)
    by_cases ht : vaTest δ1 d w
    · obtain ⟨v, l, δ2, g2, G, hx⟩ := value_const g1 ht 0
      exact ⟨v, l, l, δ2, fun q => by omega, g2, G, fin (k := 2) hx rfl⟩
    · by_cases h1 : w = 1
      · subst h1
        obtain ⟨v, l, δ2, g2, G, ℓ', hx⟩ := value_number g1 ht 0
        exact ⟨v, l, l, δ2, fun q => by omega, g2, G, fin (k := 2) hx rfl⟩
      · have h2 : w = 2 := by unfold vaTest at ht; omega
        obtain ⟨v, l1, l2, δ2, g2, G, hx⟩ := value_text g1 ht (.inl h2) 0
        exact ⟨v, l1, l2, δ2, fun q => by omega, g2, G, fin (k := 2) hx rfl⟩
  | succ n ih =>
    intro d hd δ g
    have R : RecOk (n + 4) n d := fun δ g => by
      obtain ⟨v, l1, l2, δ', _, h⟩ := ih (d + 1) (by omega) δ g
      exact ⟨v, l1, l2, δ', h⟩
    obtain ⟨w, δ1, g1, hw6, hw0, fin⟩ := value_start g (d := d)
    by_cases ht : vaTest δ1 d w
    · obtain ⟨v, l, δ2, g2, G, hx⟩ := value_const g1 ht (n + 1)
      refine ⟨v, l, l, δ2, fun q => ?_, g2, G, fin (k := n + 3) hx rfl⟩
      have := hw0 q
      unfold vaTest at ht
      omega
    · by_cases h1 : w = 1
      · subst h1
        obtain ⟨v, l, δ2, g2, G, ℓ', hx⟩ := value_number g1 ht (n + 1)
        exact ⟨v, l, l, δ2, fun q => by have := hw0 q; omega, g2, G, fin (k := n + 3) hx rfl⟩
      · by_cases h2 : w = 2 ∨ w = 5
        · obtain ⟨v, l1, l2, δ2, g2, G, hx⟩ := value_text g1 ht h2 (n + 1)
          exact ⟨v, l1, l2, δ2, fun q => by have := hw0 q; omega, g2, G, fin (k := n + 3) hx rfl⟩
        · have h3 : w = 3 ∨ w = 4 := by unfold vaTest at ht; omega
          obtain ⟨v, l1, l2, δ2, hb, g2, G, ℓ', hx⟩ := value_nest g1 (k := n + 2) (by omega) h3 R
          exact ⟨v, l1, l2, δ2, fun _ => hb, g2, G, fin (k := n + 3) (value_mid ht h3 hx) rfl⟩
end Mine

namespace Mine
set_option maxRecDepth 100000

/-! ## a def entered, its body still to be run -/
noncomputable def FCx.of (w : World) (D : DA) (A : Around) (base : Heap) (outer : List Env) (s : Shared) (H : List Addr) (env : Env) : FCx :=
  { C := { w := w, D := D, A := A.deeper env, base := base, outer := outer, fenv := env, env := env, Lf := s.heap.objs.size, H := s.heap.objs.size :: H }, h0 := V D s.heap, s0 := s }

theorem enter_plain {k f fd ps body args δ} (d : DefAt f fd ps body) (hcell : ∀ x ∈ fd.scope.names, x.2 ≠ .cell) (hloc : ∀ p ∈ ps, fd.scope.names.lookup p = some .local) (hlen : ps.length = args.length)
    (hb : ∀ (s : Shared) (vals : List Value), vals.length = ps.length → BindsTo s fd ⟨vals, []⟩ (ps.zip vals))
    {w : World} {D : DA} {A : Around} {base : Heap} {outer : List Env} {s : Shared} {H : List Addr} {vals : List Value} {R : Result → Shared → Prop} (room : Room (k + 1) A) (fr : A.frames = some outer) (gl : Gl w (V D s.heap)) (bs : base.StaysIn (V D s.heap)) (ff : (V D s.heap).FunFrames base outer)
    (dr : DrawAt w D s.heap δ) (hid : ∀ a ∈ H, 154 < a ∧ a < s.heap.objs.size) (dsub : ∀ a ∈ Dl D, a ∈ H) (rd : RdL w D s.heap H vals args)
    (hrun : ∀ (env : Env) (s1 : Shared), (FCx.of w D A base outer s H env).Ok k fd.scope.names → StSt (FCx.of w D A base outer s H env) [] (ps.zip (args.map LV.val)) δ s1 → s.heap.objs.size ≤ s1.heap.objs.size → (V D s.heap).StaysIn (V D s1.heap) →
      env.cells = [] → wpAny (MM w) (A.deeper env) (execs body env) (fun f s' => R (.ok (.ret (match f with | .ret v => v | _ => .none))) s')
        (fun e s' => wpAny (MM w) (A.deeper env) (leaving env e) (fun _ s'' => R (.error e) s'') (fun e' s'' => R (.error e') s'') s') s1) :
    codeAny (MM w) A (.call (.ref f) ⟨vals, []⟩) R s := by
  have hvl := rd.length
  have ho := v_get (gl.1 _ _ (d.obj w))
  have hlim : s.heap.NoLimit := let ⟨_, _, _, T⟩ := gl.2; T.nolimit.keeps v_stays_real
  have hcd : s.heap.CodeRec fd.code fd.qualname := codeRec_of (gl.1.keeps v_stays_real) (d.code w)
  refine codeAny_call_def (fd := fd) (body := body) (binds := ps.zip vals) (by rw [recursionLimit_val]; have := room.depth; omega) ho rfl hlim hcd d.body (hb s vals (by omega)) hcell
    (fun x hx => hloc _ (List.of_mem_zip (a := x.1) (b := x.2) hx).1) (fun h₁ hns hk₁ => ?_) d.coro d.gen d.kind
  have hDlt := dr.lt
  have hLD : s.heap.objs.size ∉ Dl D := fun q => Nat.lt_irrefl _ (hDlt _ q)
  have kst : (V D s.heap).StaysIn (V D h₁) := v_stays fun b o _ e => hk₁ b o e
  have hcl : (callEnv fd s.heap.objs.size f).cells = [] := d.clo
  refine hrun (callEnv fd s.heap.objs.size f) _ ?_ ?_ (Nat.le_of_lt hns.lt) kst hcl
  · exact {
      c := {
        room := ⟨room.handled, room.guards, by show A.depth + 1 + k < 900; have := room.depth; omega, by show A.units + 3 + 20 * k < 9000; have := room.units; omega⟩
        fr := by show A.frames.map ((callEnv fd s.heap.objs.size f) :: ·) = _; rw [fr]; rfl
        ff := rfl
        ef := rfl
        kind := d.kind
        names := rfl
        gl := d.gl
        bl := d.bl
        dsub := fun a ha => List.mem_cons_of_mem _ (dsub a ha) }
      ee := rfl
      loc := rfl
      h0n := by
        show (V D s.heap).get? s.heap.objs.size = none
        cases q : (V D s.heap).get? s.heap.objs.size with
        | none => rfl
        | some o => exact absurd (Heap.lt_size (v_get q)) (Nat.lt_irrefl _)
      cells := fun x c e => by
        have e' : (callEnv fd s.heap.objs.size f).cells.lookup x = some c := e
        rw [hcl] at e'; cases e'
      gl0 := gl
      base0 := bs
      ff0 := ff
      lfH := List.mem_cons_self ..
      szL := Nat.le_refl _ }
  · exact {
      same := ⟨rfl, rfl, rfl⟩
      dr := dr.keep hk₁
      h0 := kst
      hid := fun a ha => by
        have h1 : s.heap.objs.size < h₁.objs.size := hns.lt
        exact (List.mem_cons.mp ha).elim (fun e => e ▸ ⟨gl_big gl, h1⟩) fun h => ⟨(hid a h).1, Nat.lt_trans (hid a h).2 h1⟩
      cel := fun x c e => by
        have e' : (callEnv fd s.heap.objs.size f).cells.lookup x = some c := e
        rw [hcl] at e'; cases e'
      own := fun _ h => nomatch h
      nml := by
        refine ⟨fun x => (ps.zip vals).reverse.lookup x, ?_, fun x lv e => ?_, fun x y lx ly a ex ey ox oy _ _ => ?_⟩
        · obtain ⟨o, es, ep, ho', r'⟩ := hns
          exact ⟨o, es, ep, get_v ho' hLD, r'⟩
        · obtain ⟨hx', av, v, rfl, hv, hr'⟩ := zip_names d.nodup (by omega) rd e
          refine ⟨v, .inl ⟨hloc x hx', hv⟩, ?_⟩
          rw [List.append_nil]
          exact (hr'.fresh (n := s.heap.objs.size) (Nat.le_refl _) fun b hb => (List.mem_cons.mp hb).imp (fun e => Nat.le_of_eq e.symm) id).keep fun b o _ e => hk₁ b o e
        · obtain ⟨_, av, _, rfl, _⟩ := zip_names d.nodup (by omega) rd ex
          cases ox }

/-! ## a def that catches -/
structure CatchOk (k : Nat) (f : Addr) (args : List AV) (δ δ' : Draw) : Prop where
  run : ∀ (w : World) (D : DA) (A : Around) (base : Heap) (outer : List Env) (s : Shared) (H : List Addr) (vals : List Value) (R : Result → Shared → Prop),
    Room k A → A.frames = some outer → Gl w base → base.StaysIn (V D s.heap) → (V D s.heap).FunFrames base outer →
    DrawAt w D s.heap δ → (∀ a ∈ H, 154 < a ∧ a < s.heap.objs.size) → (∀ a ∈ Dl D, a ∈ H) → RdL w D s.heap H vals args →
    (∀ s', Same s s' → base.StaysIn (V D s'.heap) → (V D s.heap).UpToSlots (V D s'.heap) → DrawAt w D s'.heap δ' → R (.ok (.ret (.bool true))) s') →
    codeAny (MM w) A (.call (.ref f) ⟨vals, []⟩) R s

theorem base_V {D : DA} {base h : Heap} {A : Heap} (hb : base.StaysIn (V D A)) (k : base.StaysIn h) : base.StaysIn (V D h) := fun b o e => get_v (k b o e) (v_notin (hb b o e))

/-- try: e except X: return True -/
theorem try_true {F : FCx} {O : List Addr} {ℓ : Loc} {δ δ' : Draw} {s : Shared} {k : Nat} {nm : List (Str × NameKind)} {X : String} {x : Str} (K : F.Ok k nm) (S : StSt F O ℓ δ s) (gb : Gl F.C.w F.C.base) (hX : BName x (.type X)) (hx : nm.lookup x = some .globalImplicit)
    (hexc : isSubtype (.type X) (.type "BaseException") = pure true) (hnt : isSubtype (.type ((Manifest.find? X).elim "type" fun y => y.metatype)) (.type "tuple") = pure false) (hsub : isSubtype (.type X) (.type X) = pure true)
    {e : Expr} (he : EvOk k nm (peek ℓ) δ e (.exc X) δ') {p1 p2 p3 p4 p5 np kk} {Q : Flow → Shared → Prop} {E : Value → Shared → Prop}
    (hq : ∀ s', Same s s' → F.C.base.StaysIn (F.C.v s') → (F.C.v s).UpToSlots (F.C.v s') → DrawAt F.C.w F.C.D s'.heap δ' → Q (.ret (.bool true)) s') (hsw : ∀ env, swapsWith e none p1.line env = pure false := by intro _; rfl) :
    wpAny (MM F.C.w) F.C.A (exec (.Try [.Expr e p1] [.ExceptHandler (some (.Name x np)) none [.Return (some (.Constant (.bool true) kk p2)) p3] p4] [] [] p5) F.C.env) Q E s := by
  refine wpAny_Try_except (wpAny_execs_cons (wpAny_Expr ?_ (by unfold interactive; rw [K.c.kind]; rfl) (hsw _)))
  refine he.run F.C s _ _ K.c (S.evPeek K) (fun v av s1 e1 a1 r1 => nomatch e1) fun ea X' s1 e1 xa => ?_
  cases e1
  rw [K.ee]
  refine noteAny K.c.fr K.c.ff (.inl xa.exc) fun h1 hh1 u1 => ?_
  obtain ⟨a0, hh1⟩ := hh1
  refine wpAny_landsW hh1 fun h2 hh2 u2 => ?_
  obtain ⟨ob, hob, hobc⟩ := hh2.there
  refine wpAny_handleBy_builtin (X := X) (T := X) (b := true) hexc hnt hsub ?_
  refine bname_eval (h := F.C.base) gb hh2.1 hX (by rw [← K.ee]; exact K.c.kind) (by rw [← K.ee]; exact K.c.gl) (by rw [← K.ee]; exact K.c.bl) (by rw [← K.ee]; exact (K.c.kindOf x).trans hx) ⟨rfl, ⟨ob, hob, hobc⟩, ?_⟩
  refine lands_againW hh2 fun h3 hh3 u3 => ?_
  refine wpAny_execs_cons (wpAny_Return_some (wpAny_Constant_bool ?_))
  have u123 := (u1.trans u2).trans u3
  refine hq _ ⟨xa.same.1, xa.same.2.1, xa.same.2.2⟩ (base_V (S.base K) hh3.1) (xa.upto.trans (upto_v u123)) (xa.dr.upto u123)

theorem catch_of {k f fd ps body args δ δ'} (d : DefAt f fd ps body) (hcell : ∀ x ∈ fd.scope.names, x.2 ≠ .cell) (hloc : ∀ p ∈ ps, fd.scope.names.lookup p = some .local) (hlen : ps.length = args.length)
    (hb : ∀ (s : Shared) (vals : List Value), vals.length = ps.length → BindsTo s fd ⟨vals, []⟩ (ps.zip vals)) {X : String} {x : Str} {e : Expr} {p1 p2 p3 p4 p5 np kk rest}
    (hbody : body = .Try [.Expr e p1] [.ExceptHandler (some (.Name x np)) none [.Return (some (.Constant (.bool true) kk p2)) p3] p4] [] [] p5 :: rest) (hX : BName x (.type X)) (hx : fd.scope.names.lookup x = some .globalImplicit)
    (hexc : isSubtype (.type X) (.type "BaseException") = pure true) (hnt : isSubtype (.type ((Manifest.find? X).elim "type" fun y => y.metatype)) (.type "tuple") = pure false) (hsub : isSubtype (.type X) (.type X) = pure true)
    (he : EvOk k fd.scope.names (peek (ps.zip (args.map LV.val))) δ e (.exc X) δ') (hsw : ∀ env, swapsWith e none p1.line env = pure false) : CatchOk (k + 1) f args δ δ' := by
  constructor; intro w D A base outer s H vals R room fr gb bs ff dr hid dsub rd hok
  refine enter_plain d hcell hloc hlen hb room fr (gb.keeps bs) bs ff dr hid dsub rd fun env s1 K S z1 k1 hc => ?_
  rw [hbody]
  refine wpAny_execs_cons (try_true (F := FCx.of w D A base outer s H env) K S gb hX hx hexc hnt hsub he (fun s' sm st up dr' => ?_) hsw)
  exact hok s' (S.same.trans sm) st ((Heap.UpToSlots.of_keeps k1).trans up) dr'

theorem def_132 : DefAt 132 (fdOf 132) ["text"] (bodyOf 132) := ⟨fun _ => rfl, fun _ => rfl, rfl, rfl, rfl, rfl, rfl, rfl, rfl, by decide⟩
theorem def_139 : DefAt 139 (fdOf 139) ["value"] (bodyOf 139) := ⟨fun _ => rfl, fun _ => rfl, rfl, rfl, rfl, rfl, rfl, rfl, rfl, by decide⟩
/-- _law_refused -/
theorem refused_ok {k δ δ'} {x : Str} (h : CallOk k 92 [.str x] δ (.exc "ValueError") δ') : CatchOk (k + 1) 132 [.str x] δ δ' :=
  catch_of def_132 (by decide) (by decide) rfl (fun s vals hv => by
    match vals, hv with
    | [a], _ => exact BindsTo.of_eq rfl) rfl bn_ValueError rfl PySem.F.isExc_ValueError PySem.F.notTuple_ValueError (by rw [isSubtype_type]; kernel_rfl)
    (EvOk.call gn_json_value rfl fn_92 (EvLOk.cons (EvOk.name (av := .str x) rfl) EvLOk.nil) h) (fun _ => rfl)
/-- _law_unwritten -/
theorem unwritten_ok {k δ δ'} {v : AV} (h : CallOk k 36 [v, cA, oA] δ (.exc "TypeError") δ') : CatchOk (k + 1) 139 [v] δ δ' :=
  catch_of def_139 (by decide) (by decide) rfl (fun s vals hv => by
    match vals, hv with
    | [a], _ => exact BindsTo.of_eq rfl) rfl bn_TypeError rfl PySem.F.isExc_TypeError PySem.F.notTuple_TypeError (by rw [isSubtype_type]; kernel_rfl)
    (EvOk.call gn_json_text rfl fn_36 (EvLOk.cons (EvOk.name (av := v) rfl) (EvLOk.cons EvOk.str (EvLOk.cons EvOk.str EvLOk.nil))) h) (fun _ => rfl)
end Mine

namespace Mine
set_option maxRecDepth 100000

theorem lk_list_keys : typeLookup (.type "list") "keys" = pure none := am_miss_of_fast (by kernel_rfl)
/-- a list has no attribute 'keys' -/
theorem no_keys {w : World} {A : Around} {E : Value → Shared → Prop} {s : Shared} {a : Addr} {xs : Array Value} {Q : Option Value → Shared → Prop} (hx : s.heap.PlainList a xs) (hA : A.handled = none)
    (h : ∀ h' tk, (∀ b o, s.heap.get? b = some o → h'.get? b = some o) → Q none { s with heap := h', toks := tk }) : wpAny (MM w) A (getAttr? (.ref a) "keys") Q E s := by
  obtain ⟨k, hx⟩ := hx
  obtain ⟨hp, g, d, tk, os⟩ := s
  have hT : ∀ tk', (⟨hp, g, d, tk', os⟩ : Shared).TypeIs (.ref a) "list" := fun _ => ⟨_, hx, rfl⟩
  have f1 := sub_AttributeError
  have f3 := F.slot_list_getattribute.lookup
  have f4 := F.slot_list_getattribute.bind (.ref a)
  have f5 := am_list_getattr_none
  unfold getAttr? getAttrBy? getAttrBy
  repeat (any_goals (first | assumption | exact hT _ | ((with_reducible show wpAny _ _ (call (Value.builtin "list.__getattribute__") _ _) _ _ _); refine call_meets F.slot_list_getattribute (hT _) am_entry_list_getattribute (F.args_list_getattribute_2 _ _) (meets_getattribute_miss_list a xs k #[] "keys" _ lk_list_keys (by decide +kernel) (by decide)) ⟨hx, hA, fun h' tk' e hx' => ?_⟩) | wp_step))
  obtain ⟨t', u', he⟩ := hx'.there
  show wpAny _ _ (getattributeRaised _ _ _ _ _ _ _) _ _ _
  unfold getattributeRaised
  repeat (any_goals (first | assumption | wp_step))
  exact h _ _ hx'.keeps

theorem entry_upd_loop : entryFor table "dict.update.loop" = some Builtin.«dict.update.loop» := entryFor_of_tree (by kernel_rfl)
theorem plain_upd_loop : plainId "dict.update.loop" = true := by decide +kernel

theorem pairs_loop {w : World} {D : DA} {H : List Addr} {d I : Addr} {fp : List Addr} {n : Nat} {P : Nat → Value → Prop} {St : Nat → Heap → Prop} (W : ∀ A' : Around, A'.handled = none → Walks pw w A' I fp [I] n P St) (hfp : d ∉ fp) (hd : d ∈ H) (hI : I ∈ H) (hdI : d ≠ I) :
    ∀ (rest es : List (Str × AV)) (i : Nat) (A : Around) (R : Result → Shared → Prop) (s : Shared) (kvs : List (Str × Value)), A.handled = none → i + rest.length = n → St i s.heap →
      (∀ j v, j < rest.length → P (i + j) v → ∃ p, rest[j]? = some p ∧ Rd w D s.heap H v (.tuple [.str p.1, p.2])) → s.heap.DictOf (PySem.strKind pw w) d kvs → kvs.map (·.1) = es.map (·.1) → RdL w D s.heap H (kvs.map (·.2)) (es.map (·.2)) →
      ((es ++ rest).map (·.1)).Nodup → es.length + rest.length ≤ 100 →
      (∀ h' tk kvs', h'.DictOf (PySem.strKind pw w) d kvs' → kvs'.map (·.1) = (es ++ rest).map (·.1) → RdL w D h' H (kvs'.map (·.2)) ((es ++ rest).map (·.2)) → (∀ b o, b ≠ d → b ≠ I → s.heap.get? b = some o → h'.get? b = some o) → R (.ok (.ret .none)) { s with heap := h', toks := tk }) →
      codeAny (MM w) A (.builtin "dict.update.loop" ⟨[.ref d, .ref I, rawInt i, .none], []⟩) R s
  | [], es, i, A, R, s, kvs, hA, hi, hst, hP, hdo, hk, hr, hn, hl, hR => by
    refine codeAny_builtin entry_upd_loop ?_
    rw [Around.under_plainId plain_upd_loop _]
    have : i = n := by simpa using hi
    subst this
    unfold Builtin.«dict.update.loop»
    show wpAny (MM w) A.in1 (pyNext (.ref I) >>= _) _ _ s
    refine wpAny_bind ((W A.in1 hA).done s _ _ hst fun h' tk hk' => ?_)
    show wpAny (MM w) A.in1 (Builtin.Dict.addKeywords d [] >>= _) _ _ _
    refine wpAny_bind (wpAny_pure (wpAny_pure ?_))
    have hk1 : ∀ b o, b ≠ I → s.heap.get? b = some o → h'.get? b = some o := fun b o hb e => hk' b o (by simpa using hb) e
    refine hR h' tk kvs ?_ (by simpa using hk) (by simpa using hr.keep fun b o hb e => hk1 b o (fun q => hb (q ▸ hI)) e) fun b o _ hb e => hk1 b o hb e
    obtain ⟨o, es', ep, ho, r⟩ := hdo
    exact ⟨o, es', ep, hk1 d o hdI ho, r⟩
  | p :: rest, es, i, A, R, s, kvs, hA, hi, hst, hP, hdo, hk, hr, hn, hl, hR => by
    refine codeAny_builtin entry_upd_loop ?_
    rw [Around.under_plainId plain_upd_loop _]
    unfold Builtin.«dict.update.loop»
    show wpAny (MM w) A.in1 (pyNext (.ref I) >>= _) _ _ s
    refine wpAny_bind ((W A.in1 hA).item i s _ _ (by simp at hi; omega) hst fun v h1 tk hv hst1 hk' => ?_)
    have hk1 : ∀ b o, b ≠ I → s.heap.get? b = some o → h1.get? b = some o := fun b o hb e => hk' b o (by simpa using hb) e
    have kH1 : Keep H s.heap h1 := fun b o hb e => hk1 b o (fun q => hb (q ▸ hI)) e
    obtain ⟨p', hp', hrd⟩ := hP 0 v (by simp) hv
    have : p = p' := by simpa using hp'
    subst this
    cases hrd.keep kH1 with | @tuple T items _ g1 g2 g3 =>
    generalize hL : items.toList = L at g3
    cases g3 with | cons r1 r2 =>
    cases r2 with | cons r2 r3 =>
    cases r3
    cases r1 with | str _ tk' =>
    rename_i y
    have hdo1 : h1.DictOf (PySem.strKind pw w) d kvs := by
      obtain ⟨o, es', ep, ho, r⟩ := hdo
      exact ⟨o, es', ep, hk1 d o hdI ho, r⟩
    obtain ⟨oT, hoT, hcT, nT, hdT⟩ := g1
    dsimp only
    refine wpAny_bind (wpAny_holding (wpAny_bind (wpAny_tryCatch ?_)))
    unfold Builtin.Dict.pairItems
    refine wpAny_bind (wpAny_typeOf (T := "tuple") ⟨oT, hoT, hcT⟩ ?_)
    rw [if_pos (by decide)]
    refine wpAny_bind ?_
    unfold seqItems?
    refine wpAny_bind (wpAny_load hoT ?_)
    rw [hdT]
    refine wpAny_pure (wpAny_pure ?_)
    show wpAny (MM w) A.in1 (match items.toList with | [k, v] => _ | l => _) _ _ _
    rw [hL]
    dsimp only
    have hlen' : kvs.length = es.length := by have := congrArg List.length hk; simpa using this
    have hnew : p.1 ∉ kvs.map (·.1) := by
      rw [hk]
      rw [List.map_append, List.nodup_append] at hn
      intro q
      exact hn.2.2 _ q _ (by simp) rfl
    have hst' : stored kvs p.1 y = kvs ++ [(p.1, y)] := by
      unfold stored
      rw [if_neg]
      intro q
      simp only [List.any_eq_true, decide_eq_true_eq] at q
      obtain ⟨kv, q1, q2⟩ := q
      exact hnew (List.mem_map.mpr ⟨kv, q1, q2⟩)
    refine wpAny_holding (wpAny_dictSet_pairs (knd := PySem.strKind pw w) (k := p.1) (by simp [PySem.strKind, Value.isStrOf]) hdo1 (fun h2 hd2 hs2 => ?_) (by rw [sizeLine_eq]; omega))
    rw [hst'] at hd2
    have hs2' : ∀ b o, b ≠ d → h1.get? b = some o → h2.get? b = some o := fun b o hb e => hs2.extBut b o hb e
    have kH2 : Keep H h1 h2 := fun b o hb e => hs2' b o (fun q => hb (q ▸ hd)) e
    have kH : Keep H s.heap h2 := fun b o hb e => kH2 b o hb (kH1 b o hb e)
    refine wpAny_pure ⟨plainId_quiet plain_upd_loop _, ?_⟩
    have ei : rawInt ((i : Int) + 1) = rawInt ((i + 1 : Nat) : Int) := by push_cast; rfl
    rw [ei]
    refine pairs_loop (D := D) W hfp hd hI hdI rest (es ++ [p]) (i + 1) A R _ (kvs ++ [(p.1, y)]) hA (by simp at hi; omega) ((W A hA).frame _ _ _ hst1 fun b hb o e => hs2' b o (fun q => hfp (q ▸ hb)) e) (fun j v hj hv => ?_) hd2 (by simp [hk]) ?_ (by simpa using hn) (by simp at hl ⊢; omega) fun h' tk' kvs' q1 q2 q3 q4 => ?_
    · obtain ⟨p2, e1, e2⟩ := hP (j + 1) v (by simpa using hj) (by rw [show i + (j + 1) = i + 1 + j by omega]; exact hv)
      exact ⟨p2, by simpa using e1, e2.keep kH⟩
    · rw [List.map_append, List.map_append]
      exact (hr.keep kH).append (.cons (r2.keep kH2) .nil)
    · have ea : es ++ [p] ++ rest = es ++ p :: rest := by simp
      rw [ea] at q2 q3
      exact hR h' tk' kvs' q1 q2 q3 fun b o b1 b2 e => q4 b o b1 b2 (hs2' b o b1 (hk1 b o b2 e))

/-! ## dict(list of pairs) -/
structure EvPl (k : Nat) (nm : List (Str × NameKind)) (σ : List (Str × AV)) (δ : Draw) (e : Expr) (xs : List AV) (δ' : Draw) : Prop where
  run : ∀ (C : Cx) (s : Shared) (Q : Value → Shared → Prop) (E : Value → Shared → Prop), C.Ok k nm → EvSt C σ δ s →
    (∀ l items s', Aft C s s' δ' → s'.heap.PlainList l items → l ∉ C.H → l ≠ sysModules → RdL C.w C.D s'.heap C.H items.toList xs → Q (.ref l) s') →
    wpAny (MM C.w) C.A (eval e C.env) Q E s

section
variable {k : Nat} {nm : List (Str × NameKind)} {σ : List (Str × AV)} {δ δ1 : Draw}
theorem EvPl.listComp {nm' σc x scope} {elt iter : Expr} {px : Pos} {ifs : List Expr} {pos : Pos} {a : AV} {items vs : List AV} (h1 : EvOk k nm σ δ iter (.ok a) δ1) (hi : ItOk a items) (P : CScope nm nm' σ σc x scope) (hR : CompR k nm' σc δ1 x ifs elt items (.ok vs)) (hsz : items.length ≤ sizeLine)
    (hs : ∀ env v, foldedSetIterable iter env v = pure v := by intro _ _; rfl) : EvPl k nm σ δ (.ListComp elt [⟨.Name x px, iter, ifs, 0⟩] scope pos) vs δ1 := by
  constructor; intro C s Q E O S hq
  rw [eval_ListComp]
  refine comp_eval O S h1 hi P hR hsz hs (fun s1 s' I D L vs' e a1 w3 c => ?_) fun s1 s' I D L e X er _ _ _ _ _ _ _ => nomatch er
  cases e
  obtain ⟨m, hm⟩ := c.ns
  refine ⟨m, hm.keeps v_stays_real, fun h' hs' => ?_⟩
  have S1 := S.aft O a1
  obtain ⟨a2, _⟩ := c.fin (t := s'.toks) S1 w3 hs'
  obtain ⟨ys, hys, hrd⟩ := c.acc
  have hk : ∀ b o, b ≠ L → s'.heap.get? b = some o → h'.get? b = some o := fun b o hb e => hs'.extBut b o hb e
  have hD : s1.heap.objs.size ≤ D := w3.fr.2.1
  refine hq D ys _ (a1.trans a2) (hys.at fun o e => hk _ o w3.dl e) (fun q => Nat.lt_irrefl _ (Nat.lt_of_lt_of_le (S1.hid _ q).2 hD)) (ne_sys_of (Nat.lt_of_lt_of_le (gl_big S1.gl) hD)) ?_
  exact (hrd.keep fun b o hb e => hk b o (fun q => hb (comp_mem (by simp [q]))) e).weak fun b hb => List.mem_append_left _ hb

theorem EvOk.dictOf {e np pos} {es : List (Str × AV)} (hx : nm.lookup (Str.ofString "dict") = some .globalImplicit) (h : EvPl k nm σ δ e (es.map fun p => .tuple [.str p.1, p.2]) δ1) (hn : (es.map (·.1)).Nodup) (hl : es.length ≤ 50)
    (hs : ∀ env, starEach [e] env = (false, eval e env) :: starEach [] env := by intro _; rfl) : EvOk k nm σ δ (.Call (.Name "dict" np) [e] [] pos) (.ok (.dict es)) δ1 := by
  constructor; intro C s Q E O S hq he
  refine wpAny_Call_ofName (bname_eval S.gl v_stays_real bn_dict O.kind O.gl O.bl ((O.kindOf _).trans hx) ?_)
  refine callWith_any (fun _ => nofun) (by rw [any_backTo, hs]; rfl) ?_
  refine wpAny_items_cons (h.run C s _ _ O S fun l items s1 a1 hpl hlH hls hrd => ?_) (hs _)
  refine wpAny_items_nil ?_
  have S1 := S.aft O a1
  have hA := O.room.handled
  let Dn := s1.heap.objs.size
  have hl0 : l < s1.heap.objs.size := let ⟨_, e⟩ := hpl; Heap.lt_size e
  refine callType_codes (Q₁ := fun obj s₁ => obj = .ref Dn ∧ s₁ = { s1 with heap := s1.heap.push { cls := .type "dict", data := .dict #[] } }) F.kt_called_dict (F.kt_typeCall_dict_1 _) F.entry_dict_init (kt_code_dict_new _ ⟨rfl, rfl⟩) ?_
  rintro obj s₁ ⟨rfl, rfl⟩
  have hnew : (s1.heap.push { cls := .type "dict", data := .dict #[] }).DictOf (PySem.strKind pw C.w) Dn [] := Heap.DictOf.new s1.heap
  refine ⟨hnew.typeIs, F.args_dict_init_2 _ _, ?_⟩
  unfold Builtin.«dict.__init__»
  refine wpAny_bind ?_
  unfold Builtin.Dict.selfAndRest
  refine wpAny_bind (wpAny_notOrdered_dict hnew.typeIs ?_)
  show wpAny _ _ (pure (Dn, [Value.ref l])) _ _ _
  refine wpAny_pure ?_
  show wpAny _ _ (Builtin.Dict.updateFrom "dict.__init__" Dn (.ref l) [] .none) _ _ _
  have hpl1 : (s1.heap.push { cls := .type "dict", data := .dict #[] }).PlainList l items := hpl.at fun o e => Heap.get?_push_of_some _ e
  unfold Builtin.Dict.updateFrom
  refine wpAny_bind (wpAny_typeOf (T := "list") hpl1.isList.typeIs ?_)
  rw [if_pos (by decide)]
  refine wpAny_bind (wpAny_size (no_keys hpl1 hA fun h2 tk hk2 hz2 => ?_))
  rw [if_pos (show (Option.none : Option Value).isNone = true from rfl)]
  refine wpAny_bind (wpAny_rule ?_)
  have hk02 : ∀ b o, s1.heap.get? b = some o → h2.get? b = some o := fun b o e => hk2 b o (Heap.get?_push_of_some _ e)
  have hnew2 : h2.DictOf (PySem.strKind pw C.w) Dn [] := by
    obtain ⟨o, es', ep, ho, r⟩ := hnew
    exact ⟨o, es', ep, hk2 _ _ ho, r⟩
  have hz2' : Dn < h2.objs.size := by
    have : (s1.heap.push { cls := .type "dict", data := .dict #[] }).objs.size ≤ h2.objs.size := hz2
    rw [Heap.size_push] at this
    exact this
  have hpl2 := hpl1.at (h' := h2) fun o e => hk2 _ o e
  refine wpAny_bind (wpAny_pyIter_list (s := { s1 with heap := h2, toks := tk }) hpl2.isList ?_)
  refine wpAny_pure ⟨plainId_quiet plain_upd_loop _, ?_⟩
  have hI : (s1.heap.push { cls := .type "dict", data := .dict #[] }).objs.size ≤ h2.objs.size := hz2
  have nIl : l ≠ h2.objs.size := Nat.ne_of_lt (Nat.lt_trans hl0 hz2')
  have fresh : ∀ {v av}, Rd C.w C.D s1.heap C.H v av → Rd C.w C.D s1.heap (C.H ++ [Dn, h2.objs.size]) v av := fun {v av} r => r.fresh (Nat.le_refl _) fun b hb => by
    rcases List.mem_append.mp hb with hb | hb
    · exact .inr hb
    · simp only [List.mem_cons, List.not_mem_nil, or_false] at hb
      rcases hb with rfl | rfl
      · exact .inl (Nat.le_refl _)
      · exact .inl (Nat.le_of_lt hz2')
  have hlen := hrd.length
  rw [List.length_map, Array.length_toList] at hlen
  refine pairs_loop (w := C.w) (D := C.D) (H := C.H ++ [Dn, h2.objs.size]) (d := Dn) (I := h2.objs.size) (fp := [h2.objs.size, l]) (n := es.length) (P := fun i v => items[i]? = some v) (St := fun i h => h.IsListIter h2.objs.size l i ∧ h.IsList l items)
    (fun A' hA' => walk_to hlen (Walks.list hA' _ _ nIl items)) (fun q => ?_) (by simp) (by simp) (fun q => Nat.lt_irrefl _ (q ▸ hz2')) es [] 0 _ _ _ [] hA (by simp) ⟨⟨_, Heap.get?_push_size _ rfl, rfl, rfl⟩, hpl2.isList.push _⟩ (fun j v hj hv => ?_) ?_ rfl .nil (by simpa using hn) (by simpa using Nat.le_trans hl (by decide)) fun h' tk' kvs' q1 q2 q3 q4 => ?_
  · simp only [List.mem_cons, List.not_mem_nil, or_false] at q
    rcases q with q | q
    · exact Nat.lt_irrefl _ (q ▸ hz2')
    · exact Nat.lt_irrefl _ (q ▸ hl0)
  · obtain ⟨av, e1, r1⟩ := hrd.pick (i := j) (v := v) (by rw [Array.getElem?_toList]; simpa using hv)
    rw [List.getElem?_map, Option.map_eq_some_iff] at e1
    obtain ⟨p, e1, rfl⟩ := e1
    exact ⟨p, e1, (fresh r1).keep fun b o _ e => Heap.get?_push_of_some _ (hk02 b o e)⟩
  · obtain ⟨o, es', ep, ho, r⟩ := hnew2
    exact ⟨o, es', ep, Heap.get?_push_of_some _ ho, r⟩
  · have hkeep : ∀ b o, s1.heap.get? b = some o → h'.get? b = some o := fun b o e => q4 b o (fun q => Nat.lt_irrefl _ (q ▸ Heap.lt_size e)) (fun q => Nat.lt_irrefl _ (Nat.lt_trans (q ▸ Heap.lt_size e) hz2')) (Heap.get?_push_of_some _ (hk02 b o e))
    have hz : s1.heap.objs.size ≤ h'.objs.size := by
      obtain ⟨o, es', ep, ho, r⟩ := q1
      exact Nat.le_of_lt (Heap.lt_size ho)
    refine ⟨rfl, hq _ _ _ rfl (a1.trans (Aft.of_keep S1 hkeep hz)) (.dict q1 (hid_push S1) (ne_sys_size S1.gl) q2 (q3.weak fun b hb => List.mem_append_left _ hb))⟩
end
end Mine

namespace Mine
set_option maxRecDepth 100000

/-! ## _law_turned -/
noncomputable def turnN : Nat → AV → AV
  | _, .none => .none
  | _, .bool b => .bool b
  | _, .int b => .int b
  | _, .str b => .str b
  | n + 1, .list xs => .list (xs.map (turnN n))
  | n + 1, .dict es => .dict (es.reverse.map fun e => (e.1, turnN n e.2))
  | _, v => v
theorem def_144 : DefAt 144 (fdOf 144) ["value"] (bodyOf 144) := ⟨fun _ => rfl, fun _ => rfl, rfl, rfl, rfl, rfl, rfl, rfl, rfl, by decide⟩
noncomputable abbrev nm144 : List (Str × NameKind) := (fdOf 144).scope.names
noncomputable def vlL (v : AV) : Loc := [("value", .val v)]
noncomputable def nmT1 : List (Str × NameKind) := relabelN nm144 [(".0", .local), ("one", .local), ("_law_turned", .globalImplicit)]
noncomputable def nmT2 : List (Str × NameKind) := relabelN nm144 [(".0", .local), ("key", .local), ("_law_turned", .globalImplicit), ("value", .free)]
theorem loc144 : ∀ n, ∀ p ∈ (["value"] : List Str), (fdOf 144).scope.names.lookup p = some .local ∨ ((fdOf 144).scope.names.lookup p = some .cell ∧ ((cellsFrom n (fdOf 144).scope.names []).lookup p).isSome = true) := by
  intro n p hp
  simp only [List.mem_cons, List.not_mem_nil, or_false] at hp
  subst hp
  exact .inr ⟨rfl, rfl⟩
theorem tu_call {k δ v o ℓ' δ' r} (hx : XsOk k nm144 (vlL v) δ (bodyOf 144) o ℓ' δ') (hr : o.res = some r) : CallOk (k + 1) 144 [v] δ r δ' :=
  CallOk.cells (dargs := []) [] def_144 (fun _ _ _ _ => .nil) loc144 rfl (fun w s vals hv hi => by
    match vals, hv with
    | [a1], _ => exact BindsTo.of_eq rfl) hx hr

theorem map_get {α β : Type} {f : α → β} {l : List α} {j : Nat} {t : β} (h : (l.map f)[j]? = some t) : ∃ a, l[j]? = some a ∧ f a = t := by
  rw [List.getElem?_map, Option.map_eq_some_iff] at h
  exact h

theorem tu_list {k δ xs} {f : AV → AV} (hf : ∀ x ∈ xs, CallOk k 144 [x] δ (.ok (f x)) δ) (hl : xs.length ≤ 10) : CallOk (k + 1) 144 [.list xs] δ (.ok (.list (xs.map f))) δ := by
  refine tu_call (o := .ret (.list (xs.map f))) (ℓ' := vlL (.list xs)) (XsOk.ret (XOk.ifT (δ1 := δ) ((TOk.val (isi_name bn_list rfl rfl rfl (FOk.isiList (v := .list xs) rfl))).of rfl) (XsOk.ret (XOk.ret ?_)))) rfl
  refine EvOk.listComp (res := .ok (xs.map f)) (nm' := nmT1) (σc := []) (EvOk.name (av := .list xs) rfl) ItOk.list ?_ (comp_all (by simp) fun j a t ha ht => ?_) (by rw [sizeLine_eq]; omega)
  · exact ⟨rfl, by decide, by decide, rfl, rfl, rfl, (fun y hy => nomatch hy), fun p hp => nomatch hp⟩
  · obtain ⟨a', h1, rfl⟩ := map_get ht
    rw [ha] at h1; cases h1
    exact EvOk.call gn_law_turned rfl fn_144 (EvLOk.cons (EvOk.name (av := a) rfl) EvLOk.nil) (hf a (List.mem_of_getElem? ha))

theorem tu_dict {k δ} {es : List (Str × AV)} {f : AV → AV} (hf : ∀ e ∈ es, CallOk k 144 [e.2] δ (.ok (f e.2)) δ) (hn : (es.map (·.1)).Nodup) (hl : es.length ≤ 10) : CallOk (k + 1) 144 [.dict es] δ (.ok (.dict (es.reverse.map fun e => (e.1, f e.2)))) δ := by
  refine tu_call (o := .ret (.dict (es.reverse.map fun e => (e.1, f e.2)))) (ℓ' := vlL (.dict es)) (XsOk.cons (ℓ1 := vlL (.dict es)) (δ1 := δ) (XOk.ifF (δ1 := δ) ((TOk.val (isi_name bn_list rfl rfl rfl (FOk.isiList (v := .dict es) rfl))).of rfl) XsOk.nil) (XsOk.ret (XOk.ifT (δ1 := δ) ((TOk.val (isi_name bn_dict rfl rfl rfl (FOk.isiDict (v := .dict es) rfl))).of rfl) (XsOk.ret (XOk.ret ?_))))) rfl
  refine EvOk.dictOf rfl (EvPl.listComp (nm' := nmT2) (σc := [("value", .dict es)]) (items := es.reverse.map fun e => .str e.1) (EvOk.sliceRev (EvOk.bcall bn_list rfl (fun _ => nofun) (EvLOk.cons (EvOk.name (av := .dict es) rfl) EvLOk.nil) (FOk.listOfDict (by rw [sizeLine_eq]; omega))) (by rw [sizeLine_eq]; simp; omega)) ?_ ?_ (comp_all (by simp) fun j a t ha ht => ?_) (by rw [sizeLine_eq]; simp; omega)) ?_ (by simp; omega)
  · rw [List.map_reverse]; exact ItOk.list
  · exact ⟨rfl, by decide, by decide, rfl, rfl, rfl, (by show ∀ y ∈ (["value"] : List Str), _; decide), fun p hp => by
      simp only [List.mem_cons, List.not_mem_nil, or_false] at hp
      subst hp; rfl⟩
  · obtain ⟨e, h1, rfl⟩ := map_get ha
    obtain ⟨e', h2, h3⟩ := map_get ht
    obtain ⟨e'', h4, h5⟩ := map_get h2
    rw [h1] at h4; cases h4
    subst h5
    have hm : e ∈ es := List.mem_reverse.mp (List.mem_of_getElem? h1)
    rw [← h3]
    refine EvOk.tuple (EvLOk.cons (EvOk.name (av := .str e.1) rfl) (EvLOk.cons (δ1 := δ) (EvOk.call gn_law_turned rfl fn_144 (EvLOk.cons (δ1 := δ) (EvOk.sub (EvOk.name (av := .dict es) rfl) (EvOk.name (av := .str e.1) rfl) (GOk.dict (getE_of_mem hn hm))) EvLOk.nil) (hf e hm)) EvLOk.nil)) (by show 2 ≤ sizeLine; decide)
  · rw [List.map_map, List.map_reverse]
    exact (List.reverse_perm _).nodup_iff.mpr hn

theorem tu_leaf {k δ v} (hd : v.data = true) (h1 : v.isList = false) (h2 : v.isDict = false) : CallOk (k + 1) 144 [v] δ (.ok v) δ := by
  refine tu_call (o := .ret v) (ℓ' := vlL v) (XsOk.cons (ℓ1 := vlL v) (δ1 := δ) (XOk.ifF (δ1 := δ) ((TOk.val (isi_name bn_list rfl rfl rfl (FOk.isiList hd))).of h1) XsOk.nil) (XsOk.cons (ℓ1 := vlL v) (δ1 := δ) (XOk.ifF (δ1 := δ) ((TOk.val (isi_name bn_dict rfl rfl rfl (FOk.isiDict hd))).of h2) XsOk.nil) (XsOk.ret (XOk.ret (EvOk.name rfl))))) rfl

theorem turned_ok {δ} : ∀ (n : Nat) (v : AV), GoodN n v → CallOk (n + 1) 144 [v] δ (.ok (turnN n v)) δ
  | n, .none, _ => by unfold turnN; exact tu_leaf (v := .none) rfl rfl rfl
  | n, .bool b, _ => by unfold turnN; exact tu_leaf (v := .bool b) rfl rfl rfl
  | n, .int b, _ => by unfold turnN; exact tu_leaf (v := .int b) rfl rfl rfl
  | n, .str b, _ => by unfold turnN; exact tu_leaf (v := .str b) rfl rfl rfl
  | n + 1, .list xs, h => by
    unfold GoodN at h
    unfold turnN
    exact tu_list (fun x hx => turned_ok n x (h.2 x hx)) (by have := h.1; omega)
  | n + 1, .dict es, h => by
    unfold GoodN at h
    unfold turnN
    exact tu_dict (fun e he => turned_ok n e.2 (h.2.2 e he).2) h.2.1 (by have := h.1; omega)
  | 0, .list _, h => by unfold GoodN at h; exact h.elim
  | 0, .dict _, h => by unfold GoodN at h; exact h.elim
  | n, .bytes _, h => by unfold GoodN at h; exact h.elim
  | n, .tuple _, h => by unfold GoodN at h; exact h.elim
  | n, .idict _, h => by unfold GoodN at h; exact h.elim
  | n, .draw, h => by unfold GoodN at h; exact h.elim
  | n, .cells, h => by unfold GoodN at h; exact h.elim
  | n, .typ _, h => by unfold GoodN at h; exact h.elim
  | n, .range _, h => by unfold GoodN at h; exact h.elim
  | n, .types _, h => by unfold GoodN at h; exact h.elim
  | n, .raw _, h => by unfold GoodN at h; exact h.elim
end Mine

namespace Mine
set_option maxRecDepth 100000

/-! ## _law_in_order -/
theorem FOk.allT {k} {xs : List AV} (h : ∀ x ∈ xs, x = .bool true) : FOk k (.builtin "all") [.list xs] (.bool true) := by
  constructor; intro C σ δ s vals Q E nm O S r hq
  cases r with | cons r1 r2 =>
  cases r2
  cases r1 with | @list l items _ g1 g2 gs g3 =>
  have hl0 : l < s.heap.objs.size := let ⟨_, ho, _⟩ := g1; Heap.lt_size ho
  refine wpAny_size (call_all_walk (wpAny_pyIter_list g1 ⟨s.heap.objs.size, [s.heap.objs.size, l], [s.heap.objs.size], items.size, fun i v => items[i]? = some v, fun i h => h.IsListIter s.heap.objs.size l i ∧ h.IsList l items, fun _ => true, rfl,
    Walks.list (A := C.A.in1) O.room.handled _ _ (Nat.ne_of_lt hl0) items, ⟨⟨_, Heap.get?_push_size _ rfl, rfl, rfl⟩, g1.push _⟩, fun i v s' Q' E' hv hQ => ?_, fun h' tk hk hz => ?_⟩))
  · obtain ⟨a, ha, ra⟩ := g3.pick (i := i) (v := v) (by rw [Array.getElem?_toList]; exact hv)
    have := h a (List.mem_of_getElem? ha)
    subst this
    cases ra
    exact wpAny_truthy_bool hQ
  · rw [show (List.range items.size).all (fun _ => true) = true by simp]
    refine hq _ _ (Aft.of_keep S (fun b o e => hk b o (fun q => ?_) (Heap.get?_push_of_some _ e)) hz) (.bool true)
    have : b = s.heap.objs.size := by simpa using q
    exact Nat.lt_irrefl _ (this ▸ Heap.lt_size e)

noncomputable def InOrd : Nat → AV → Prop
  | _, .none => True
  | _, .bool _ => True
  | _, .int _ => True
  | _, .str _ => True
  | n + 1, .list xs => xs.length ≤ 10 ∧ ∀ x ∈ xs, InOrd n x
  | n + 1, .dict es => es.length ≤ 3 ∧ (es.map (·.1)).Nodup ∧ sortS (es.map (·.1)) = es.map (·.1) ∧ ∀ e ∈ es, InOrd n e.2
  | _, _ => False
theorem def_149 : DefAt 149 (fdOf 149) ["value"] (bodyOf 149) := ⟨fun _ => rfl, fun _ => rfl, rfl, rfl, rfl, rfl, rfl, rfl, rfl, by decide⟩
noncomputable abbrev nm149 : List (Str × NameKind) := (fdOf 149).scope.names
noncomputable def nmO1 : List (Str × NameKind) := relabelN nm149 [(".0", .local), ("one", .local), ("_law_in_order", .globalImplicit)]
noncomputable def nmO2 : List (Str × NameKind) := relabelN nm149 [(".0", .local), ("key", .local), ("_law_in_order", .globalImplicit), ("value", .free)]
theorem loc149 : ∀ n, ∀ p ∈ (["value"] : List Str), (fdOf 149).scope.names.lookup p = some .local ∨ ((fdOf 149).scope.names.lookup p = some .cell ∧ ((cellsFrom n (fdOf 149).scope.names []).lookup p).isSome = true) := by
  intro n p hp
  simp only [List.mem_cons, List.not_mem_nil, or_false] at hp
  subst hp
  exact .inr ⟨rfl, rfl⟩
theorem io_call {k δ v o ℓ' δ' r} (hx : XsOk k nm149 (vlL v) δ (bodyOf 149) o ℓ' δ') (hr : o.res = some r) : CallOk (k + 1) 149 [v] δ r δ' :=
  CallOk.cells (dargs := []) [] def_149 (fun _ _ _ _ => .nil) loc149 rfl (fun w s vals hv hi => by
    match vals, hv with
    | [a1], _ => exact BindsTo.of_eq rfl) hx hr

theorem io_list {k δ xs} (hf : ∀ x ∈ xs, CallOk k 149 [x] δ (.ok (.bool true)) δ) (hl : xs.length ≤ 10) : CallOk (k + 1) 149 [.list xs] δ (.ok (.bool true)) δ := by
  refine io_call (o := .ret (.bool true)) (ℓ' := vlL (.list xs)) (XsOk.ret (XOk.ifT (δ1 := δ) ((TOk.val (isi_name bn_list rfl rfl rfl (FOk.isiList (v := .list xs) rfl))).of rfl) (XsOk.ret (XOk.ret ?_)))) rfl
  refine EvOk.bcall bn_all rfl (fun _ => nofun) (EvLOk.cons (δ1 := δ) (EvOk.listComp (res := .ok (xs.map fun _ => .bool true)) (nm' := nmO1) (σc := []) (EvOk.name (av := .list xs) rfl) ItOk.list ?_ (comp_all (by simp) fun j a t ha ht => ?_) (by rw [sizeLine_eq]; omega)) EvLOk.nil) (FOk.allT fun x hx => ?_)
  · exact ⟨rfl, by decide, by decide, rfl, rfl, rfl, (fun y hy => nomatch hy), fun p hp => nomatch hp⟩
  · obtain ⟨a', h1, rfl⟩ := map_get ht
    exact EvOk.call gn_law_in_order rfl fn_149 (EvLOk.cons (EvOk.name (av := a) rfl) EvLOk.nil) (hf a (List.mem_of_getElem? ha))
  · obtain ⟨_, _, rfl⟩ := List.mem_map.mp hx; rfl

theorem eqN_strs (xs : List Str) : EqN 1 (.list (xs.map AV.str)) (.list (xs.map AV.str)) := by
  unfold EqN
  refine ⟨rfl, fun i x y hx hy => ?_⟩
  rw [hx] at hy; cases hy
  obtain ⟨s, _, rfl⟩ := map_get hx
  unfold EqN
  rfl

theorem io_dict {k δ} {es : List (Str × AV)} (hf : ∀ e ∈ es, CallOk k 149 [e.2] δ (.ok (.bool true)) δ) (hn : (es.map (·.1)).Nodup) (hs : sortS (es.map (·.1)) = es.map (·.1)) (hl : es.length ≤ 3) : CallOk (k + 1) 149 [.dict es] δ (.ok (.bool true)) δ := by
  refine io_call (o := .ret (.bool true)) (ℓ' := vlL (.dict es)) (XsOk.cons (ℓ1 := vlL (.dict es)) (δ1 := δ) (XOk.ifF (δ1 := δ) ((TOk.val (isi_name bn_list rfl rfl rfl (FOk.isiList (v := .dict es) rfl))).of rfl) XsOk.nil) (XsOk.ret (XOk.ifT (δ1 := δ) ((TOk.val (isi_name bn_dict rfl rfl rfl (FOk.isiDict (v := .dict es) rfl))).of rfl) (XsOk.ret (XOk.ret ?_))))) rfl
  have e1 : es.map (fun e => AV.str e.1) = (es.map (·.1)).map AV.str := by rw [List.map_map]; rfl
  have heq : POk k .Eq (.list (es.map fun e => .str e.1)) (.list ((sortS (es.map (·.1))).map AV.str)) true := by
    rw [hs, e1]
    exact POk.eqN (eqN_strs _) rfl (by decide)
  refine EvOk.and2T (δ1 := δ) (EvOk.cmp (EvOk.bcall bn_list rfl (fun _ => nofun) (EvLOk.cons (EvOk.name (av := .dict es) rfl) EvLOk.nil) (FOk.listOfDict (by rw [sizeLine_eq]; omega))) (EvOk.bcall bn_sorted rfl (fun _ => nofun) (EvLOk.cons (EvOk.name (av := .dict es) rfl) EvLOk.nil) (FOk.sortedDict hl)) heq) ?_
  refine EvOk.bcall bn_all rfl (fun _ => nofun) (EvLOk.cons (δ1 := δ) (EvOk.listComp (res := .ok (es.map fun _ => .bool true)) (nm' := nmO2) (σc := [("value", .dict es)]) (EvOk.name (av := .dict es) rfl) ItOk.dict ?_ (comp_all (by simp) fun j a t ha ht => ?_) (by rw [sizeLine_eq]; simp; omega)) EvLOk.nil) (FOk.allT fun x hx => ?_)
  · exact ⟨rfl, by decide, by decide, rfl, rfl, rfl, (by show ∀ y ∈ (["value"] : List Str), _; decide), fun p hp => by
      simp only [List.mem_cons, List.not_mem_nil, or_false] at hp
      subst hp; rfl⟩
  · obtain ⟨e, h1, rfl⟩ := map_get ha
    obtain ⟨e', h2, rfl⟩ := map_get ht
    have hm : e ∈ es := List.mem_of_getElem? h1
    exact EvOk.call gn_law_in_order rfl fn_149 (EvLOk.cons (δ1 := δ) (EvOk.sub (EvOk.name (av := .dict es) rfl) (EvOk.name (av := .str e.1) rfl) (GOk.dict (getE_of_mem hn hm))) EvLOk.nil) (hf e hm)
  · obtain ⟨_, _, rfl⟩ := List.mem_map.mp hx; rfl

theorem io_leaf {k δ v} (hd : v.data = true) (h1 : v.isList = false) (h2 : v.isDict = false) : CallOk (k + 1) 149 [v] δ (.ok (.bool true)) δ := by
  refine io_call (o := .ret (.bool true)) (ℓ' := vlL v) (XsOk.cons (ℓ1 := vlL v) (δ1 := δ) (XOk.ifF (δ1 := δ) ((TOk.val (isi_name bn_list rfl rfl rfl (FOk.isiList hd))).of h1) XsOk.nil) (XsOk.cons (ℓ1 := vlL v) (δ1 := δ) (XOk.ifF (δ1 := δ) ((TOk.val (isi_name bn_dict rfl rfl rfl (FOk.isiDict hd))).of h2) XsOk.nil) (XsOk.ret (XOk.ret EvOk.bool)))) rfl

theorem inOrder_ok {δ} : ∀ (n : Nat) (v : AV), InOrd n v → CallOk (n + 1) 149 [v] δ (.ok (.bool true)) δ
  | n, .none, _ => io_leaf rfl rfl rfl
  | n, .bool _, _ => io_leaf rfl rfl rfl
  | n, .int _, _ => io_leaf rfl rfl rfl
  | n, .str _, _ => io_leaf rfl rfl rfl
  | n + 1, .list xs, h => by
    unfold InOrd at h
    exact io_list (fun x hx => inOrder_ok n x (h.2 x hx)) h.1
  | n + 1, .dict es, h => by
    unfold InOrd at h
    exact io_dict (fun e he => inOrder_ok n e.2 (h.2.2.2 e he)) h.2.1 h.2.2.1 h.1
  | 0, .list _, h => by unfold InOrd at h; exact h.elim
  | 0, .dict _, h => by unfold InOrd at h; exact h.elim
  | n, .bytes _, h => by unfold InOrd at h; exact h.elim
  | n, .tuple _, h => by unfold InOrd at h; exact h.elim
  | n, .idict _, h => by unfold InOrd at h; exact h.elim
  | n, .draw, h => by unfold InOrd at h; exact h.elim
  | n, .cells, h => by unfold InOrd at h; exact h.elim
  | n, .typ _, h => by unfold InOrd at h; exact h.elim
  | n, .range _, h => by unfold InOrd at h; exact h.elim
  | n, .types _, h => by unfold InOrd at h; exact h.elim
  | n, .raw _, h => by unfold InOrd at h; exact h.elim
end Mine

namespace Mine
set_option maxRecDepth 100000

/-! ## sorting is canonical -/
noncomputable abbrev slt (a b : Str) : Prop := a.cps.toList < b.cps.toList
theorem list_tri : ∀ a b : List Nat, a < b ∨ a = b ∨ b < a
  | [], [] => .inr (.inl rfl)
  | [], b :: bs => .inl (by simp)
  | a :: as, [] => .inr (.inr (by simp))
  | a :: as, b :: bs => by
    rcases Nat.lt_trichotomy a b with h | h | h
    · exact .inl (List.cons_lt_cons_iff.mpr (.inl h))
    · subst h
      rcases list_tri as bs with h | h | h
      · exact .inl (List.cons_lt_cons_iff.mpr (.inr ⟨rfl, h⟩))
      · exact .inr (.inl (by rw [h]))
      · exact .inr (.inr (List.cons_lt_cons_iff.mpr (.inr ⟨rfl, h⟩)))
    · exact .inr (.inr (List.cons_lt_cons_iff.mpr (.inl h)))
theorem str_ext {a b : Str} (h : a.cps.toList = b.cps.toList) : a = b := by rw [← txt_self a, ← txt_self b, h]
theorem slt_asymm {a b : Str} (h1 : slt a b) (h2 : slt b a) : False := List.lt_asymm h1 h2
theorem slt_total {a b : Str} (h : a ≠ b) (h1 : ¬ slt a b) : slt b a := by
  rcases list_tri a.cps.toList b.cps.toList with h2 | h2 | h2
  · exact absurd h2 h1
  · exact absurd (str_ext h2) h
  · exact h2

noncomputable def tab3 (p q r : Bool) (i j : Nat) : Bool :=
  if i = 0 ∧ j = 1 then p else if i = 0 ∧ j = 2 then q else if i = 1 ∧ j = 2 then r else if i = 1 ∧ j = 0 then !p else if i = 2 ∧ j = 0 then !q else if i = 2 ∧ j = 1 then !r else false
theorem tab3_sorts : ∀ p q r : Bool, ((p && r && !q) || (!p && !r && q)) = false → (runT (tab3 p q r) (kas_sort 3)).toList.Pairwise (fun i j => tab3 p q r i j = true) := by decide +kernel
theorem tab2_sorts : ∀ p : Bool, (runT (tab3 p p p) (kas_sort 2)).toList.Pairwise (fun i j => tab3 p p p i j = true) := by decide +kernel
theorem runT_congr {α : Type} {n : Nat} {lt lt' : Nat → Nat → Bool} (h : ∀ i j, i < n → j < n → lt i j = lt' i j) : ∀ t : KasT α, inR n t = true → runT lt t = runT lt' t
  | .ret a, _ => rfl
  | .ask i j k, hr => by
    simp only [inR, Bool.and_eq_true, decide_eq_true_eq] at hr
    obtain ⟨⟨⟨h1, h2⟩, h3⟩, h4⟩ := hr
    show runT lt (k (lt i j)) = runT lt' (k (lt' i j))
    rw [h i j h1 h2]
    exact runT_congr h _ (by cases lt' i j <;> assumption)

theorem sortS_sorted {xs : List Str} (hl : xs.length ≤ 3) (hn : xs.Nodup) : (sortS xs).Pairwise slt := by
  unfold sortS
  by_cases h2 : xs.length < 2
  · rw [if_pos h2]
    match xs, h2 with
    | [], _ => exact .nil
    | [x], _ => simp
  rw [if_neg h2]
  have key : ∀ (t : Nat → Nat → Bool), (∀ i j, i < xs.length → j < xs.length → ltS xs i j = t i j) → inR xs.length (kas_sort xs.length) = true → retR xs.length (kas_sort xs.length) = true → (runT t (kas_sort xs.length)).toList.Pairwise (fun i j => t i j = true) →
      ((runT (ltS xs) (kas_sort xs.length)).toList.map fun i => xs.getD i Str.empty).Pairwise slt := fun t ht h1 h3 h4 => by
    rw [runT_congr ht _ h1, List.pairwise_map]
    have hmem := retR_mem (lt := t) _ h3
    refine List.Pairwise.imp_of_mem (fun {i j} hi hj h => ?_) h4
    have := ht i j (hmem i hi) (hmem j hj)
    rw [h] at this
    exact of_decide_eq_true this
  match xs, hl, hn, h2, key with
  | [], _, _, h2, _ => exact absurd (by decide) h2
  | [_], _, _, h2, _ => exact absurd (by show 1 < 2; decide) h2
  | [a, b], _, hn, _, key =>
    have hab : a ≠ b := by simpa using hn
    have e : ∀ {a b : Str}, a ≠ b → decide (slt b a) = !decide (slt a b) := fun {a b} h => by
      by_cases q : slt a b
      · rw [decide_eq_true q, decide_eq_false fun z => slt_asymm q z]; rfl
      · rw [decide_eq_false q, decide_eq_true (slt_total h q)]; rfl
    refine key (tab3 (decide (slt a b)) (decide (slt a b)) (decide (slt a b))) (fun i j hi hj => ?_) inR_2 retR_2 (tab2_sorts _)
    have : (i = 0 ∨ i = 1) ∧ (j = 0 ∨ j = 1) := by simp at hi hj; omega
    obtain ⟨h1 | h1, h2 | h2⟩ := this <;> subst h1 <;> subst h2
    · show decide (slt a a) = false
      exact decide_eq_false fun z => slt_asymm z z
    · rfl
    · exact e hab
    · show decide (slt b b) = false
      exact decide_eq_false fun z => slt_asymm z z
  | [a, b, c], _, hn, _, key =>
    have hn' : (a ≠ b ∧ a ≠ c) ∧ b ≠ c := by simpa using hn
    obtain ⟨⟨hab, hac⟩, hbc⟩ := hn'
    have e : ∀ {a b : Str}, a ≠ b → decide (slt b a) = !decide (slt a b) := fun {a b} h => by
      by_cases q : slt a b
      · rw [decide_eq_true q, decide_eq_false fun z => slt_asymm q z]; rfl
      · rw [decide_eq_false q, decide_eq_true (slt_total h q)]; rfl
    refine key (tab3 (decide (slt a b)) (decide (slt a c)) (decide (slt b c))) (fun i j hi hj => ?_) inR_3 retR_3 (tab3_sorts _ _ _ ?_)
    · have : (i = 0 ∨ i = 1 ∨ i = 2) ∧ (j = 0 ∨ j = 1 ∨ j = 2) := by simp at hi hj; omega
      obtain ⟨h1 | h1 | h1, h2 | h2 | h2⟩ := this <;> subst h1 <;> subst h2
      · show decide (slt a a) = false
        exact decide_eq_false fun z => slt_asymm z z
      · rfl
      · rfl
      · exact e hab
      · show decide (slt b b) = false
        exact decide_eq_false fun z => slt_asymm z z
      · rfl
      · exact e hac
      · exact e hbc
      · show decide (slt c c) = false
        exact decide_eq_false fun z => slt_asymm z z
    · by_cases p : slt a b <;> by_cases q : slt a c <;> by_cases r : slt b c <;> simp [p, q, r]
      · exact q (List.lt_trans p r)
      · exact slt_asymm q (List.lt_trans (slt_total hbc r) (slt_total hab p))
  | _ :: _ :: _ :: _ :: _, hl, _, _, _ => simp at hl

theorem sortS_canon {xs ys : List Str} (hx : xs.length ≤ 3) (hn : xs.Nodup) (hp : ys.Perm xs) : sortS ys = sortS xs := by
  have hy : ys.length ≤ 3 := by rw [hp.length_eq]; exact hx
  refine List.Perm.eq_of_pairwise (le := slt) (fun a b _ _ h1 h2 => (slt_asymm h1 h2).elim) (sortS_sorted hy (hp.nodup_iff.mpr hn)) (sortS_sorted hx hn) ?_
  exact (sortS_perm hy).trans (hp.trans (sortS_perm hx).symm)
end Mine

namespace Mine
set_option maxRecDepth 100000

/-! ## the value with its keys in their order -/
noncomputable def srt (b : Bool) : Nat → AV → AV
  | _, .none => .none
  | _, .bool b => .bool b
  | _, .int b => .int b
  | _, .str b => .str b
  | n + 1, .list xs => .list (xs.map (srt b n))
  | n + 1, .dict es => .dict ((order b es).map fun e => (e.1, srt b n e.2))
  | _, v => v
theorem srt_false : ∀ {n : Nat} {v : AV}, GoodN n v → srt false n v = v
  | n, .none, _ => by unfold srt; rfl
  | n, .bool _, _ => by unfold srt; rfl
  | n, .int _, _ => by unfold srt; rfl
  | n, .str _, _ => by unfold srt; rfl
  | n + 1, .list xs, h => by
    unfold GoodN at h
    unfold srt
    congr 1
    have : xs.map (srt false n) = xs.map id := List.map_congr_left fun x hx => srt_false (h.2 x hx)
    rw [this, List.map_id]
  | n + 1, .dict es, h => by
    unfold GoodN at h
    unfold srt
    congr 1
    have e : order false es = es := rfl
    rw [e]
    have : es.map (fun e => (e.1, srt false n e.2)) = es.map id := List.map_congr_left fun x hx => by rw [srt_false (h.2.2 x hx).2]; rfl
    rw [this, List.map_id]
  | 0, .list _, h => by unfold GoodN at h; exact h.elim
  | 0, .dict _, h => by unfold GoodN at h; exact h.elim
  | n, .bytes _, h => by unfold GoodN at h; exact h.elim
  | n, .tuple _, h => by unfold GoodN at h; exact h.elim
  | n, .idict _, h => by unfold GoodN at h; exact h.elim
  | n, .draw, h => by unfold GoodN at h; exact h.elim
  | n, .cells, h => by unfold GoodN at h; exact h.elim
  | n, .typ _, h => by unfold GoodN at h; exact h.elim
  | n, .range _, h => by unfold GoodN at h; exact h.elim
  | n, .types _, h => by unfold GoodN at h; exact h.elim
  | n, .raw _, h => by unfold GoodN at h; exact h.elim

/-! ### the text's tree -/
theorem chars_tree : ∀ cs : List Nat, (∀ c ∈ cs, ∃ p, SgOk p ∧ p.1 = c) → ∃ ps : List Pc, (∀ p ∈ ps, p.ok) ∧ ps.map Pc.val = cs ∧ textOf ps = cs.flatMap jesc ∧ ps.length = cs.length
  | [], _ => ⟨[], (fun _ h => nomatch h), rfl, rfl, rfl⟩
  | c :: cs, h => by
    obtain ⟨ps, h1, h2, h3, h4⟩ := chars_tree cs fun c hc => h c (List.mem_cons_of_mem _ hc)
    obtain ⟨p, hp, rfl⟩ := h c (List.mem_cons_self ..)
    refine ⟨p.2.1 :: ps, fun q hq => (List.mem_cons.mp hq).elim (fun e => e ▸ hp.ok1) (h1 q), by simp [h2, hp.val1], ?_, by simp [h4]⟩
    unfold textOf at h3 ⊢
    simp [h3, hp.text]
theorem txt_tree {x : Str} (h : TxtOk x) : ∃ ps : List Pc, PsOk ps ∧ keyOf ps = x ∧ textOf ps = x.cps.toList.flatMap jesc := by
  obtain ⟨ps, h1, h2, h3, h4⟩ := chars_tree _ h.1
  have hl := h.2
  rw [← str_len, ← h4] at hl
  exact ⟨ps, ⟨h1, by omega⟩, (str_of_list (by show x.cps.toList = valOf ps; exact h2.symm)).symm, h3⟩

structure TreeOf (b : Bool) (n : Nat) (v : AV) (t : JT) : Prop where
  text : t.text = jtextN b n v
  ok : t.ok
  bare : t.bare
  dep : t.dep ≤ n
  val : t.val = srt b n v
  br : v.big = true → t.isBr = true

theorem jl_tree {b : Bool} {n : Nat} (ih : ∀ v, GoodN n v → ∃ t, TreeOf b n v t) : ∀ xs : List AV, (∀ x ∈ xs, GoodN n x) → ∃ its : JL, its.ok ∧ its.bare ∧ its.vals = xs.map (srt b n) ∧ its.dep ≤ n ∧ its.rest = tailT 93 (xs.map (jtextN b n)) ∧ its.open [] = inter (xs.map (jtextN b n)) ++ [93]
  | [], _ => ⟨.nil, trivial, trivial, rfl, Nat.zero_le _, rfl, rfl⟩
  | x :: xs, h => by
    obtain ⟨its, h1, h2, h3, h4, h5, _⟩ := jl_tree ih xs fun x hx => h x (List.mem_cons_of_mem _ hx)
    obtain ⟨t, T⟩ := ih x (h x (List.mem_cons_self ..))
    have key : (JL.cons [] t [] its).open [] = inter ((x :: xs).map (jtextN b n)) ++ [93] := by
      rw [List.map_cons, inter_cons, ← h5, ← T.text]
      simp [JL.open]
    refine ⟨.cons [] t [] its, ⟨blk_nil, T.ok, blk_nil, h1⟩, ⟨rfl, T.bare, rfl, h2⟩, by simp [JL.vals, h3, T.val], Nat.max_le.mpr ⟨T.dep, h4⟩, ?_, key⟩
    simp only [JL.open] at key
    simp only [JL.rest, List.map_cons, tailT]
    rw [key]
    simp

theorem jd_tree {b : Bool} {n : Nat} (ih : ∀ v, GoodN n v → ∃ t, TreeOf b n v t) : ∀ (es : List (Str × AV)) (prev : List Str), (∀ e ∈ es, TxtOk e.1 ∧ GoodN n e.2) → (prev ++ es.map (·.1)).Nodup → ∃ its : JD, its.ok prev ∧ its.bare ∧ its.vals = es.map (fun e => (e.1, srt b n e.2)) ∧ its.dep ≤ n ∧ its.rest = tailT 125 (es.map fun e => entryT e.1 (jtextN b n e.2)) ∧ its.open [] = inter (es.map fun e => entryT e.1 (jtextN b n e.2)) ++ [125]
  | [], _, _, _ => ⟨.nil, trivial, trivial, rfl, Nat.zero_le _, rfl, rfl⟩
  | e :: es, prev, h, hn => by
    have hn' : ((prev ++ [e.1]) ++ es.map (·.1)).Nodup := by simpa using hn
    obtain ⟨its, h1, h2, h3, h4, h5, _⟩ := jd_tree ih es (prev ++ [e.1]) (fun x hx => h x (List.mem_cons_of_mem _ hx)) hn'
    obtain ⟨hk, hg⟩ := h e (List.mem_cons_self ..)
    obtain ⟨t, T⟩ := ih e.2 hg
    obtain ⟨ps, hps, hkey, hte⟩ := txt_tree hk
    have key : (JD.cons [] ps [] [] t [] its).open [] = inter ((e :: es).map fun e => entryT e.1 (jtextN b n e.2)) ++ [125] := by
      rw [List.map_cons, inter_cons, ← h5, ← T.text]
      simp [JD.open, entryT, hte]
    have hnin : keyOf ps ∉ prev := by
      rw [hkey]
      have := List.nodup_append.mp (List.nodup_append.mp hn').1
      intro q
      exact this.2.2 _ q _ (by simp) rfl
    refine ⟨.cons [] ps [] [] t [] its, ⟨⟨blk_nil, blk_nil, blk_nil, blk_nil⟩, hps, T.ok, hnin, by rw [hkey]; exact h1⟩, ⟨⟨rfl, rfl, rfl, rfl⟩, T.bare, h2⟩, by simp [JD.vals, h3, T.val, hkey], Nat.max_le.mpr ⟨T.dep, h4⟩, ?_, key⟩
    simp only [JD.open] at key
    simp only [JD.rest, List.map_cons, tailT]
    rw [key]
    simp

theorem order_good {b : Bool} {n : Nat} {es : List (Str × AV)} (h3 : es.length ≤ 3) (hn : (es.map (·.1)).Nodup) : ((order b es).map (·.1)).Nodup := by
  unfold order
  cases b with
  | false => exact hn
  | true =>
    simp only [if_true, List.map_map]
    have : (sortS (es.map (·.1))).map (((·.1) : Str × AV → Str) ∘ fun k => (k, (getE es k).getD .none)) = sortS (es.map (·.1)) := by
      have : (((·.1) : Str × AV → Str) ∘ fun k => (k, (getE es k).getD .none)) = id := rfl
      rw [this, List.map_id]
    rw [this]
    exact (sortS_perm (by simpa using h3)).nodup_iff.mpr hn

theorem tree_of (b : Bool) : ∀ (n : Nat) (v : AV), GoodN n v → ∃ t, TreeOf b n v t
  | n, .none, _ => ⟨.null, by unfold jtextN; rfl, trivial, trivial, Nat.zero_le _, by unfold srt; rfl, fun q => nomatch q⟩
  | n, .bool true, _ => ⟨.tru, by unfold jtextN; rfl, trivial, trivial, Nat.zero_le _, by unfold srt; rfl, fun q => nomatch q⟩
  | n, .bool false, _ => ⟨.fls, by unfold jtextN; rfl, trivial, trivial, Nat.zero_le _, by unfold srt; rfl, fun q => nomatch q⟩
  | n, .int i, h => by
    unfold GoodN at h
    obtain ⟨neg, ds, e, ho⟩ := num_tree h
    exact ⟨.num neg ds i, by unfold jtextN; exact e.symm, ho, trivial, Nat.zero_le _, by unfold srt; rfl, fun q => nomatch q⟩
  | n, .str x, h => by
    unfold GoodN at h
    obtain ⟨ps, h1, h2, h3⟩ := txt_tree h
    exact ⟨.str ps, by unfold jtextN; simp [JT.text, h3], h1, trivial, Nat.zero_le _, by unfold srt; simp [JT.val, h2], fun q => nomatch q⟩
  | n + 1, .list xs, h => by
    unfold GoodN at h
    obtain ⟨its, h1, h2, h3, h4, _, h6⟩ := jl_tree (fun v hv => tree_of b n v hv) xs h.2
    exact ⟨.list [] its, by unfold jtextN; simp [JT.text, h6], ⟨blk_nil, h1⟩, ⟨rfl, h2⟩, by simp only [JT.dep]; omega, by unfold srt; simp [JT.val, h3], fun _ => rfl⟩
  | n + 1, .dict es, h => by
    unfold GoodN at h
    obtain ⟨hl, hm⟩ := order_mem (b := b) h.1 h.2.1
    obtain ⟨its, h1, h2, h3, h4, _, h6⟩ := jd_tree (fun v hv => tree_of b n v hv) (order b es) [] (fun e he => h.2.2 e (hm e he).1) (by simpa using order_good (b := b) (n := n) h.1 h.2.1)
    exact ⟨.dict [] its, by unfold jtextN; simp [JT.text, h6], ⟨blk_nil, h1⟩, ⟨rfl, h2⟩, by simp only [JT.dep]; omega, by unfold srt; simp [JT.val, h3], fun _ => rfl⟩
  | 0, .list _, h => by unfold GoodN at h; exact h.elim
  | 0, .dict _, h => by unfold GoodN at h; exact h.elim
  | n, .bytes _, h => by unfold GoodN at h; exact h.elim
  | n, .tuple _, h => by unfold GoodN at h; exact h.elim
  | n, .idict _, h => by unfold GoodN at h; exact h.elim
  | n, .draw, h => by unfold GoodN at h; exact h.elim
  | n, .cells, h => by unfold GoodN at h; exact h.elim
  | n, .typ _, h => by unfold GoodN at h; exact h.elim
  | n, .range _, h => by unfold GoodN at h; exact h.elim
  | n, .types _, h => by unfold GoodN at h; exact h.elim
  | n, .raw _, h => by unfold GoodN at h; exact h.elim
end Mine

namespace Mine
set_option maxRecDepth 100000

theorem eq_srt (b : Bool) : ∀ {n : Nat} {v : AV}, GoodN n v → EqN n (srt b n v) v
  | n, .none, _ => by unfold srt EqN; trivial
  | n, .bool _, _ => by unfold srt EqN; rfl
  | n, .int _, _ => by unfold srt EqN; rfl
  | n, .str _, _ => by unfold srt EqN; rfl
  | n + 1, .list xs, h => by
    unfold GoodN at h
    unfold srt EqN
    refine ⟨by simp, fun i x y hx hy => ?_⟩
    obtain ⟨z, hz, rfl⟩ := map_get hx
    rw [hy] at hz; cases hz
    exact eq_srt b (h.2 y (List.mem_of_getElem? hy))
  | n + 1, .dict es, h => by
    unfold GoodN at h
    obtain ⟨hl, hm⟩ := order_mem (b := b) h.1 h.2.1
    unfold srt EqN
    refine ⟨by simpa using hl, fun p hp => ?_⟩
    obtain ⟨e, he, rfl⟩ := List.mem_map.mp hp
    obtain ⟨h1, h2⟩ := hm e he
    exact ⟨e.2, h2, eq_srt b (h.2.2 e h1).2⟩
  | 0, .list _, h => by unfold GoodN at h; exact h.elim
  | 0, .dict _, h => by unfold GoodN at h; exact h.elim
  | n, .bytes _, h => by unfold GoodN at h; exact h.elim
  | n, .tuple _, h => by unfold GoodN at h; exact h.elim
  | n, .idict _, h => by unfold GoodN at h; exact h.elim
  | n, .draw, h => by unfold GoodN at h; exact h.elim
  | n, .cells, h => by unfold GoodN at h; exact h.elim
  | n, .typ _, h => by unfold GoodN at h; exact h.elim
  | n, .range _, h => by unfold GoodN at h; exact h.elim
  | n, .types _, h => by unfold GoodN at h; exact h.elim
  | n, .raw _, h => by unfold GoodN at h; exact h.elim
theorem eq_self {n : Nat} {v : AV} (h : GoodN n v) : EqN n v v := by
  have := eq_srt false h
  rwa [srt_false h] at this
theorem eq_pair {n : Nat} {v : AV} (h : GoodN n v) : EqN (n + 1) (.list [v, v]) (.list [v, v]) := by
  unfold EqN
  refine ⟨rfl, fun i x y hx hy => ?_⟩
  rw [hx] at hy; cases hy
  have : x = v := by
    have := List.mem_of_getElem? hx
    simpa using this
  rw [this]; exact eq_self h

theorem ord_srt : ∀ {n : Nat} {v : AV}, GoodN n v → InOrd n (srt true n v)
  | n, .none, _ => by unfold srt InOrd; trivial
  | n, .bool _, _ => by unfold srt InOrd; trivial
  | n, .int _, _ => by unfold srt InOrd; trivial
  | n, .str _, _ => by unfold srt InOrd; trivial
  | n + 1, .list xs, h => by
    unfold GoodN at h
    unfold srt InOrd
    refine ⟨by simp; omega, fun x hx => ?_⟩
    obtain ⟨z, hz, rfl⟩ := List.mem_map.mp hx
    exact ord_srt (h.2 z hz)
  | n + 1, .dict es, h => by
    unfold GoodN at h
    obtain ⟨hl, hm⟩ := order_mem (b := true) h.1 h.2.1
    have hk : ((order true es).map fun e => (e.1, srt true n e.2)).map (·.1) = sortS (es.map (·.1)) := by
      rw [List.map_map]
      unfold order
      simp only [if_true, List.map_map]
      exact List.map_id _
    unfold srt InOrd
    have hp := sortS_perm (xs := es.map (·.1)) (by simpa using h.1)
    refine ⟨by simpa [hl] using h.1, ?_, ?_, fun e he => ?_⟩
    · rw [hk]; exact hp.nodup_iff.mpr h.2.1
    · rw [hk]; exact sortS_canon (by simpa using h.1) h.2.1 hp
    · obtain ⟨p, hp, rfl⟩ := List.mem_map.mp he
      exact ord_srt (h.2.2 p (hm p hp).1).2
  | 0, .list _, h => by unfold GoodN at h; exact h.elim
  | 0, .dict _, h => by unfold GoodN at h; exact h.elim
  | n, .bytes _, h => by unfold GoodN at h; exact h.elim
  | n, .tuple _, h => by unfold GoodN at h; exact h.elim
  | n, .idict _, h => by unfold GoodN at h; exact h.elim
  | n, .draw, h => by unfold GoodN at h; exact h.elim
  | n, .cells, h => by unfold GoodN at h; exact h.elim
  | n, .typ _, h => by unfold GoodN at h; exact h.elim
  | n, .range _, h => by unfold GoodN at h; exact h.elim
  | n, .types _, h => by unfold GoodN at h; exact h.elim
  | n, .raw _, h => by unfold GoodN at h; exact h.elim

theorem turn_good : ∀ {n : Nat} {v : AV}, GoodN n v → GoodN n (turnN n v)
  | n, .none, h => by unfold turnN; exact h
  | n, .bool _, h => by unfold turnN; exact h
  | n, .int _, h => by unfold turnN; exact h
  | n, .str _, h => by unfold turnN; exact h
  | n + 1, .list xs, h => by
    unfold GoodN at h
    unfold turnN GoodN
    refine ⟨by simpa using h.1, fun x hx => ?_⟩
    obtain ⟨z, hz, rfl⟩ := List.mem_map.mp hx
    exact turn_good (h.2 z hz)
  | n + 1, .dict es, h => by
    unfold GoodN at h
    unfold turnN GoodN
    refine ⟨by simpa using h.1, ?_, fun x hx => ?_⟩
    · rw [List.map_map, List.map_reverse]
      exact (List.reverse_perm _).nodup_iff.mpr h.2.1
    · obtain ⟨z, hz, rfl⟩ := List.mem_map.mp hx
      have := h.2.2 z (List.mem_reverse.mp hz)
      exact ⟨this.1, turn_good this.2⟩
  | 0, .list _, h => by unfold GoodN at h; exact h.elim
  | 0, .dict _, h => by unfold GoodN at h; exact h.elim
  | n, .bytes _, h => by unfold GoodN at h; exact h.elim
  | n, .tuple _, h => by unfold GoodN at h; exact h.elim
  | n, .idict _, h => by unfold GoodN at h; exact h.elim
  | n, .draw, h => by unfold GoodN at h; exact h.elim
  | n, .cells, h => by unfold GoodN at h; exact h.elim
  | n, .typ _, h => by unfold GoodN at h; exact h.elim
  | n, .range _, h => by unfold GoodN at h; exact h.elim
  | n, .types _, h => by unfold GoodN at h; exact h.elim
  | n, .raw _, h => by unfold GoodN at h; exact h.elim

theorem turn_text : ∀ {n : Nat} {v : AV}, GoodN n v → jtextN true n (turnN n v) = jtextN true n v
  | n, .none, _ => by unfold turnN; rfl
  | n, .bool _, _ => by unfold turnN; rfl
  | n, .int _, _ => by unfold turnN; rfl
  | n, .str _, _ => by unfold turnN; rfl
  | n + 1, .list xs, h => by
    unfold GoodN at h
    unfold turnN jtextN
    congr 3
    rw [List.map_map]
    exact List.map_congr_left fun x hx => turn_text (h.2 x hx)
  | n + 1, .dict es, h => by
    unfold GoodN at h
    unfold turnN jtextN
    congr 3
    have hk : (es.reverse.map fun e => (e.1, turnN n e.2)).map (·.1) = (es.map (·.1)).reverse := by rw [List.map_map, List.map_reverse]; rfl
    have hn' : ((es.reverse.map fun e => (e.1, turnN n e.2)).map (·.1)).Nodup := by rw [hk]; exact (List.reverse_perm _).nodup_iff.mpr h.2.1
    unfold order
    simp only [if_true]
    rw [hk, sortS_canon (by simpa using h.1) h.2.1 (List.reverse_perm _), List.map_map, List.map_map]
    refine List.map_congr_left fun k hkm => ?_
    have hkm' := (sortS_perm (xs := es.map (·.1)) (by simpa using h.1)).mem_iff.mp hkm
    obtain ⟨e, he, rfl⟩ := List.mem_map.mp hkm'
    have g1 := getE_of_mem h.2.1 he
    have g2 := getE_of_mem hn' (e := (e.1, turnN n e.2)) (List.mem_map.mpr ⟨e, List.mem_reverse.mpr he, rfl⟩)
    show entryT e.1 (jtextN true n ((getE _ e.1).getD .none)) = entryT e.1 (jtextN true n ((getE es e.1).getD .none))
    rw [g1, g2]
    show entryT e.1 (jtextN true n (turnN n e.2)) = entryT e.1 (jtextN true n e.2)
    rw [turn_text (h.2.2 e he).2]
  | 0, .list _, h => by unfold GoodN at h; exact h.elim
  | 0, .dict _, h => by unfold GoodN at h; exact h.elim
  | n, .bytes _, h => by unfold GoodN at h; exact h.elim
  | n, .tuple _, h => by unfold GoodN at h; exact h.elim
  | n, .idict _, h => by unfold GoodN at h; exact h.elim
  | n, .draw, h => by unfold GoodN at h; exact h.elim
  | n, .cells, h => by unfold GoodN at h; exact h.elim
  | n, .typ _, h => by unfold GoodN at h; exact h.elim
  | n, .range _, h => by unfold GoodN at h; exact h.elim
  | n, .types _, h => by unfold GoodN at h; exact h.elim
  | n, .raw _, h => by unfold GoodN at h; exact h.elim

/-! ### the signs are all of ASCII -/
noncomputable def Asc (l : List Nat) : Prop := ∀ c ∈ l, 32 ≤ c ∧ c ≤ 126
theorem Asc.app {a b : List Nat} (h1 : Asc a) (h2 : Asc b) : Asc (a ++ b) := fun c hc => (List.mem_append.mp hc).elim (h1 c) (h2 c)
theorem Asc.con {c : Nat} {b : List Nat} (h1 : 32 ≤ c ∧ c ≤ 126) (h2 : Asc b) : Asc (c :: b) := fun d hd => (List.mem_cons.mp hd).elim (fun e => e ▸ h1) (h2 d)
theorem asc_nil : Asc [] := fun _ h => nomatch h
theorem asc_inter {l : List (List Nat)} (h : ∀ x ∈ l, Asc x) : Asc (inter l) := fun c hc => by
  rcases inter_mem hc with rfl | ⟨x, hx, hc⟩
  · decide
  · exact h x hx c hc
theorem asc_txt {x : Str} (h : TxtOk x) : Asc (x.cps.toList.flatMap jesc) := fun c hc => by
  obtain ⟨d, hd, hc⟩ := List.mem_flatMap.mp hc
  obtain ⟨p, hp, rfl⟩ := h.1 d hd
  exact hp.asc c hc
theorem asc_entry {x : Str} {t : List Nat} (h : TxtOk x) (ht : Asc t) : Asc (entryT x t) :=
  .con (by decide) (.app (asc_txt h) (.con (by decide) (.con (by decide) ht)))
theorem asc_text (b : Bool) : ∀ {n : Nat} {v : AV}, GoodN n v → Asc (jtextN b n v)
  | n, .none, _ => by unfold jtextN; show ∀ c ∈ wNull, _; decide
  | n, .bool true, _ => by unfold jtextN; show ∀ c ∈ wTrue, _; decide
  | n, .bool false, _ => by unfold jtextN; show ∀ c ∈ wFalse, _; decide
  | n, .int i, h => by
    unfold GoodN at h
    obtain ⟨neg, ds, e, ho⟩ := num_tree h
    unfold jtextN
    rw [e]
    refine .app ?_ fun c hc => ?_
    · unfold pre
      split
      · exact .con (by decide) asc_nil
      · exact asc_nil
    · have := ho.1 c hc
      simp only [isDig, decide_eq_true_eq] at this
      omega
  | n, .str x, h => by
    unfold GoodN at h
    unfold jtextN
    exact .con (by decide) (.app (asc_txt h) (.con (by decide) asc_nil))
  | n + 1, .list xs, h => by
    unfold GoodN at h
    unfold jtextN
    refine .con (by decide) (.app (asc_inter fun x hx => ?_) (.con (by decide) asc_nil))
    obtain ⟨z, hz, rfl⟩ := List.mem_map.mp hx
    exact asc_text b (h.2 z hz)
  | n + 1, .dict es, h => by
    unfold GoodN at h
    obtain ⟨hl, hm⟩ := order_mem (b := b) h.1 h.2.1
    unfold jtextN
    refine .con (by decide) (.app (asc_inter fun x hx => ?_) (.con (by decide) asc_nil))
    obtain ⟨z, hz, rfl⟩ := List.mem_map.mp hx
    have := h.2.2 z (hm z hz).1
    exact asc_entry this.1 (asc_text b this.2)
  | 0, .list _, h => by unfold GoodN at h; exact h.elim
  | 0, .dict _, h => by unfold GoodN at h; exact h.elim
  | n, .bytes _, h => by unfold GoodN at h; exact h.elim
  | n, .tuple _, h => by unfold GoodN at h; exact h.elim
  | n, .idict _, h => by unfold GoodN at h; exact h.elim
  | n, .draw, h => by unfold GoodN at h; exact h.elim
  | n, .cells, h => by unfold GoodN at h; exact h.elim
  | n, .typ _, h => by unfold GoodN at h; exact h.elim
  | n, .range _, h => by unfold GoodN at h; exact h.elim
  | n, .types _, h => by unfold GoodN at h; exact h.elim
  | n, .raw _, h => by unfold GoodN at h; exact h.elim
end Mine

namespace Mine
set_option maxRecDepth 100000

noncomputable def encU (l : List Nat) : List UInt8 := l.flatMap Str.utf8Of
theorem encode_two (x : Str) (t u : Tok) : Builtin.«str.encode» ⟨[.str x t, .str (Str.ofString "utf-8") u], []⟩ = (do ret (← Builtin._codecs.encodeRoad "str.encode" (.str x t) x (Str.ofString "utf-8") none)) := by kernel_rfl
theorem utf8_len (c : Nat) : (Str.utf8Of c).length ≤ 4 := by unfold Str.utf8Of; split <;> (try split) <;> (try split) <;> simp
theorem encU_len : ∀ l : List Nat, (encU l).length ≤ 4 * l.length
  | [] => by simp [encU]
  | c :: l => by
    have h1 := utf8_len c
    have h2 := encU_len l
    unfold encU at h2 ⊢
    simp only [List.flatMap_cons, List.length_append, List.length_cons]
    omega
theorem fold_encU : ∀ (l : List Nat) (acc : Array UInt8), l.foldl (fun acc y => acc ++ (Str.utf8Of y).toArray) acc = acc ++ (encU l).toArray
  | [], acc => by simp [encU]
  | c :: l, acc => by
    rw [List.foldl_cons, fold_encU l]
    apply Array.toList_inj.mp
    simp [encU]
theorem encode_ok {M : Model} {A : Around} {id : String} {self : Value} {x : Str} {Q : Array UInt8 → Shared → Prop} {E : Value → Shared → Prop} {s : Shared} (hx : ∀ c ∈ x.cps.toList, Str.isSurrogate c = false) (hl : x.length ≤ 1000000) (hq : Q (encU x.cps.toList).toArray s) :
    wpAny M A (Builtin._codecs.encodeNarrow id Builtin._codecs.utf8Codec none self x) Q E s := by
  have hbad : ∀ c, Builtin._codecs.utf8Codec.bad c = Str.isSurrogate c := fun _ => rfl
  have hby : ∀ c, Builtin._codecs.utf8Codec.bytesOf c = Str.utf8Of c := fun _ => rfl
  have hfind : Array.findIdx? Builtin._codecs.utf8Codec.bad x.cps = none := by
    rw [Array.findIdx?_eq_none_iff]
    intro c hc
    exact hx c (Array.mem_toList_iff.mpr hc)
  have hel := encU_len x.cps.toList
  have hxl : x.cps.toList.length = x.length := Array.length_toList
  have hxs : x.cps.size = x.length := rfl
  unfold Builtin._codecs.encodeNarrow
  dsimp only
  rw [Std.Legacy.Range.forIn_eq_forIn_range']
  simp only [Std.Legacy.Range.size, Nat.sub_zero, Nat.add_sub_cancel, Nat.div_one]
  refine wpAny_bind (wpAny_forIn_list _ (fun rest b s' => s' = s ∧ ((b = (0, #[], {}) ∧ rest = List.range' 0 x.length) ∨ (b.1 = x.cps.size ∧ b.2.1 = (encU x.cps.toList).toArray))) _ ?_ ?_ _ _ ⟨rfl, .inl ⟨rfl, rfl⟩⟩)
  · rintro i rest ⟨p, out, st⟩ s' ⟨rfl, ⟨hb, hr⟩ | ⟨h1, h2⟩⟩
    · cases hb
      have hpos : 0 < x.cps.size := by
        have := congrArg List.length hr
        simp at this
        omega
      dsimp only
      rw [if_neg (by rw [sizeLine_eq]; simp)]
      rw [Array.getElem?_eq_getElem hpos]
      dsimp only
      have hc := hx x.cps[0] (Array.mem_toList_iff.mpr (Array.getElem_mem hpos))
      rw [hbad, hc, if_pos (show (!false) = true from rfl)]
      have e1 : x.cps.extract 0 = x.cps := by simp
      refine wpAny_pure ⟨rfl, .inr ⟨?_, ?_⟩⟩
      · show 0 + _ = _
        rw [e1, hfind]
        simp
      · show Array.foldl _ #[] _ = _
        rw [e1, hfind]
        show Array.foldl (fun acc y => acc ++ (Str.utf8Of y).toArray) #[] _ = _
        rw [← Array.foldl_toList]
        have e2 : (x.cps.extract 0 x.cps.size).toList = x.cps.toList := by simp
        rw [show ((Option.none : Option Nat).getD x.cps.size) = x.cps.size from rfl, e2, fold_encU]
        simp
    · dsimp only at h1 h2 ⊢
      subst h1 h2
      rw [if_neg (by rw [sizeLine_eq, List.size_toArray]; omega)]
      rw [Array.getElem?_eq_none (Nat.le_refl _)]
      exact wpAny_pure (wpAny_pure hq)
  · rintro ⟨p, out, st⟩ s' ⟨rfl, ⟨hb, hr⟩ | ⟨h1, h2⟩⟩
    · cases hb
      have h0 : x.cps.toList = [] := by
        have := congrArg List.length hr
        simp at this
        exact List.eq_nil_of_length_eq_zero (by rw [Array.length_toList]; omega)
      rw [h0] at hq
      exact wpAny_pure hq
    · dsimp only at h1 h2 ⊢
      subst h2
      exact wpAny_pure hq
/-! ## decoding -/
theorem at_byte {b : Array UInt8} {p : Nat} {l r : List UInt8} (h : b.toList.drop p = l ++ r) {i : Nat} {x : UInt8} (hi : l[i]? = some x) : b[p + i]? = some x := by
  have : (b.toList.drop p)[i]? = some x := by rw [h, List.getElem?_append_left (List.getElem?_eq_some_iff.mp hi).1]; exact hi
  rw [List.getElem?_drop, Array.getElem?_toList] at this
  exact this
theorem utf8_at {b : Array UInt8} {p c : Nat} {r : List UInt8} (hc : uniD c) (h : b.toList.drop p = Str.utf8Of c ++ r) : Builtin.Bytes.utf8At b p = (.char c, p + (Str.utf8Of c).length) := by
  rcases hc with hc | rfl | rfl
  · have e : Str.utf8Of c = [c.toUInt8] := by unfold Str.utf8Of; rw [if_pos (by omega)]
    rw [e] at h ⊢
    have h0 : b[p + 0]? = some c.toUInt8 := at_byte h rfl
    have hv : c.toUInt8.toNat = c := by simp [Nat.toUInt8]; omega
    have hd : b.getD p 0 = c.toUInt8 := by
      rw [Array.getD_eq_getD_getElem?]
      simpa using congrArg (fun o => o.getD 0) h0
    unfold Builtin.Bytes.utf8At
    simp only [hd, hv]
    rw [if_pos (by omega)]
    rfl
  · have e : Str.utf8Of 233 = [195, 169] := by decide
    rw [e] at h ⊢
    have h0 : b[p + 0]? = some 195 := at_byte h rfl
    have h1 : b[p + 1]? = some 169 := at_byte h rfl
    have hd : b.getD p 0 = 195 := by
      rw [Array.getD_eq_getD_getElem?]
      simpa using congrArg (fun o => o.getD 0) h0
    unfold Builtin.Bytes.utf8At
    simp only [hd]
    rw [if_neg (by decide)]
    simp [List.range, List.range.loop, h1, Except.bind]
  · have e : Str.utf8Of 128512 = [240, 159, 152, 128] := by decide
    rw [e] at h ⊢
    have h0 : b[p + 0]? = some 240 := at_byte h rfl
    have h1 : b[p + 1]? = some 159 := at_byte h rfl
    have h2 : b[p + 2]? = some 152 := at_byte h rfl
    have h3 : b[p + 3]? = some 128 := at_byte h rfl
    have hd : b.getD p 0 = 240 := by
      rw [Array.getD_eq_getD_getElem?]
      simpa using congrArg (fun o => o.getD 0) h0
    unfold Builtin.Bytes.utf8At
    simp only [hd]
    rw [if_neg (by decide)]
    simp [List.range, List.range.loop, h1, h2, h3, Except.bind]

theorem utf8_pos (c : Nat) : 1 ≤ (Str.utf8Of c).length := by unfold Str.utf8Of; split <;> (try split) <;> (try split) <;> simp
theorem decode_ok {M : Model} {A : Around} {id : String} {l : List Nat} {Q : Array Nat × Nat → Shared → Prop} {E : Value → Shared → Prop} {s : Shared} (hx : ∀ c ∈ l, uniD c) (hl : l.length ≤ 1000000) (hq : ∀ n, Q (l.toArray, n) s) :
    wpAny M A (Builtin._codecs.runDecoder id Builtin._codecs.utf8Decoder none true (encU l).toArray 0 []) Q E s := by
  unfold Builtin._codecs.runDecoder
  dsimp only
  rw [Std.Legacy.Range.forIn_eq_forIn_range']
  simp only [Std.Legacy.Range.size, Nat.sub_zero, Nat.add_sub_cancel, Nat.div_one]
  have hz : (encU l).toArray.size = (encU l).length := by simp
  refine wpAny_bind (wpAny_forIn_list _ (fun rest b s' => s' = s ∧ ∃ done todo, l = done ++ todo ∧ (encU l).drop b.1 = encU todo ∧ b.1 ≤ (encU l).length ∧ b.2.1 = done.toArray ∧ (encU todo).length ≤ rest.length) _ ?_ ?_ _ _ ⟨rfl, [], l, rfl, rfl, Nat.zero_le _, rfl, by simp⟩)
  · rintro i rest ⟨p, out, st⟩ s' ⟨rfl, done, todo, h1, h2, h3, h4, h5⟩
    dsimp only at h2 h3 h4 ⊢
    subst h4
    have hdl : done.length ≤ l.length := by rw [h1]; simp
    rw [if_neg (by rw [sizeLine_eq, List.size_toArray]; omega)]
    cases todo with
    | nil =>
      have hp : (encU l).length ≤ p := by
        have := congrArg List.length h2
        simp [encU] at this ⊢
        omega
      rw [if_pos (by rw [hz]; exact hp)]
      simp at h1
      subst h1
      exact wpAny_pure (wpAny_pure (hq p))
    | cons c todo =>
      have hc := hx c (by rw [h1]; simp)
      have e : encU (c :: todo) = Str.utf8Of c ++ encU todo := by simp [encU]
      rw [e] at h2
      have hpos := utf8_pos c
      have hlen := congrArg List.length h2
      simp only [List.length_drop, List.length_append] at hlen
      rw [if_neg (by rw [hz]; omega)]
      have hat := utf8_at (b := (encU l).toArray) (p := p) hc (by simpa using h2)
      have hfd : Builtin._codecs.utf8Decoder.find true (encU l).toArray p = .text [c] (p + (Str.utf8Of c).length) := by
        show (match Builtin.Bytes.utf8At (encU l).toArray p with | (.char c, next) => Builtin._codecs.Found.char c next | (.bad _ stop reason, _) => _) = _
        rw [hat]; rfl
      rw [hfd]
      dsimp only
      refine wpAny_pure ⟨rfl, done ++ [c], todo, by rw [h1]; simp, ?_, ?_, by simp, ?_⟩
      · show (encU l).drop (p + (Str.utf8Of c).length) = _
        rw [← List.drop_drop, h2]; simp
      · show p + (Str.utf8Of c).length ≤ _
        omega
      · rw [e] at h5
        simp only [List.length_append, List.length_cons] at h5
        omega
  · rintro ⟨p, out, st⟩ s' ⟨rfl, done, todo, h1, h2, h3, h4, h5⟩
    dsimp only at h4 ⊢
    subst h4
    have : todo = [] := by
      cases todo with
      | nil => rfl
      | cons c t =>
        have := utf8_pos c
        have e : encU (c :: t) = Str.utf8Of c ++ encU t := by simp [encU]
        rw [e] at h5
        simp only [List.length_append, List.length_nil] at h5
        omega
    subst this
    simp at h1
    subst h1
    exact wpAny_pure (hq p)
theorem args_decode_2 (a b : Value) : argsOk "bytes.decode" ⟨[a, b], []⟩ := by unfold argsOk; kernel_rfl
theorem decode_two (c : UInt8) (cs : List UInt8) (t u : Tok) : Builtin.«bytes.decode» ⟨[.bytes (c :: cs).toArray t, .str (Str.ofString "utf-8") u], []⟩ = (mkStr (Str.ofString "utf-8") >>= fun _ => mkStr (Str.ofString "utf-8") >>= fun e => mkStr (Str.ofString "bytes.decode") >>= fun d =>
    call (.builtin "_codecs.decode.text") [.bytes (c :: cs).toArray t, e, .none, d] >>= fun v => ret v) := by kernel_rfl
theorem FOk.encode {k} {x : Str} (hx : ∀ c ∈ x.cps.toList, Str.isSurrogate c = false) (hl : x.length ≤ 1000000) : FOk k (.builtin "str.encode") [.str x, .str (Str.ofString "utf-8")] (.bytes (encU x.cps.toList).toArray) := by
  constructor; intro C σ δ s vals Q E nm O S r hq
  cases r with | cons r1 r2 =>
  cases r2 with | cons r2 r3 =>
  cases r3; cases r1 with | str _ t =>
  cases r2 with | str _ u =>
  have hel := encU_len x.cps.toList
  have hxl : x.cps.toList.length = x.length := Array.length_toList
  refine wpAny_call_entry F.slot_str_encode (typeIs_str _ _ _) F.entry_str_encode ?_ (F.args_str_encode_2 _ _)
  rw [encode_two, encodeRoad_utf8]
  refine wpAny_bind (wpAny_bind (encode_ok hx hl (wpAny_mkBytes ?_ (by rw [List.size_toArray, sizeLine_eq]; omega))))
  exact wpAny_pure ⟨_, rfl, hq _ _ (Aft.of_tok S) (.bytes _ _)⟩
theorem FOk.decode {k} {l : List Nat} (hx : ∀ c ∈ l, uniD c) (h0 : l ≠ []) (hl : l.length ≤ 1000000) : FOk k (.builtin "bytes.decode") [.bytes (encU l).toArray, .str (Str.ofString "utf-8")] (.str ⟨l.toArray⟩) := by
  constructor; intro C σ δ s vals Q E nm O S r hq
  cases r with | cons r1 r2 =>
  cases r2 with | cons r2 r3 =>
  cases r3; cases r1 with | bytes _ t =>
  cases r2 with | str _ u =>
  obtain ⟨c, cs, e⟩ : ∃ c cs, encU l = c :: cs := by
    cases l with
    | nil => exact absurd rfl h0
    | cons a r =>
      have := utf8_pos a
      cases q : encU (a :: r) with
      | nil =>
        have h2 : encU (a :: r) = Str.utf8Of a ++ encU r := by simp [encU]
        rw [h2] at q
        have := congrArg List.length q
        simp only [List.length_append, List.length_nil] at this
        omega
      | cons c cs => exact ⟨c, cs, rfl⟩
  refine wpAny_call_entry FB.slot_bytes_decode (typeIs_bytes _ _ _) FB.entry_bytes_decode ?_ (args_decode_2 _ _)
  have hrun : ∀ {A : Around} {s' : Shared} {Q' : Value → Shared → Prop} {E' : Value → Shared → Prop}, (∀ t' tk, Q' (.str ⟨l.toArray⟩ t') { s' with toks := tk }) → wpAny (MM C.w) A (Builtin._codecs.decodeRoad "bytes.decode" (encU l).toArray (Str.ofString "utf-8") none []) Q' E' s' := fun {A s' Q' E'} h => by
    rw [KBd.road_eq]
    refine wpAny_bind (decode_ok hx hl fun n => ?_)
    exact wpAny_mkStr (h _ _) (by rw [sizeLine_eq]; show l.toArray.size ≤ _; rw [List.size_toArray]; omega)
  rw [e] at hrun ⊢
  rw [decode_two]
  refine wpAny_bind (wpAny_mkStr ?_ (by decide))
  refine wpAny_bind (wpAny_mkStr ?_ (by decide))
  refine wpAny_bind (wpAny_mkStr ?_ (by decide))
  refine wpAny_bind (call_function_entry KBd.kind_text KBd.plain_text KBd.entry_text (KBd.args_text _ _ _ _) ?_)
  show wpAny _ _ (Builtin.Bytes.bytesLike _ (.bytes (c :: cs).toArray t) >>= fun r => _) _ _ _
  refine wpAny_bind (wpAny_of_eq KBd.like_eq ?_)
  refine wpAny_bind (wpAny_of_eq KBd.held_eq ?_)
  refine wpAny_bind (hrun fun t' tk => ?_)
  exact wpAny_pure ⟨_, rfl, wpAny_pure ⟨_, rfl, hq _ _ (Aft.of_tok S) (.str _ _)⟩⟩
end Mine

namespace Mine
set_option maxRecDepth 100000

/-! ## repr -/
noncomputable def pyN : Nat → AV → PyData
  | _, .none => .none
  | _, .bool b => .bool b
  | _, .int b => .int b
  | _, .str b => .str b
  | n + 1, .list xs => .list (xs.map (pyN n))
  | n + 1, .dict es => .dict (es.map fun e => (.str e.1, pyN n e.2))
  | _, _ => .none

theorem readsAll_of {w : World} {D : DA} {h : Heap} {H : List Addr} {f : AV → PyData} : ∀ {vs : List Value} {xs : List AV}, (∀ x ∈ xs, ∀ v, Rd w D h H v x → ∃ as, Reads h v (f x) as ∧ sysModules ∉ as) → RdL w D h H vs xs → ∃ as, ReadsAll h vs (xs.map f) as ∧ sysModules ∉ as
  | [], [], _, _ => ⟨[], .nil, fun q => nomatch q⟩
  | v :: vs, x :: xs, hf, .cons r1 r2 => by
    obtain ⟨as, h1, h2⟩ := hf x (List.mem_cons_self ..) v r1
    obtain ⟨bs, h3, h4⟩ := readsAll_of (fun y hy => hf y (List.mem_cons_of_mem _ hy)) r2
    exact ⟨as ++ bs, .cons h1 h3, fun q => (List.mem_append.mp q).elim h2 h4⟩
theorem pairsRead_of {w : World} {D : DA} {h : Heap} {H : List Addr} {f : AV → PyData} : ∀ {kvs : List (Str × Value)} {es : List (Str × AV)}, (∀ e ∈ es, ∀ v, Rd w D h H v e.2 → ∃ as, Reads h v (f e.2) as ∧ sysModules ∉ as) → kvs.map (·.1) = es.map (·.1) → RdL w D h H (kvs.map (·.2)) (es.map (·.2)) →
    ∃ as, PyProof.V.PairsRead h PyData.str kvs (es.map fun e => (.str e.1, f e.2)) as ∧ sysModules ∉ as
  | [], [], _, _, _ => ⟨[], .nil, fun q => nomatch q⟩
  | [], _ :: _, _, e, _ => by simp at e
  | _ :: _, [], _, e, _ => by simp at e
  | (k, v) :: kvs, (k', x) :: es, hf, e, r => by
    simp only [List.map_cons, List.cons.injEq] at e r
    obtain ⟨rfl, e⟩ := e
    cases r with | cons r1 r2 =>
    obtain ⟨as, h1, h2⟩ := hf _ (List.mem_cons_self ..) v r1
    obtain ⟨bs, h3, h4⟩ := pairsRead_of (fun y hy => hf y (List.mem_cons_of_mem _ hy)) e r2
    exact ⟨as ++ bs, .cons h1 h3, fun q => (List.mem_append.mp q).elim h2 h4⟩

theorem rd_reads {w : World} {D : DA} {h : Heap} {H : List Addr} : ∀ {n : Nat} {v : AV} {val : Value}, GoodN n v → Rd w D h H val v → ∃ as, Reads h val (pyN n v) as ∧ sysModules ∉ as
  | n, .none, _, _, r => by cases r; unfold pyN; exact ⟨[], .none, fun q => nomatch q⟩
  | n, .bool _, _, _, r => by cases r; unfold pyN; exact ⟨[], .bool _, fun q => nomatch q⟩
  | n, .int _, _, _, r => by cases r; unfold pyN; exact ⟨[], .int _ _, fun q => nomatch q⟩
  | n, .str _, _, _, r => by cases r; unfold pyN; exact ⟨[], .str _ _, fun q => nomatch q⟩
  | n + 1, .list xs, _, hg, r => by
    unfold GoodN at hg
    cases r with | @list a items _ g1 g2 gs g3 =>
    obtain ⟨as, h1, h2⟩ := readsAll_of (f := pyN n) (fun x hx v rv => rd_reads (hg.2 x hx) rv) g3
    obtain ⟨o, ho, hc, m, hd⟩ := g1
    unfold pyN
    exact ⟨a :: as, .list ho hc hd h1, fun q => (List.mem_cons.mp q).elim (fun e => gs e.symm) h2⟩
  | n + 1, .dict es, _, hg, r => by
    unfold GoodN at hg
    cases r with | @dict a kvs _ g1 g2 gs gk g3 =>
    obtain ⟨as, h1, h2⟩ := pairsRead_of (f := pyN n) (fun x hx v rv => rd_reads (hg.2.2 x hx).2 rv) gk g3
    unfold pyN
    refine ⟨a :: as, PyProof.V.reads_dictOf (fun k key hk => ?_) g1 h1, fun q => (List.mem_cons.mp q).elim (fun e => gs e.symm) h2⟩
    have hv : ∃ t, key = .str k t := by
      simp only [PySem.strKind, Value.isStrOf] at hk
      cases key <;> simp_all
    obtain ⟨t, rfl⟩ := hv
    exact .str _ _
  | 0, .list _, _, h, _ => by unfold GoodN at h; exact h.elim
  | 0, .dict _, _, h, _ => by unfold GoodN at h; exact h.elim
  | n, .bytes _, _, h, _ => by unfold GoodN at h; exact h.elim
  | n, .tuple _, _, h, _ => by unfold GoodN at h; exact h.elim
  | n, .idict _, _, h, _ => by unfold GoodN at h; exact h.elim
  | n, .draw, _, h, _ => by unfold GoodN at h; exact h.elim
  | n, .cells, _, h, _ => by unfold GoodN at h; exact h.elim
  | n, .typ _, _, h, _ => by unfold GoodN at h; exact h.elim
  | n, .range _, _, h, _ => by unfold GoodN at h; exact h.elim
  | n, .types _, _, h, _ => by unfold GoodN at h; exact h.elim
  | n, .raw _, _, h, _ => by unfold GoodN at h; exact h.elim

theorem textFrom_up {B : Nat} : ∀ (ts : List Str) (k : Nat) (acc : Str), (∀ t ∈ ts, t.length ≤ B) → (textFrom k acc ts).length ≤ acc.length + ts.length * (B + 2)
  | [], k, acc, _ => by simp [textFrom]
  | t :: ts, k, acc, h => by
    have h1 := h t (List.mem_cons_self ..)
    have h2 := textFrom_up ts (k + 1) (acc ++ (if k > 0 then ", " else "" : String) ++ t) fun t ht => h t (List.mem_cons_of_mem _ ht)
    have e1 : ((if k > 0 then ", " else "" : String) : Str).length ≤ 2 := by split <;> decide
    rw [Str.length_append, Str.length_append] at h2
    unfold textFrom
    rw [List.length_cons, Nat.add_mul]
    omega
theorem listText_up {B : Nat} {ts : List Str} (h : ∀ t ∈ ts, t.length ≤ B) (hl : ts.length ≤ 3) : (listText ts).length ≤ 3 * (B + 2) + 2 := by
  have h1 := textFrom_up ts 0 "[" h
  have e1 : ("[" : Str).length = 1 := by decide
  have e2 : ("]" : Str).length = 1 := by decide
  have h2 : ts.length * (B + 2) ≤ 3 * (B + 2) := Nat.mul_le_mul_right _ hl
  unfold listText
  rw [Str.length_append]
  omega
theorem join_up {B : Nat} : ∀ (ts : List Str), (∀ t ∈ ts, t.length ≤ B) → (Str.join ", " ts).length ≤ ts.length * (B + 2)
  | [], _ => by simp [Str.join, Str.empty, Str.length]
  | [t], h => by have := h t (by simp); simp [Str.join]; omega
  | t :: u :: r, h => by
    have h1 := h t (by simp)
    have h2 := join_up (u :: r) fun z hz => h z (List.mem_cons_of_mem _ hz)
    have e1 : (", " : Str).length = 2 := by decide
    unfold Str.join
    rw [Str.length_append, Str.length_append, List.length_cons, Nat.add_mul]
    omega
theorem dictText_up {B : Nat} {ts : List Str} (h : ∀ t ∈ ts, t.length ≤ B) (hl : ts.length ≤ 3) : (dictText ts).length ≤ 3 * (B + 2) + 2 := by
  have h1 := join_up ts h
  have e1 : ("{" : Str).length = 1 := by decide
  have e2 : ("}" : Str).length = 1 := by decide
  have h2 : ts.length * (B + 2) ≤ 3 * (B + 2) := Nat.mul_le_mul_right _ hl
  unfold dictText
  rw [Str.length_append, Str.length_append]
  omega
theorem shownAll_eq : ∀ xs : List PyData, PyData.shownAll xs = xs.map PyData.shown
  | [] => by simp [PyData.shownAll]
  | x :: xs => by simp [PyData.shownAll, shownAll_eq xs]
theorem shownKv_eq' : ∀ xs : List (PyData × PyData), PyData.shownKv xs = xs.map fun (p : PyData × PyData) => (p.1.shown ++ (": " : Str) ++ p.2.shown : Str)
  | [] => by simp [PyData.shownKv]
  | (a, b) :: xs => by simp [PyData.shownKv, shownKv_eq' xs]
theorem showableAll_of : ∀ {xs : List PyData}, (∀ x ∈ xs, x.showable = true) → PyData.showableAll xs = true
  | [], _ => by simp [PyData.showableAll]
  | x :: xs, h => by
    have h1 := h x (by simp)
    have h2 := showableAll_of (xs := xs) fun y hy => h y (List.mem_cons_of_mem _ hy)
    simp [PyData.showableAll, h1, h2]
theorem showableKv_of : ∀ {xs : List (PyData × PyData)}, (∀ x ∈ xs, x.1.showable = true ∧ x.2.showable = true) → PyData.showableKv xs = true
  | [], _ => by simp [PyData.showableKv]
  | (a, b) :: xs, h => by
    have h1 := h (a, b) (by simp)
    have h2 := showableKv_of (xs := xs) fun y hy => h y (List.mem_cons_of_mem _ hy)
    simp [PyData.showableKv, h1.1, h1.2, h2]
theorem depthAll_of {n : Nat} : ∀ {xs : List PyData}, (∀ x ∈ xs, x.depth ≤ n) → PyData.depthAll xs ≤ n
  | [], _ => by simp [PyData.depthAll]
  | x :: xs, h => by
    have h1 := h x (by simp)
    have h2 := depthAll_of (xs := xs) fun y hy => h y (List.mem_cons_of_mem _ hy)
    simp only [PyData.depthAll]; omega
theorem depthKv_of {n : Nat} : ∀ {xs : List (PyData × PyData)}, (∀ x ∈ xs, x.1.depth ≤ n ∧ x.2.depth ≤ n) → PyData.depthKv xs ≤ n
  | [], _ => by simp [PyData.depthKv]
  | (a, b) :: xs, h => by
    have h1 : a.depth ≤ n ∧ b.depth ≤ n := h (a, b) (by simp)
    have h2 := depthKv_of (xs := xs) fun y hy => h y (List.mem_cons_of_mem _ hy)
    simp only [PyData.depthKv]; omega

theorem repr_txt {x : Str} (h : TxtOk x) : (reprText x).length ≤ 32 := by
  have h1 := StrLaws.reprText_len x fun c hc => by
    obtain ⟨p, hp, rfl⟩ := h.1 c hc
    have := hp.le
    exact Nat.lt_of_le_of_lt this (by decide)
  have := h.2
  omega
theorem py_facts : ∀ {n : Nat} {v : AV}, GoodN n v → (pyN n v).showable = true ∧ (pyN n v).depth ≤ n ∧ (pyN n v).shown.length ≤ 400 * 4 ^ n
  | n, .none, _ => by
    have := Nat.one_le_pow n 4 (by decide)
    unfold pyN
    refine ⟨by simp [PyData.showable], by simp [PyData.depth], ?_⟩
    simp only [PyData.shown]
    have : ("None" : Str).length = 4 := by decide
    omega
  | n, .bool b, _ => by
    have := Nat.one_le_pow n 4 (by decide)
    unfold pyN
    refine ⟨by simp [PyData.showable], by simp [PyData.depth], ?_⟩
    simp only [PyData.shown]
    have : (if b = true then Str.ofString "True" else Str.ofString "False").length ≤ 5 := by cases b <;> decide
    omega
  | n, .int i, h => by
    have := Nat.one_le_pow n 4 (by decide)
    unfold GoodN at h
    unfold pyN
    refine ⟨by simp [PyData.showable, log2_small h], by simp [PyData.depth], ?_⟩
    simp only [PyData.shown]
    have h1 := int_text_length_le10 (a := i) (k := 40) (by decide) h
    rw [← PySem.ofString_length] at h1
    show (Str.ofString (toString i)).length ≤ _
    omega
  | n, .str x, h => by
    have := Nat.one_le_pow n 4 (by decide)
    unfold GoodN at h
    unfold pyN
    refine ⟨by simp [PyData.showable], by simp [PyData.depth], ?_⟩
    simp only [PyData.shown]
    have := repr_txt h
    omega
  | n + 1, .list xs, h => by
    have := Nat.one_le_pow n 4 (by decide)
    unfold GoodN at h
    have ih := fun x hx => py_facts (h.2 x hx)
    unfold pyN
    refine ⟨?_, ?_, ?_⟩
    · simp only [PyData.showable]
      refine showableAll_of fun x hx => ?_
      obtain ⟨z, hz, rfl⟩ := List.mem_map.mp hx
      exact (ih z hz).1
    · simp only [PyData.depth]
      have := depthAll_of (n := n) (xs := xs.map (pyN n)) fun x hx => by
        obtain ⟨z, hz, rfl⟩ := List.mem_map.mp hx
        exact (ih z hz).2.1
      omega
    · simp only [PyData.shown]
      rw [shownAll_eq]
      have h1 := listText_up (B := 400 * 4 ^ n) (ts := (xs.map (pyN n)).map PyData.shown) (fun t ht => by
        rw [List.map_map] at ht
        obtain ⟨z, hz, rfl⟩ := List.mem_map.mp ht
        exact (ih z hz).2.2) (by simpa using h.1)
      rw [Nat.pow_succ]
      omega
  | n + 1, .dict es, h => by
    have := Nat.one_le_pow n 4 (by decide)
    unfold GoodN at h
    have ih := fun x hx => py_facts (h.2.2 x hx).2
    unfold pyN
    refine ⟨?_, ?_, ?_⟩
    · simp only [PyData.showable]
      refine showableKv_of fun x hx => ?_
      obtain ⟨z, hz, rfl⟩ := List.mem_map.mp hx
      exact ⟨by simp [PyData.showable], (ih z hz).1⟩
    · simp only [PyData.depth]
      have := depthKv_of (n := n) (xs := es.map fun e => (PyData.str e.1, pyN n e.2)) fun x hx => by
        obtain ⟨z, hz, rfl⟩ := List.mem_map.mp hx
        exact ⟨by simp [PyData.depth], (ih z hz).2.1⟩
      omega
    · simp only [PyData.shown]
      rw [shownKv_eq']
      have h1 := dictText_up (B := 400 * 4 ^ n + 34) (ts := (es.map fun e => (PyData.str e.1, pyN n e.2)).map fun (p : PyData × PyData) => (p.1.shown ++ (": " : Str) ++ p.2.shown : Str)) (fun t ht => by
        rw [List.map_map] at ht
        obtain ⟨z, hz, rfl⟩ := List.mem_map.mp ht
        have q1 := (ih z hz).2.2
        have q2 := repr_txt (h.2.2 z hz).1
        have e1 : (": " : Str).length = 2 := by decide
        show (PyData.shown (.str z.1) ++ (": " : Str) ++ (pyN n z.2).shown : Str).length ≤ _
        rw [Str.length_append, Str.length_append]
        simp only [PyData.shown]
        omega) (by simpa using h.1)
      rw [Nat.pow_succ]
      omega
  | 0, .list _, h => by unfold GoodN at h; exact h.elim
  | 0, .dict _, h => by unfold GoodN at h; exact h.elim
  | n, .bytes _, h => by unfold GoodN at h; exact h.elim
  | n, .tuple _, h => by unfold GoodN at h; exact h.elim
  | n, .idict _, h => by unfold GoodN at h; exact h.elim
  | n, .draw, h => by unfold GoodN at h; exact h.elim
  | n, .cells, h => by unfold GoodN at h; exact h.elim
  | n, .typ _, h => by unfold GoodN at h; exact h.elim
  | n, .range _, h => by unfold GoodN at h; exact h.elim
  | n, .types _, h => by unfold GoodN at h; exact h.elim
  | n, .raw _, h => by unfold GoodN at h; exact h.elim

theorem FOk.repr {k n : Nat} {v : AV} (h : GoodN n v) (hb : v.big = true) (hn : n ≤ 5) : FOk k (.builtin "repr") [v] (.str (pyN n v).shown) := by
  constructor; intro C σ δ s vals Q E nm O S r hq
  cases r with | cons r1 r2 =>
  cases r2
  obtain ⟨l, rfl⟩ := big_ref r1 hb
  obtain ⟨as, h1, h2⟩ := rd_reads h r1
  obtain ⟨f1, f2, f3⟩ := py_facts h
  have hu := O.room.units
  have h4 : 400 * 4 ^ n ≤ 409600 := by
    have : 4 ^ n ≤ 4 ^ 5 := Nat.pow_le_pow_right (by decide) hn
    have e : (4 : Nat) ^ 5 = 1024 := by decide
    omega
  refine wpAny_size (repr_of_reads' h1 f1 (fun _ => h2) O.room.guards (by rw [cLine_val]; omega) (fun _ _ e => e) (fun h' u tk hk hz => ?_) (by rw [sizeLine_eq]; omega))
  exact hq _ _ (Aft.of_keep S hk hz) (.str _ _)
end Mine

namespace Mine
set_option maxRecDepth 100000

/-! ## _law_draw -/
section
variable {k : Nat} {nm : List (Str × NameKind)} {σ : List (Str × AV)} {δ : Draw} {C : Cx} {s : Shared} {Q : Value → Shared → Prop} {E : Value → Shared → Prop}
/-- xs[:j], the list is new -/
theorem slice_new {v b p pos xs} {j : Nat} (h1 : EvOk k nm σ δ v (.ok (.list xs)) δ) (h3 : EvOk k nm σ δ b (.ok (.int (j : Int))) δ) (hx : xs.length ≤ sizeLine) (O : C.Ok k nm) (S : EvSt C σ δ s)
    (hq : ∀ l items s', Aft C s s' δ → PlainL s'.heap l items → s.heap.objs.size ≤ l → RdL C.w C.D s'.heap C.H items.toList (xs.take j) → Q (.ref l) s') :
    wpAny (MM C.w) C.A (eval (.Subscript v (.Slice Option.none (some b) Option.none p) pos) C.env) Q E s := by
  refine Sub_any (h1.run C s _ _ O S (fun va av s1 e1 a1 r1 => ?_) fun e X s1 e1 _ => nomatch e1)
  cases e1
  have S1 := S.aft O a1
  refine wpAny_Slice (evalPart_none_step ?_)
  show wpAny _ _ (eval b C.env) _ _ _
  refine h3.run C s1 _ _ O S1 (fun vc cv s3 e3 a3 r3 => ?_) fun e X s1 e1 _ => nomatch e1
  cases e3
  cases r3 with | int _ u2 =>
  have S3 := S1.aft O a3
  refine evalPart_none_step ?_
  have a4 := Aft.of_push (t := s3.toks) S3 { cls := .type "slice", data := .fields #[.none, .int j u2, .none] }
  have r4 := (a3.trans a4).rd O r1
  have S4 := S3.aft O a4
  cases r4 with | @list a items _ g1 g2 gs g3 =>
  have hn3 := g3.length
  refine ⟨"list", _, slot_list_getitem.lookup, g1.typeIs, wpAny_getItem_list_slice (lo := Option.none) (hi := some (j : Int)) (st := Option.none) g1 ⟨_, Heap.get?_push_size _ rfl, rfl, rfl⟩ .none (.int _ _) .none (by simp) ?_ (by simp at hn3; omega)⟩
  rw [slicePick_upto']
  have a5 := Aft.of_push (t := s3.toks) S4 { cls := .type "list", data := .seq (items.toList.take j).toArray }
  have sz : s.heap.objs.size ≤ (s3.heap.push { cls := .type "slice", data := .fields #[.none, .int j u2, .none] }).objs.size := Nat.le_trans a1.sz (Nat.le_trans a3.sz a4.sz)
  refine hq _ (items.toList.take j).toArray _ (((a1.trans a3).trans a4).trans a5) ⟨_, 0, Heap.get?_push_size _ rfl, rfl, rfl, rfl⟩ sz ?_
  have := a5.rdl O g3
  rw [List.toList_toArray]
  exact this.takes j

/-- [xs[:j], seed, 6] -/
theorem draw_new {v b p pos k6 p6 lp x np} {ns : List Int} {j : Nat} {sd : Int} (h1 : EvOk k nm σ δ v (.ok (.list (ns.map AV.int))) δ) (h3 : EvOk k nm σ δ b (.ok (.int (j : Int))) δ) (h4 : σ.lookup x = some (.int sd)) (hd : (x == ("__debug__" : Str)) = false) (hx : ns.length ≤ sizeLine) (O : C.Ok k nm) (S : EvSt C σ δ s)
    (hq : ∀ d c its t1 t2 s', Aft C s s' δ → d ≠ c → s.heap.objs.size ≤ d → s.heap.objs.size ≤ c → s'.heap.IsList d #[.ref c, .int sd t1, .int 6 t2] → PlainL s'.heap c its → RdL C.w C.D s'.heap C.H its.toList ((ns.take j).map AV.int) → Q (.ref d) s') :
    wpAny (MM C.w) C.A (eval (.List [.Subscript v (.Slice Option.none (some b) Option.none p) pos, .Name x np, .Constant (.int 6) k6 p6] lp) C.env) Q E s := by
  refine wpAny_List_spliced (wpAny_items_cons (slice_new h1 h3 (by simpa using hx) O S fun l items s1 a1 hpl hl hrd => ?_) rfl)
  have S1 := S.aft O a1
  refine wpAny_items_cons ((EvOk.name (k := k) (nm := nm) (δ := δ) h4 hd).run C s1 _ _ O S1 (fun vb bv s2 e2 a2 r2 => ?_) fun e X s1 e1 _ => nomatch e1) rfl
  cases e2
  cases r2 with | int _ t1 =>
  have S2 := S1.aft O a2
  refine wpAny_items_cons (wpAny_Constant_int ?_) rfl
  refine wpAny_items_nil ?_
  refine ⟨(by show 3 ≤ sizeLine; decide), ?_⟩
  have a3 : Aft C s2 { s2 with heap := s2.heap.push { cls := .type "list", data := .seq ([Value.ref l, .int sd t1, .int 6 s2.toks] : List Value).toArray }, toks := s2.toks + 1 } δ := Aft.of_push S2 _
  have hl2 : l < s2.heap.objs.size := Nat.lt_of_lt_of_le (let ⟨_, _, e, _⟩ := hpl; Heap.lt_size e) a2.sz
  have hlD : l ∉ Dl C.D := fun q => Nat.lt_irrefl _ (Nat.lt_of_lt_of_le (S.dr.lt _ q) hl)
  have hpl2 : PlainL s2.heap l items := let ⟨o, n, e, r⟩ := hpl; ⟨o, n, v_keep a2.keep _ _ hlD e, r⟩
  refine hq s2.heap.objs.size l items t1 s2.toks _ ((a1.trans a2).trans a3) (Nat.ne_of_gt hl2) (Nat.le_trans a1.sz a2.sz) hl ⟨_, Heap.get?_push_size _ rfl, rfl, _, rfl⟩ (let ⟨o, n, e, r⟩ := hpl2; ⟨o, n, Heap.get?_push_of_some _ e, r⟩) ?_
  have := ((a2.trans a3).rdl O hrd)
  rwa [List.map_take]
end

theorem def_97 : DefAt 97 (fdOf 97) ["script"] (bodyOf 97) := ⟨fun _ => rfl, fun _ => rfl, rfl, rfl, rfl, rfl, rfl, rfl, rfl, by decide⟩
noncomputable abbrev nm97 : List (Str × NameKind) := (fdOf 97).scope.names
noncomputable def nmD : List (Str × NameKind) := relabelN nm97 [(".0", .local), ("cell", .local), ("abs", .globalImplicit)]
noncomputable def drL (ns : List Int) (sd : Int) : Loc := [("script", .val (.raw ns)), ("seed", .val (.int sd))]
noncomputable def drB : List Stmt := wB (stAt (bodyOf 97) 1)

theorem seed_loop {δ : Draw} {ns0 : List Int} : ∀ (ns : List Int) (sd : Int), 0 ≤ sd ∧ sd < 2147483647 → ∃ sd', (0 ≤ sd' ∧ sd' < 2147483647) ∧ LOk 1 nm97 (drL ns0 sd) δ "cell" (ns.map AV.int) drB .next (drL ns0 sd') δ
  | [], sd, h => ⟨sd, h, LOk.nil⟩
  | a :: ns, sd, h => by
    let x : Int := sd * 48271 + (a.natAbs : Int) % 65521 + 1
    have b1 := Int.emod_nonneg (a.natAbs : Int) (b := 65521) (by decide)
    have hx : 0 ≤ x := by show 0 ≤ sd * 48271 + _ + 1; omega
    have c1 := Int.emod_nonneg x (b := 2147483647) (by decide)
    have c2 := Int.emod_lt_of_pos x (b := 2147483647) (by decide)
    obtain ⟨sd', h', hL⟩ := seed_loop (δ := δ) (ns0 := ns0) ns (x % 2147483647) ⟨c1, c2⟩
    refine ⟨sd', h', LOk.step (b := .next) (ℓ2 := drL ns0 (x % 2147483647)) (δ2 := δ) rfl (XsOk.forget (ℓ2 := setL "cell" (.val (.int a)) (drL ns0 (x % 2147483647))) (XsOk.one (XOk.assign (av := .int (x % 2147483647)) ?_ rfl)) (.cons rfl (.cons rfl .nil))) (.inl rfl) hL⟩
    have e1 : ((a.natAbs : Int)).fmod 65521 = (a.natAbs : Int) % 65521 := Int.fmod_eq_emod_of_nonneg _ (by decide)
    have e2 : x.fmod 2147483647 = x % 2147483647 := Int.fmod_eq_emod_of_nonneg _ (by decide)
    rw [← e2]
    refine EvOk.bin (a := .int x) (EvOk.bin (EvOk.bin (EvOk.bin (EvOk.name (av := .int sd) rfl) EvOk.int (BOk.mul (mulOk_small (by omega) (by decide)))) (EvOk.bin (EvOk.bcall bn_abs rfl (fun _ => nofun) (EvLOk.cons (EvOk.name (av := .int a) rfl) EvLOk.nil) FOk.abs) EvOk.int (e1 ▸ BOk.mod (by decide))) BOk.add) EvOk.int BOk.add) EvOk.int (BOk.mod (by decide))

theorem draw_call {w : World} {A : Around} {base : Heap} {outer : List Env} {s : Shared} {H : List Addr} {val : Value} {ns : List Int} {R : Result → Shared → Prop} (room : Room 3 A) (fr : A.frames = some outer) (gl : Gl w (V none s.heap)) (bs : base.StaysIn (V none s.heap)) (ff : (V none s.heap).FunFrames base outer)
    (hid : ∀ a ∈ H, 154 < a ∧ a < s.heap.objs.size) (rd : RdL w none s.heap H [val] [.raw ns]) (hl : ns.length ≤ 1000)
    (hok : ∀ d c its t1 t2 sd s', Same s s' → (V none s.heap).StaysIn (V none s'.heap) → d ≠ c → s.heap.objs.size ≤ d → s.heap.objs.size ≤ c → s'.heap.IsList d #[.ref c, .int sd t1, .int 6 t2] → PlainL s'.heap c its → RdL w none s'.heap [] its.toList (((ns.map fun a => (a.natAbs : Int)).take 60).map AV.int) →
      0 ≤ sd ∧ sd < 2147483647 → s.heap.objs.size ≤ s'.heap.objs.size → R (.ok (.ret (.ref d))) s') :
    codeAny (MM w) A (.call (.ref 97) ⟨[val], []⟩) R s := by
  let δ : Draw := ⟨[], 0, 0⟩
  refine enter_plain (k := 2) (δ := δ) def_97 (by decide) (by decide) rfl (fun s vals hv => ?_) room fr gl bs ff (fun _ _ e => nomatch e) hid (fun _ q => nomatch q) rd fun env s1 K S z1 k1 hc => ?_
  · match vals, hv with
    | [a], _ => exact BindsTo.of_eq rfl
  obtain ⟨sd, hsd, hL⟩ := seed_loop (δ := δ) (ns0 := ns) ns 7 (by decide)
  have h1 : XOk 2 nm97 [("script", .val (.raw ns))] δ (stAt (bodyOf 97) 0) .next (drL ns 7) δ := XOk.assign (av := .int 7) EvOk.int rfl
  have h2 : XOk 2 nm97 (drL ns 7) δ (stAt (bodyOf 97) 1) .next (drL ns sd) δ := XOk.for (a := .raw ns) (δ1 := δ) (EvOk.name rfl) ItOk.raw ⟨fun px F O s R I fp n P St K => hL.run px F O s R I fp n P St { K with c := K.c.mono (by omega) }⟩
  refine wpAny_execs_cons (h1.run _ [] s1 _ _ K S (fun s2 _ n2 => ?_) (fun _ e => nomatch e) (fun _ _ _ e => nomatch e) fun _ _ _ e => nomatch e)
  obtain ⟨⟨O2, S2, _⟩, _, z2⟩ := n2
  refine wpAny_execs_cons (h2.run _ O2 s2 _ _ K S2 (fun s3 _ n3 => ?_) (fun _ e => nomatch e) (fun _ _ _ e => nomatch e) fun _ _ _ e => nomatch e)
  obtain ⟨⟨O3, S3, _⟩, _, z3⟩ := n3
  refine wpAny_execs_cons (wpAny_Return_some ?_)
  have hsl : (ns.map fun a => (a.natAbs : Int)).length ≤ sizeLine := by rw [sizeLine_eq, List.length_map]; omega
  have hcomp : EvOk 2 nm97 (peek (drL ns sd)) δ (match (bodyOf 97).getD 2 (.Pass default) with | .Return (some (.List (.Subscript e _ _ :: _) _)) _ => e | _ => default) (.ok (.list ((ns.map fun a => (a.natAbs : Int)).map AV.int))) δ := by
    refine EvOk.listComp (res := .ok _) (nm' := nmD) (σc := []) (EvOk.name (av := .raw ns) rfl) ItOk.raw ?_ (comp_all (by simp) fun j a t ha ht => ?_) (by rw [sizeLine_eq]; simp; omega)
    · exact ⟨rfl, by decide, by decide, rfl, rfl, rfl, (fun y hy => nomatch hy), fun p hp => nomatch hp⟩
    · obtain ⟨n, h1, rfl⟩ := map_get ha
      obtain ⟨m, h2, rfl⟩ := map_get ht
      obtain ⟨n', h3, rfl⟩ := map_get h2
      rw [h1] at h3; cases h3
      exact EvOk.bcall bn_abs rfl (fun _ => nofun) (EvLOk.cons (EvOk.name (av := .int n) rfl) EvLOk.nil) FOk.abs
  refine draw_new (k := 2) (nm := nm97) (δ := δ) (ns := ns.map fun a => (a.natAbs : Int)) (j := 60) (sd := sd) hcomp EvOk.int rfl (by decide) hsl K.c (S3.evPeek K) fun d c its t1 t2 s4 a4 hne hd hc hl hp hr => ?_
  have hz := S3.sz K
  have S4 := S3.aft' K a4
  exact hok d c its t1 t2 sd s4 S4.same S4.h0 hne (Nat.le_trans hz hd) (Nat.le_trans hz hc) hl hp (hr.weak fun _ q => nomatch q) hsd (Nat.le_trans hz a4.sz)
end Mine

namespace Mine
set_option maxRecDepth 100000

/-! ## law: its lines with the draw hidden -/
theorem def_154 : DefAt 154 (fdOf 154) ["script"] (bodyOf 154) := ⟨fun _ => rfl, fun _ => rfl, rfl, rfl, rfl, rfl, rfl, rfl, rfl, by decide⟩
theorem gn_law : GName "law" fun _ => .ref 154 := ⟨fun _ => rfl, by decide⟩
noncomputable abbrev nm154 : List (Str × NameKind) := (fdOf 154).scope.names
noncomputable def lwL (ns : List Int) (v : AV) (f1 f2 : List Nat) : Loc := [("script", .val (.raw ns)), ("draw", .val .draw), ("value", .val v), ("first", .val (.str (txt f1))), ("second", .val (.str (txt f2)))]
noncomputable def lw0 (ns : List Int) : Loc := [("script", .val (.raw ns)), ("draw", .val .draw)]
noncomputable abbrev lst (i : Nat) : Stmt := stAt (bodyOf 154) i

theorem law_value {δ : Draw} (g : δ.Good) {ns : List Int} : ∃ v l1 l2 δ', v.big = true ∧ δ'.Good ∧ Gen 3 v l1 l2 ∧ XOk 20 nm154 (lw0 ns) δ (lst 1) .next (lwL ns v l1 l2) δ' := by
  obtain ⟨v, l1, l2, δ', hb, g', G, hc⟩ := value_gen 3 0 rfl δ g
  exact ⟨v, l1, l2, δ', hb rfl, g', G, XOk.unpackT [("value", _), ("first", _), ("second", _)] rfl (EvOk.call gn_law_value rfl fn_125 (EvLOk.cons (EvOk.name (av := .draw) rfl) (EvLOk.cons EvOk.int EvLOk.nil)) (hc.mono (by omega))) (by decide) rfl⟩
theorem law_second {δ : Draw} (g : δ.Good) {ns : List Int} {v : AV} {l1 l2 : List Nat} (hl : l2.length ≤ 100000) : ∃ b1 b2 δ', δ'.Good ∧ Blk b1 ∧ Blk b2 ∧ b1.length ≤ 2 ∧ b2.length ≤ 2 ∧ XOk 20 nm154 (lwL ns v l1 l2) δ (lst 2) .next (lwL ns v l1 (b1 ++ l2 ++ b2)) δ' := by
  obtain ⟨b1, δ2, hb1, hl1, g2, hc1⟩ := blank_ok g
  obtain ⟨b2, δ3, hb2, hl2, g3, hc2⟩ := blank_ok g2
  refine ⟨b1, b2, δ3, g3, hb1, hb2, hl1, hl2, XOk.assign (av := .str (txt (b1 ++ l2 ++ b2))) ?_ rfl⟩
  exact EvOk.bin (EvOk.bin (EvOk.blank (k := 18) rfl rfl hc1) (EvOk.name rfl) (cat_ok (by omega))) (EvOk.blank (k := 18) rfl rfl hc2) (cat_ok (by simp only [List.length_append]; omega))

/-- json_text(value, ',', ':', ..) called -/
theorem EvOk.jtext3 {k n nm σ δ p1 p2 p3 p4 p5 k1 k2} {v : AV} (hn : n ≤ 5) (hk : n + 3 ≤ k) (hj : nm.lookup (Str.ofString "json_text") = some .globalImplicit) (hv : σ.lookup (Str.ofString "value") = some v) (h : GoodN n v) :
    EvOk k nm σ δ (.Call (.Name "json_text" p1) [.Name "value" p2, .Constant (.str (Str.ofString ",")) k1 p3, .Constant (.str (Str.ofString ":")) k2 p4] [] p5) (.ok (.str (txt (jtextN false n v)))) δ :=
  EvOk.call gn_json_text hj fn_36 (EvLOk.cons (EvOk.name hv) (EvLOk.cons EvOk.str (EvLOk.cons EvOk.str EvLOk.nil))) ((json_text_ok3 hn h.jok).mono hk)
theorem EvOk.jtext4 {k n nm σ δ p1 p3 p4 p5 k1 k2 e kb pb} {v : AV} (hn : n ≤ 5) (hk : n + 3 ≤ k) (hj : nm.lookup (Str.ofString "json_text") = some .globalImplicit) (he : EvOk k nm σ δ e (.ok v) δ) (h : GoodN n v) (hs : ∀ es env, starEach (e :: es) env = (false, eval e env) :: starEach es env) :
    EvOk k nm σ δ (.Call (.Name "json_text" p1) [e, .Constant (.str (Str.ofString ",")) k1 p3, .Constant (.str (Str.ofString ":")) k2 p4, .Constant (.bool true) kb pb] [] p5) (.ok (.str (txt (jtextN true n v)))) δ :=
  EvOk.call gn_json_text hj fn_36 (EvLOk.cons he (EvLOk.cons EvOk.str (EvLOk.cons EvOk.str (EvLOk.cons EvOk.bool EvLOk.nil))) (fun env => hs _ env)) ((json_text_ok hn h.jok).mono hk)

noncomputable def nmM : List (Str × NameKind) := relabelN nm154 [(".0", .local), ("mark", .local), ("ord", .globalImplicit)]
theorem comp_none {k nm σ δ x elt c} : ∀ {items : List AV}, (∀ a ∈ items, TOk k nm ((x, a) :: σ) δ c false δ) → CompR k nm σ δ x [c] elt items (.ok [])
  | [], _ => .nil
  | a :: r, h => .skip (.inr ⟨c, rfl, h a (List.mem_cons_self ..)⟩) (comp_none fun b hb => h b (List.mem_cons_of_mem _ hb))

theorem law_test1 {δ : Draw} {ns : List Int} {v : AV} {f2 : List Nat} (h : GoodN 3 v) : XOk 20 nm154 (lwL ns v (jtextN false 3 v) f2) δ (lst 3) .next (lwL ns v (jtextN false 3 v) f2) δ := by
  have hl := jtext_len (b := false) 3 v h.jok
  have hp := pow3 (n := 3) (by decide)
  have hasc := asc_text false h
  refine XOk.ifF (δ1 := δ) (TOk.bool (AllOk.orF (δ1 := δ) (TOk.cmp' (EvOk.jtext3 (n := 3) (v := v) (by decide) (by decide) rfl rfl h) (EvOk.name (av := .str (txt (jtextN false 3 v))) rfl) POk.neS (by simp)) (AllOk.orF (δ1 := δ) (TOk.cmp' (EvOk.listComp (res := .ok []) (nm' := nmM) (σc := []) (EvOk.name (av := .str (txt (jtextN false 3 v))) rfl) ItOk.str ?_ (comp_none fun a ha => ?_) ?_) (EvOk.list EvLOk.nil (by decide)) POk.neNil rfl) AllOk.orNil))) XsOk.nil
  · exact ⟨rfl, by decide, by decide, rfl, rfl, rfl, (fun y hy => nomatch hy), fun p hp => nomatch hp⟩
  · obtain ⟨c, hc, rfl⟩ := List.mem_map.mp ha
    have hb := hasc c (by rw [txt_cps] at hc; exact hc)
    refine (TOk.not (TOk.chainT (δ1 := δ) (δ2 := δ) EvOk.int (EvOk.bcall bn_ord rfl (fun _ => nofun) (EvLOk.cons (EvOk.name (av := .str ⟨#[c]⟩) rfl) EvLOk.nil) FOk.ord) (POk.leI.of (decide_eq_true (by omega))) EvOk.int (POk.leI.of (decide_eq_true (show (c : Int) ≤ 126 by omega))))).of rfl
  · rw [List.length_map, txt_cps, sizeLine_eq]; omega

/-- a turn of the loop over the texts -/
theorem law_turn {δ : Draw} {ns : List Int} {v : AV} {f1 f2 : List Nat} {a : AV} (h : GoodN 3 v) (hb : v.big = true) (hc : CallOk 20 92 [a] δ (.ok v) δ) :
    XsOk 20 nm154 (setL "text" (.val a) (lwL ns v f1 f2)) δ (wB (lst 4)) .next (lwL ns v f1 f2) δ := by
  refine XsOk.forget (ℓ2 := setL "told" (.val v) (setL "text" (.val a) (lwL ns v f1 f2))) ?_ (.cons rfl (.cons rfl (.cons rfl (.cons rfl (.cons rfl .nil)))))
  refine XsOk.cons (δ1 := δ) (ℓ1 := setL "told" (.val v) (setL "text" (.val a) (lwL ns v f1 f2))) (XOk.assign (av := v) (EvOk.call gn_json_value rfl fn_92 (EvLOk.cons (EvOk.name (av := a) rfl) EvLOk.nil) hc) rfl) ?_
  refine XsOk.one (XOk.ifF (δ1 := δ) (TOk.bool (AllOk.orF (δ1 := δ) (TOk.cmp' (EvOk.name (av := v) rfl) (EvOk.name (av := v) rfl) (POk.neN (eq_self h) hb (by decide)) rfl) (AllOk.orF (δ1 := δ) (TOk.cmp' (EvOk.bcall bn_repr rfl (fun _ => nofun) (EvLOk.cons (EvOk.name (av := v) rfl) EvLOk.nil) (FOk.repr h hb (by decide))) (EvOk.bcall bn_repr rfl (fun _ => nofun) (EvLOk.cons (EvOk.name (av := v) rfl) EvLOk.nil) (FOk.repr h hb (by decide))) POk.neS (by simp)) AllOk.orNil))) XsOk.nil)

theorem law_texts {δ : Draw} {ns : List Int} {v : AV} {f1 f2 : List Nat} (h : GoodN 3 v) (hb : v.big = true) (h1 : CallOk 20 92 [.str (txt f1)] δ (.ok v) δ) (h2 : CallOk 20 92 [.str (txt f2)] δ (.ok v) δ) (h3 : CallOk 20 92 [.bytes (encU f2).toArray] δ (.ok v) δ)
    (hu : ∀ c ∈ f2, uniD c) (hl : f2.length ≤ 1000000) : XOk 20 nm154 (lwL ns v f1 f2) δ (lst 4) .next (lwL ns v f1 f2) δ := by
  refine XOk.for (a := .tuple [.str (txt f1), .str (txt f2), .bytes (encU f2).toArray]) (δ1 := δ) (EvOk.tuple (EvLOk.cons (EvOk.name rfl) (EvLOk.cons (EvOk.name rfl) (EvLOk.cons (δ1 := δ) ?_ EvLOk.nil))) (by show 3 ≤ sizeLine; decide)) ItOk.tuple (LOk.step rfl (law_turn h hb h1) (.inl rfl) (LOk.step rfl (law_turn h hb h2) (.inl rfl) (LOk.step rfl (law_turn h hb h3) (.inl rfl) LOk.nil)))
  refine EvOk.meth (EvOk.name (av := .str (txt f2)) rfl) (EvLOk.cons EvOk.str EvLOk.nil) rfl F.plainAttrs_str F.slot_str_encode F.type_str_encode (FOk.encode (x := txt f2) (fun c hc => ?_) (by rw [txt_len]; exact hl))
  rcases hu c (by rw [txt_cps] at hc; exact hc) with hc | rfl | rfl
  · unfold Str.isSurrogate; simp; omega
  · decide
  · decide

noncomputable def lwO (ns : List Int) (v : AV) (f1 f2 : List Nat) (f3 : List Nat) : Loc := [("script", .val (.raw ns)), ("draw", .val .draw), ("value", .val v), ("first", .val (.str (txt f1))), ("second", .val (.str (txt f2))), ("ordered", .val (.str (txt f3)))]
theorem law_ordered {δ : Draw} {ns : List Int} {v : AV} {f1 f2 : List Nat} (h : GoodN 3 v) : XOk 20 nm154 (lwL ns v f1 f2) δ (lst 5) .next (lwO ns v f1 f2 (jtextN true 3 v)) δ :=
  XOk.assign (EvOk.jtext4 (n := 3) (v := v) (by decide) (by decide) rfl (EvOk.name rfl) h (fun _ _ => rfl)) rfl
theorem law_test2 {δ : Draw} {ns : List Int} {v : AV} {f1 f2 : List Nat} (h : GoodN 3 v) (hb : v.big = true) (hs : (srt true 3 v).big = true) (hc : CallOk 20 92 [.str (txt (jtextN true 3 v))] δ (.ok (srt true 3 v)) δ) : XOk 20 nm154 (lwO ns v f1 f2 (jtextN true 3 v)) δ (lst 6) .next (lwO ns v f1 f2 (jtextN true 3 v)) δ := by
  have hv : ∀ {p1 p2 p3}, EvOk 20 nm154 (peek (lwO ns v f1 f2 (jtextN true 3 v))) δ (.Call (.Name "json_value" p1) [.Name "ordered" p2] [] p3) (.ok (srt true 3 v)) δ := EvOk.call gn_json_value rfl fn_92 (EvLOk.cons (EvOk.name (av := .str (txt (jtextN true 3 v))) rfl) EvLOk.nil) hc
  refine XOk.ifF (δ1 := δ) (TOk.bool (AllOk.orF (δ1 := δ) (TOk.cmp' (EvOk.name (av := .str (txt (jtextN true 3 v))) rfl) (EvOk.jtext4 (n := 3) (v := turnN 3 v) (by decide) (by decide) rfl (EvOk.call gn_law_turned rfl fn_144 (EvLOk.cons (EvOk.name (av := v) rfl) EvLOk.nil) ((turned_ok 3 v h).mono (by omega))) (turn_good h) (fun _ _ => rfl)) POk.neS (by rw [turn_text h]; simp))
    (AllOk.orF (δ1 := δ) (TOk.cmp' hv (EvOk.name (av := v) rfl) (POk.neN (eq_srt true h) hs (by decide)) rfl) (AllOk.orF (δ1 := δ) ((TOk.not (TOk.val (EvOk.call gn_law_in_order rfl fn_149 (EvLOk.cons hv EvLOk.nil) ((inOrder_ok 3 _ (ord_srt h)).mono (by omega))))).of rfl) AllOk.orNil)))) XsOk.nil

noncomputable def lwC (ns : List Int) (v : AV) (f1 f2 f3 : List Nat) (cut : Nat) : Loc := [("script", .val (.raw ns)), ("draw", .val .draw), ("value", .val v), ("first", .val (.str (txt f1))), ("second", .val (.str (txt f2))), ("ordered", .val (.str (txt f3))), ("cut", .val (.int (cut : Int)))]
theorem law_cut {δ : Draw} (g : δ.Good) {ns : List Int} {v : AV} {f1 f2 f3 : List Nat} (h0 : 0 < f1.length) (hl : f1.length ≤ 1000000) : ∃ cut δ', cut < f1.length ∧ δ'.Good ∧ XOk 20 nm154 (lwO ns v f1 f2 f3) δ (lst 8) .next (lwC ns v f1 f2 f3 cut) δ' := by
  obtain ⟨r, δ', hr, g', hc⟩ := take_ok g h0
  refine ⟨r, δ', hr, g', XOk.assign (av := .int (r : Int)) (EvOk.take (n := (f1.length : Int)) rfl rfl ?_ hc) rfl⟩
  have := FOk.lenS (k := 20) (x := txt f1) (by rw [txt_len]; omega)
  rw [txt_len] at this
  exact EvOk.bcall bn_len rfl (fun _ => nofun) (EvLOk.cons (EvOk.name (av := .str (txt f1)) rfl) EvLOk.nil) this

/-! ### {key: value} -/
theorem aft_back' {C : Cx} {H : List Addr} {s s' : Shared} {δ : Draw} (a : Aft (C.hide H) s s' δ) : Aft C s s' δ := ⟨a.same, a.keep, a.dr, a.sz⟩
section
variable {k : Nat} {nm : List (Str × NameKind)} {σ : List (Str × AV)} {δ : Draw}
theorem EvSt.hideNew {C : Cx} {s : Shared} (S : EvSt C σ δ s) (dsub : ∀ a ∈ Dl C.D, a ∈ C.H) (o : Obj) : EvSt (C.hide [s.heap.objs.size]) σ δ { s with heap := s.heap.push o } := by
  have a : Aft C s { s with heap := s.heap.push o } δ := Aft.of_push S o
  refine ⟨S.gl.keeps a.keep, stays_trans S.base a.keep, funFrames_keeps a.keep S.ff, a.dr, fun b hb => ?_, fun x av e => ?_⟩
  · rcases List.mem_append.mp hb with h | h
    · exact ⟨(S.hid b h).1, Nat.lt_of_lt_of_le (S.hid b h).2 a.sz⟩
    · have : b = s.heap.objs.size := by simpa using h
      subst this
      exact ⟨gl_big S.gl, by show _ < (s.heap.push o).objs.size; rw [Heap.size_push]; omega⟩
  · obtain ⟨v, hn, hr⟩ := S.names x av e
    refine ⟨v, hn.keeps a.keep, (hr.fresh (H' := C.H ++ [s.heap.objs.size]) (Nat.le_refl _) fun b hb => ?_).keep fun b o' _ e => Heap.get?_push_of_some _ e⟩
    rcases List.mem_append.mp hb with h | h
    · exact .inr h
    · exact .inl (Nat.le_of_eq (by simpa using h : b = _).symm)
theorem dict1_run {C : Cx} {s : Shared} {K : Type} [DecidableEq K] (knd : KeyKind pw C.w K) {ke ve : Expr} {ka va : AV} {kk : K} {pos : Pos} {Q : Value → Shared → Prop} {E : Value → Shared → Prop} (hk : EvOk k nm σ δ ke (.ok ka) δ) (hv : EvOk k nm σ δ ve (.ok va) δ)
    (his : ∀ {D h H v}, Rd C.w D h H v ka → knd.is kk v = true) (O : C.Ok k nm) (S : EvSt C σ δ s)
    (hq : ∀ v s', Aft C s s' δ → s'.heap.DictOf knd s.heap.objs.size [(kk, v)] → Rd C.w C.D s'.heap C.H v va → Q (.ref s.heap.objs.size) s') : wpAny (MM C.w) C.A (eval (.Dict [some ke] [ve] pos) C.env) Q E s := by
  have S0 := S.hideNew O.dsub { cls := .type "dict", data := .dict #[] }
  have O0 := O.hide [s.heap.objs.size]
  have a0 : Aft C s { s with heap := s.heap.push { cls := .type "dict", data := .dict #[] } } δ := Aft.of_push S _
  refine wpAny_Dict_walk (knd := knd) rfl rfl (by simp) (by show 1 ≤ 15; decide) (pairTrees_cons_walk ?_)
  refine hk.run (C.hide [s.heap.objs.size]) _ _ _ O0 S0 (fun kv av s1 e1 a1 r1 => ?_) fun e X s1 e1 _ => nomatch e1
  cases e1
  have S1 := S0.aft O0 a1
  refine hv.run (C.hide [s.heap.objs.size]) s1 _ _ O0 S1 (fun vv av s2 e2 a2 r2 => ?_) fun e X s1 e1 _ => nomatch e1
  cases e2
  refine pairTrees_nil_walk ⟨[(kk, vv)], ⟨his r1, rfl, trivial⟩, ?_, fun h' hd hs => ?_⟩
  · have hnew : (s.heap.push { cls := .type "dict", data := .dict #[] }).DictOf knd s.heap.objs.size [] := Heap.DictOf.new s.heap
    have hnD : s.heap.objs.size ∉ Dl C.D := fun q => Nat.lt_irrefl _ (S.dr.lt _ q)
    exact (v_keep (D := C.D) (a1.trans a2).keep).dictOf hnD hnew
  · have a12 := aft_back' (a1.trans a2)
    have hkp : ∀ b o, b ≠ s.heap.objs.size → s2.heap.get? b = some o → h'.get? b = some o := fun b o hb e => hs.extBut b o hb e
    refine hq vv _ ⟨(a0.trans a12).same.trans ⟨rfl, rfl, rfl⟩, fun b o e => ?_, ?_, Nat.le_trans (a0.trans a12).sz (Nat.le_of_eq hs.1.symm)⟩ (by simpa [merged, stored] using hd) ?_
    · have e1 := (a0.trans a12).keep b o e
      exact get_v (hkp b o (fun q => Nat.lt_irrefl _ (q ▸ Heap.lt_size (v_get e))) (v_get e1)) (v_notin e1)
    · exact (a0.trans a12).dr.of_eq fun b hb o e => ⟨o.slots, hkp b o (fun q => Nat.lt_irrefl _ (q ▸ S.dr.lt _ hb)) e⟩
    · exact (r2.keep fun b o hb e => hkp b o (fun q => hb (List.mem_append_right _ (by simp [q]))) e).weak fun b hb => List.mem_append_left _ hb
end
end Mine

namespace Mine
set_option maxRecDepth 100000

section
variable {k : Nat} {nm : List (Str × NameKind)} {σ : List (Str × AV)} {δ : Draw}
theorem EvOk.dictI {i : Int} {ke ve pos va} (hk : EvOk k nm σ δ ke (.ok (.int i)) δ) (hv : EvOk k nm σ δ ve (.ok va) δ) : EvOk k nm σ δ (.Dict [some ke] [ve] pos) (.ok (.idict [(i, va)])) δ := by
  constructor; intro C s Q E O S hq he
  refine dict1_run (PySem.intKind pw C.w) (kk := i) hk hv (fun {D h H v} r => by cases r; simp [PySem.intKind, Value.isInt]) O S fun v s' a hd r => hq _ _ _ rfl a (.idict hd (hid_push S) (ne_sys_size S.gl) rfl (.cons r .nil))
theorem EvOk.dictS {x : Str} {ke ve pos va} (hk : EvOk k nm σ δ ke (.ok (.str x)) δ) (hv : EvOk k nm σ δ ve (.ok va) δ) : EvOk k nm σ δ (.Dict [some ke] [ve] pos) (.ok (.dict [(x, va)])) δ := by
  constructor; intro C s Q E O S hq he
  refine dict1_run (PySem.strKind pw C.w) (kk := x) hk hv (fun {D h H v} r => by cases r; simp [PySem.strKind, Value.isStrOf]) O S fun v s' a hd r => hq _ _ _ rfl a (.dict hd (hid_push S) (ne_sys_size S.gl) rfl (.cons r .nil))
end

/-! ## calls that catch, in the law's own frame -/
section
variable {F : FCx} {O : List Addr} {ℓ : Loc} {δ δ1 δ' : Draw} {s s' : Shared} {k : Nat} {nm : List (Str × NameKind)}
/-- the heap but for the draw and the frame -/
noncomputable def FCx.rest (F : FCx) (s : Shared) : Heap := hideAll (F.C.v s) [F.C.Lf]
theorem rest_get {b : Addr} {o : Obj} (e : (F.rest s).get? b = some o) : (F.C.v s).get? b = some o ∧ b ≠ F.C.Lf := by
  refine ⟨of_hideAll _ e, fun q => ?_⟩
  rw [FCx.rest, hideAll_none _ (by simp [q])] at e
  cases e
theorem get_rest {b : Addr} {o : Obj} (e : (F.C.v s).get? b = some o) (h : b ≠ F.C.Lf) : (F.rest s).get? b = some o := hideAll_get _ e (by simpa using h)
theorem StSt.h0rest (K : F.Ok k nm) (S : StSt F O ℓ δ s) : F.h0.StaysIn (F.rest s) := fun b o e => get_rest (S.h0 b o e) fun q => by rw [q, K.h0n] at e; cases e

theorem StSt.upto (K : F.Ok k nm) (S : StSt F O ℓ δ s) (same : Same s s') (st : (F.rest s).StaysIn (F.C.v s')) (up : (F.C.v s).UpToSlots (F.C.v s')) (dr : DrawAt F.C.w F.C.D s'.heap δ') (sz : s.heap.objs.size ≤ s'.heap.objs.size) : StSt F O ℓ δ' s' := by
  have kp : Keep (F.C.H ++ O) s.heap s'.heap := fun b o hb e => by
    have h1 : b ∉ F.C.H := fun q => hb (List.mem_append_left _ q)
    exact v_get (st b o (get_rest (get_v e fun q => h1 (K.c.dsub b q)) fun q => h1 (q ▸ K.lfH)))
  refine ⟨S.same.trans same, dr, stays_trans (S.h0rest K) st, fun a ha => ⟨(S.hid a ha).1, Nat.lt_of_lt_of_le (S.hid a ha).2 sz⟩, fun x c e => Nat.lt_of_lt_of_le (S.cel x c e) sz, fun a ha => ?_, ?_⟩
  · obtain ⟨h1, h2, h3, h4⟩ := S.own a ha
    exact ⟨h1, h2, h3, Nat.lt_of_lt_of_le h4 sz⟩
  · obtain ⟨m, hn, hl, hi⟩ := S.nml
    refine ⟨m, upto_ns hn up, fun x lv e => ?_, hi⟩
    have ho : ∀ a ∈ O, ∀ o, s.heap.get? a = some o → s'.heap.get? a = some o := fun a ha o e => by
      have h1 := (S.own a ha).1
      exact v_get (st a o (get_rest (get_v e fun q => h1 (K.c.dsub a q)) fun q => h1 (q ▸ K.lfH)))
    have h := hl x lv e
    cases lv with
    | val av =>
      obtain ⟨v, hv, hr⟩ := h
      refine ⟨v, hv.imp id fun ⟨hk', c, hc, o, ho', hd⟩ => ⟨hk', c, hc, o, st c o (get_rest ho' (K.cells x c hc)), hd⟩, hr.keep kp⟩
    | own xs =>
      obtain ⟨h1, a, items, hm, ha, ⟨o, n, ho', r⟩, hr⟩ := h
      exact ⟨h1, a, items, hm, ha, ⟨o, n, ho a ha o ho', r⟩, hr.keep kp⟩
    | ownD es =>
      obtain ⟨h1, a, kvs, hm, ha, ⟨o, es', ep, ho', r⟩, hs, e', hr⟩ := h
      exact ⟨h1, a, kvs, hm, ha, ⟨o, es', ep, ho a ha o ho', r⟩, hs, e', hr.keep kp⟩

/-- f(arg) is True -/
theorem catch_call {x np arg pos f a} {Q : Value → Shared → Prop} {E : Value → Shared → Prop} (K : F.Ok k nm) (ho : F.C.outer = []) (S : StSt F O ℓ δ s) (hg : GName x fun _ => .ref f) (hx : nm.lookup x = some .globalImplicit) (hf : IsFn f) (ha : EvOk k nm (peek ℓ) δ arg (.ok a) δ1) (hc : CatchOk k f [a] δ1 δ')
    (hs : ∀ env, starEach [arg] env = (false, eval arg env) :: starEach [] env) (hq : ∀ s', StSt F O ℓ δ' s' → Q (.bool true) s') : wpAny (MM F.C.w) F.C.A (eval (.Call (.Name x np) [arg] [] pos) F.C.env) Q E s := by
  have hal : EvLOk k nm (peek ℓ) δ [arg] (.ok [a]) δ1 := EvLOk.cons ha EvLOk.nil hs
  refine wpAny_Call_ofName (gname_eval (S.gl K) v_stays_real hg K.c.kind K.c.gl ((K.c.kindOf x).trans hx) ?_)
  obtain ⟨o, fd, hof, hfd⟩ := hf F.C.w
  refine callWith_function (o := o) (fd := fd) (evalArgs_sp (by rw [any_backTo]; exact hal.plain _) ?_)
  refine hal.run F.C s pos _ _ K.c (S.evPeek K) (fun vals avs s1 e1 a1 r1 => ?_) fun e X s1 e1 _ => nomatch e1
  cases e1
  have S1 := S.aft' K a1
  refine ⟨⟨v_get ((S1.gl K).1 _ _ hof), hfd⟩, wpAny_size (wpAny_call ?_)⟩
  obtain ⟨m, hn, _⟩ := S1.nml
  have hff := S1.ff K
  rw [ho] at hff
  obtain ⟨g1, ⟨L', oL, hL', hb, hoL, hnf⟩, g3⟩ := hff
  have eL : L' = F.C.Lf := Option.some.inj (hL'.symm.trans K.c.ff)
  subst eL
  refine hc.run F.C.w F.C.D F.C.A (F.rest s1) [F.C.fenv] s1 F.C.H vals _ K.c.room (by rw [K.c.fr, ho]) (K.gl0.keeps (S1.h0rest K)) (fun b o e => (rest_get e).1) ?_ S1.dr S1.hid K.c.dsub r1 fun s2 sm st up dr sz => ?_
  · exact ⟨g1, ⟨_, oL, hL', hideAll_none _ (by simp), hoL, hnf⟩, trivial⟩
  · exact hq s2 (S1.upto K sm st up dr sz)
end

/-! ## the law's end -/
structure RunL (ℓ : Loc) (δ : Draw) (sts : List Stmt) : Prop where
  run : ∀ (F : FCx) (O : List Addr) (s : Shared) (Q : Flow → Shared → Prop) (E : Value → Shared → Prop), F.Ok 20 nm154 → F.C.outer = [] → StSt F O ℓ δ s →
    (∀ s', Same F.s0 s' → F.h0.StaysIn (F.C.v s') → Q (.ret (.bool true)) s') → wpAny (MM F.C.w) F.C.A (execs sts F.C.env) Q E s
theorem RunL.cons {ℓ ℓ1 δ δ1 st rest} (h1 : XOk 20 nm154 ℓ δ st .next ℓ1 δ1) (h2 : RunL ℓ1 δ1 rest) : RunL ℓ δ (st :: rest) := by
  constructor; intro F O s Q E K ho S hq
  refine wpAny_execs_cons (h1.run F O s _ _ K S (fun s1 _ n1 => ?_) (fun _ e => nomatch e) (fun _ _ _ e => nomatch e) fun _ _ _ e => nomatch e)
  obtain ⟨⟨O1, S1, _⟩, _, _⟩ := n1
  exact h2.run F O1 s1 Q E K ho S1 hq

/-- if not f(a) or not g(b): return False -/
theorem RunL.notTwo {ℓ δ δ1 δ2 δ3 δ4 rest x1 x2 n1 n2 a1 a2 p1 p2 p3 p4 p5 p6 b f1 f2 v1 v2} (g1 : GName x1 fun _ => .ref f1) (hx1 : nm154.lookup x1 = some .globalImplicit) (hf1 : IsFn f1) (h1 : EvOk 20 nm154 (peek ℓ) δ a1 (.ok v1) δ1) (hc1 : CatchOk 20 f1 [v1] δ1 δ2)
    (g2 : GName x2 fun _ => .ref f2) (hx2 : nm154.lookup x2 = some .globalImplicit) (hf2 : IsFn f2) (h2 : EvOk 20 nm154 (peek ℓ) δ2 a2 (.ok v2) δ3) (hc2 : CatchOk 20 f2 [v2] δ3 δ4) (hr : RunL ℓ δ4 rest)
    (hs1 : ∀ env, starEach [a1] env = (false, eval a1 env) :: starEach [] env) (hs2 : ∀ env, starEach [a2] env = (false, eval a2 env) :: starEach [] env) :
    RunL ℓ δ (.If (.BoolOp .Or [.UnaryOp .Not (.Call (.Name x1 n1) [a1] [] p1) p2, .UnaryOp .Not (.Call (.Name x2 n2) [a2] [] p3) p4] p5) b [] p6 :: rest) := by
  constructor; intro F O s Q E K ho S hq
  refine wpAny_execs_cons (wpAny_If (wpAny_isTrue_BoolOp (wpAny_allTrue_Or_cons (wpAny_isTrue_Not (wpAny_isTrue_value (catch_call K ho S g1 hx1 hf1 h1 hc1 hs1 fun s1 S1 => ?_) rfl)))))
  refine wpAny_truthy_bool ?_
  rw [if_neg (by decide)]
  refine wpAny_allTrue_Or_cons (wpAny_isTrue_Not (wpAny_isTrue_value (catch_call K ho S1 g2 hx2 hf2 h2 hc2 hs2 fun s2 S2 => ?_) rfl))
  refine wpAny_truthy_bool ?_
  rw [if_neg (by decide)]
  refine wpAny_allTrue_Or_nil ?_
  rw [if_neg (by decide)]
  exact wpAny_execs_nil (hr.run F O s2 Q E K ho S2 hq)
/-- return f(a) and e -/
theorem RunL.retAnd {ℓ δ δ1 δ2 δ3 rest x1 n1 a1 p1 p2 p3 e f1 v1} (g1 : GName x1 fun _ => .ref f1) (hx1 : nm154.lookup x1 = some .globalImplicit) (hf1 : IsFn f1) (h1 : EvOk 20 nm154 (peek ℓ) δ a1 (.ok v1) δ1) (hc1 : CatchOk 20 f1 [v1] δ1 δ2) (h2 : EvOk 20 nm154 (peek ℓ) δ2 e (.ok (.bool true)) δ3)
    (hs1 : ∀ env, starEach [a1] env = (false, eval a1 env) :: starEach [] env) : RunL ℓ δ (.Return (some (.BoolOp .And [.Call (.Name x1 n1) [a1] [] p1, e] p2)) p3 :: rest) := by
  constructor; intro F O s Q E K ho S hq
  refine wpAny_execs_cons (wpAny_Return_some (wpAny_And2 (catch_call K ho S g1 hx1 hf1 h1 hc1 hs1 fun s1 S1 => ?_)))
  refine wpAny_truthy_bool ?_
  rw [if_pos rfl]
  refine h2.run F.C s1 _ _ K.c (S1.evPeek K) (fun v av s2 e2 a2 r2 => ?_) fun e X s1 e1 _ => nomatch e1
  cases e2
  cases r2
  have S2 := S1.aft' K a2
  exact hq s2 S2.same S2.h0
end Mine

namespace Mine
set_option maxRecDepth 100000

theorem subS_txt {l : List Nat} {j : Nat} : subS (txt l) 0 j = txt (l.take j) := by
  unfold subS
  rw [txt_cps]
  rfl
noncomputable def tails : List (List Nat) := [[93], [32, 49], [44], [120]]
theorem tails_ok : ∀ t ∈ tails, NoDig t ∧ spaces t < t.length ∧ t.length ≤ 2 := by
  intro t ht
  simp only [tails, List.mem_cons, List.not_mem_nil, or_false] at ht
  rcases ht with rfl | rfl | rfl | rfl <;> exact ⟨noDig_of (by decide), by decide, by decide⟩
theorem EvOk.tailList {k nm σ δ p1 p2 p3 p4 p5 k1 k2 k3 k4} : EvOk k nm σ δ (.List [.Constant (.str (Str.ofString "]")) k1 p1, .Constant (.str (Str.ofString " 1")) k2 p2, .Constant (.str (Str.ofString ",")) k3 p3, .Constant (.str (Str.ofString "x")) k4 p4] p5) (.ok (.list (tails.map fun b => .str (txt b)))) δ := by
  have e : tails.map (fun b => AV.str (txt b)) = [.str (Str.ofString "]"), .str (Str.ofString " 1"), .str (Str.ofString ","), .str (Str.ofString "x")] := by
    have h : tails.map txt = [Str.ofString "]", Str.ofString " 1", Str.ofString ",", Str.ofString "x"] := by decide +kernel
    have := congrArg (List.map AV.str) h
    rw [List.map_map] at this
    exact this
  rw [e]
  exact EvOk.list (EvLOk.cons EvOk.str (EvLOk.cons EvOk.str (EvLOk.cons EvOk.str (EvLOk.cons EvOk.str EvLOk.nil)))) (by decide)

/-- '[' + first + mid + first + ']' -/
theorem EvOk.twice {k nm σ δ p1 p2 p3 p4 p5 p6 p7 p8 p9 k1 k2 k3} {x : Str} {l m : List Nat} {ms : Str} (hx : σ.lookup x = some (.str (txt l))) (hm : ms = txt m) (hl : l.length ≤ 100000) (hml : m.length ≤ 10) (hdb : (x == ("__debug__" : Str)) = false) :
    EvOk k nm σ δ (.BinOp (.BinOp (.BinOp (.BinOp (.Constant (.str (Str.ofString "[")) k1 p1) .Add (.Name x p2) p3) .Add (.Constant (.str ms) k2 p4) p5) .Add (.Name x p6) p7) .Add (.Constant (.str (Str.ofString "]")) k3 p8) p9) (.ok (.str (txt (((([91] ++ l) ++ m) ++ l) ++ [93])))) δ := by
  have e91 : Str.ofString "[" = txt [91] := lit91
  have e93 : Str.ofString "]" = txt [93] := lit93
  subst hm
  refine EvOk.bin (EvOk.bin (EvOk.bin (EvOk.bin (by rw [← e91]; exact EvOk.str) (EvOk.name hx hdb) (cat_ok ?_)) EvOk.str (cat_ok ?_)) (EvOk.name hx hdb) (cat_ok ?_)) (by rw [← e93]; exact EvOk.str) (cat_ok ?_)
  all_goals
    simp only [List.length_cons, List.length_append, List.length_nil]
    omega

theorem key_a : KeyOk (Str.ofString "a") := ⟨by decide +kernel, by decide +kernel⟩

theorem law_run {δ : Draw} (g : δ.Good) {ns : List Int} : RunL (lw0 ns) δ ((bodyOf 154).drop 1) := by
  obtain ⟨v, l1, l2, δ1, hb, g1, G, x1⟩ := law_value g (ns := ns)
  have hp := pow3 (n := 3) (by decide)
  have hl2 := G.len
  have hl1 := G.len1
  obtain ⟨b1, b2, δ2, g2, hb1, hb2, k1, k2, x2⟩ := law_second g1 (ns := ns) (v := v) (l1 := l1) (l2 := l2) (by omega)
  have hg := G.good
  have e1 := G.one
  obtain ⟨t1, T1⟩ := tree_of false 3 v hg
  obtain ⟨t3, T3⟩ := tree_of true 3 v hg
  obtain ⟨t2, o2, v2, d2, tx2⟩ := G.two
  have v1 : t1.val = v := T1.val.trans (srt_false hg)
  have tx1 : t1.text = l1 := T1.text.trans e1.symm
  have hl3 := jtext_len (b := true) 3 v hg.jok
  have dep1 := T1.dep
  have dep3 := T3.dep
  have hne : l1 ≠ [] := by
    obtain ⟨c, s, e, _⟩ := JT.head T1.ok
    rw [← tx1, e]; exact fun q => nomatch q
  have hpos : 0 < l1.length := List.length_pos_iff.mpr hne
  let f2 := b1 ++ l2 ++ b2
  have hf2 : f2.length ≤ 100000 := by show (b1 ++ l2 ++ b2).length ≤ _; simp only [List.length_append]; omega
  have huf : ∀ c ∈ f2, uniD c := fun c hc => by
    have hc' : c ∈ b1 ++ l2 ++ b2 := hc
    rw [List.mem_append, List.mem_append] at hc'
    rcases hc' with (h | h) | h
    · exact hb1.uni c h
    · exact G.uni c h
    · exact hb2.uni c h
  have hf0 : f2 ≠ [] := by
    obtain ⟨c, s, e, _⟩ := JT.head o2
    intro q
    have q' : b1 ++ l2 ++ b2 = [] := q
    rw [← tx2, e] at q'
    simp at q'
  -- what json_value tells
  have c1 : ∀ δ, CallOk 20 92 [.str (txt l1)] δ (.ok v) δ := fun δ => by
    have := json_value_ok (k := 19) (δ := δ) (a := .str (txt l1)) (x := txt l1) (by rw [txt_len]; omega) (.inl rfl) (b1 := []) (b2 := []) (t := t1) (by rw [txt_cps, tx1]; simp) blk_nil blk_nil T1.ok (by omega)
    rwa [v1] at this
  have c2 : ∀ a δ, Told 19 a (txt f2) → CallOk 20 92 [a] δ (.ok v) δ := fun a δ ha => by
    have := json_value_ok (k := 19) (δ := δ) (a := a) (x := txt f2) (by rw [txt_len]; omega) ha (b1 := b1) (b2 := b2) (t := t2) (by rw [txt_cps, tx2]; show b1 ++ l2 ++ b2 = _; simp) hb1 hb2 o2 (by omega)
    rwa [v2] at this
  have c3 : ∀ δ, CallOk 20 92 [.str (txt (jtextN true 3 v))] δ (.ok (srt true 3 v)) δ := fun δ => by
    have := json_value_ok (k := 19) (δ := δ) (a := .str (txt (jtextN true 3 v))) (x := txt (jtextN true 3 v)) (by rw [txt_len]; omega) (.inl rfl) (b1 := []) (b2 := []) (t := t3) (by rw [txt_cps, T3.text]; simp) blk_nil blk_nil T3.ok (by omega)
    rwa [T3.val] at this
  have hsb : (srt true 3 v).big = true := by
    cases v <;> first | cases hb | skip
    all_goals unfold srt; rfl
  obtain ⟨cut, δ3, hcut, g3, x9⟩ := law_cut g2 (ns := ns) (v := v) (f1 := l1) (f2 := f2) (f3 := jtextN true 3 v) hpos (by omega)
  refine RunL.cons x1 (RunL.cons x2 ?_)
  have xt1 := law_test1 (δ := δ2) (ns := ns) (f2 := f2) hg
  rw [← e1] at xt1
  refine RunL.cons xt1 (RunL.cons (law_texts hg hb (c1 δ2) (c2 _ δ2 (.inl rfl)) (c2 _ δ2 (.inr ⟨_, rfl, FOk.decode huf hf0 (by omega)⟩)) huf (by omega)) (RunL.cons (law_ordered hg) (RunL.cons (law_test2 hg hb hsb (c3 δ2)) ?_)))
  -- what is not written
  refine RunL.notTwo (δ1 := δ2) (δ2 := δ2) (δ3 := δ2) (δ4 := δ2) gn_law_unwritten rfl fn_139 (v1 := .list [v, .idict [(7, v)]]) ?_ (unwritten_ok (k := 19) ((json_text_key (n := 3) (by decide) hg.jok).mono (by omega))) gn_law_unwritten rfl fn_139 (v2 := .dict [(Str.ofString "a", .bytes ([] : List UInt8).toArray)]) ?_ (unwritten_ok (k := 19) ((json_text_bytes key_a).mono (by omega))) ?_ (fun _ => rfl) (fun _ => rfl)
  · exact EvOk.list (EvLOk.cons (EvOk.name rfl) (EvLOk.cons (δ1 := δ2) (EvOk.dictI EvOk.int (EvOk.name rfl)) EvLOk.nil)) (by show 2 ≤ sizeLine; decide)
  · exact EvOk.dictS EvOk.str EvOk.bytes
  refine RunL.cons x9 ?_
  -- what is refused
  obtain ⟨r, δ4, hr, g4, hct⟩ := take_ok g3 (n := 4) (by decide)
  have hrl : r < tails.length := hr
  have hmem := List.getElem_mem hrl
  generalize htl : tails[r] = tl at hmem
  have hget : (tails.map fun b => AV.str (txt b))[((r : Nat) : Int).toNat]? = some (.str (txt tl)) := by simp [List.getElem?_eq_getElem hrl, htl]
  obtain ⟨nd, sp, tll⟩ := tails_ok tl hmem
  have cc : CallOk 19 92 [.str (subS (txt l1) 0 cut)] δ3 (.exc "ValueError") δ3 := by
    rw [subS_txt]
    refine (json_value_cut (k := 18) (δ := δ3) (x := txt (l1.take cut)) (t := t1) (m := l1.drop cut) (by rw [txt_len]; simp; omega) (by rw [txt_cps, tx1, List.take_append_drop]) (fun q => ?_) T1.ok T1.bare (T1.br hb) (by omega))
    have := congrArg List.length q
    simp at this
    omega
  have ce : CallOk 19 92 [.str (txt (l1 ++ tl))] δ4 (.exc "ValueError") δ4 :=
    json_value_extra (k := 18) (x := txt (l1 ++ tl)) (t := t1) (s := tl) (by rw [txt_len]; simp only [List.length_append]; omega) (by rw [txt_cps, tx1]) T1.ok nd sp (by omega)
  refine RunL.notTwo (δ1 := δ3) (δ2 := δ3) (δ3 := δ4) (δ4 := δ4) gn_law_refused rfl fn_132 (v1 := .str (subS (txt l1) 0 cut)) ?_ (refused_ok cc) gn_law_refused rfl fn_132 (v2 := .str (txt (l1 ++ tl))) ?_ (refused_ok ce) ?_ (fun _ => rfl) (fun _ => rfl)
  · exact EvOk.sliceTo (EvOk.name rfl) (EvOk.name (av := .int (cut : Int)) rfl) (by rw [txt_len, sizeLine_eq]; omega)
  · exact EvOk.bin (EvOk.name rfl) (EvOk.sub (b := .int (r : Int)) EvOk.tailList (EvOk.take rfl rfl EvOk.int hct) (GOk.list (by omega) (by omega) hget)) (cat_ok (by omega))
  -- the last line
  have cd : CallOk 19 92 [.str (txt (((([91] ++ l1) ++ [44, 44]) ++ l1) ++ [93]))] δ4 (.exc "ValueError") δ4 :=
    (json_value_double (k := 16) (δ := δ4) (x := txt (((([91] ++ l1) ++ [44, 44]) ++ l1) ++ [93])) (t := t1) (r := l1 ++ [93]) (by rw [txt_len]; simp only [List.length_append, List.length_cons, List.length_nil]; omega) (by rw [txt_cps, tx1]; simp) T1.ok (by omega))
  have cp : CallOk 20 92 [.str (txt (((([91] ++ l1) ++ [32, 44, 32]) ++ l1) ++ [93]))] δ4 (.ok (.list [v, v])) δ4 := by
    have bl : Blk [32] := fun c hc => by simp at hc; subst hc; rfl
    have := json_value_ok (k := 19) (δ := δ4) (a := .str (txt (((([91] ++ l1) ++ [32, 44, 32]) ++ l1) ++ [93]))) (x := txt (((([91] ++ l1) ++ [32, 44, 32]) ++ l1) ++ [93])) (by rw [txt_len]; simp only [List.length_append, List.length_cons, List.length_nil]; omega) (.inl rfl) (b1 := []) (b2 := [])
      (t := .list [] (.cons [] t1 [32] (.cons [32] t1 [] .nil))) (by rw [txt_cps]; simp [JT.text, JL.open, JL.rest, tx1]) blk_nil blk_nil ⟨blk_nil, blk_nil, T1.ok, bl, bl, T1.ok, blk_nil, trivial⟩ (by simp only [JT.dep, JL.dep]; omega)
    have ev : (JT.list [] (.cons [] t1 [32] (.cons [32] t1 [] .nil))).val = .list [v, v] := by simp [JT.val, JL.vals, v1]
    rwa [ev] at this
  have s2 : Str.ofString ",," = txt [44, 44] := by decide +kernel
  have s3 : Str.ofString " , " = txt [32, 44, 32] := by decide +kernel
  refine RunL.retAnd (δ1 := δ4) (δ2 := δ4) (δ3 := δ4) gn_law_refused rfl fn_132 (EvOk.twice (l := l1) rfl s2 (by omega) (by decide) (by decide)) (refused_ok cd) ?_ (fun _ => rfl)
  exact EvOk.cmp (EvOk.call gn_json_value rfl fn_92 (EvLOk.cons (δ1 := δ4) (EvOk.twice (l := l1) rfl s3 (by omega) (by decide) (by decide)) EvLOk.nil) cp) (EvOk.list (EvLOk.cons (EvOk.name rfl) (EvLOk.cons (EvOk.name rfl) EvLOk.nil)) (by show 2 ≤ sizeLine; decide)) (POk.eqN (eq_pair hg) rfl (by decide)) rfl
end Mine

namespace Mine
set_option maxRecDepth 100000

/-! ## law entered; the draw made -/
noncomputable def FCx.drawn (F : FCx) (d c : Addr) : FCx := { F with C := { F.C with D := some (d, c), H := d :: c :: F.C.H } }

theorem FCx.Ok.drawn {F : FCx} {k nm} (K : F.Ok k nm) (d c : Addr) : (F.drawn d c).Ok k nm where
  c := { room := K.c.room, fr := K.c.fr, ff := K.c.ff, ef := K.c.ef, kind := K.c.kind, names := K.c.names, gl := K.c.gl, bl := K.c.bl
         dsub := fun a ha => by
          have ha' : a ∈ [d, c] := ha
          show a ∈ d :: c :: F.C.H
          simp at ha' ⊢
          exact ha'.elim .inl fun h => .inr (.inl h) }
  ee := K.ee
  loc := K.loc
  h0n := K.h0n
  cells := K.cells
  gl0 := K.gl0
  base0 := K.base0
  ff0 := K.ff0
  lfH := List.mem_cons_of_mem _ (List.mem_cons_of_mem _ K.lfH)
  szL := K.szL

theorem StSt.drawn {F : FCx} {δ δ' : Draw} {s s' : Shared} {ns : List Int} {k nm} {d c : Addr} (K : F.Ok k nm) (hD : F.C.D = none) (S : StSt F [] [("script", .val (.raw ns))] δ s) (same : Same s s') (st : (V none s.heap).StaysIn (V none s'.heap)) (hd : s.heap.objs.size ≤ d) (hc : s.heap.objs.size ≤ c)
    (hd' : d < s'.heap.objs.size) (hc' : c < s'.heap.objs.size) (sz : s.heap.objs.size ≤ s'.heap.objs.size) (dr : DrawAt F.C.w (some (d, c)) s'.heap δ') : StSt (F.drawn d c) [] [("script", .val (.raw ns))] δ' s' := by
  have big := gl_big (S.gl K)
  have toV : ∀ b o, s.heap.get? b = some o → s'.heap.get? b = some o := fun b o e => v_get (st b o (get_v e (by simp [Dl])))
  have nin : ∀ b o, s.heap.get? b = some o → b ∉ [d, c] := fun b o e q => by
    have h1 := Heap.lt_size e
    simp at q
    rcases q with rfl | rfl
    · exact Nat.lt_irrefl _ (Nat.lt_of_lt_of_le h1 hd)
    · exact Nat.lt_irrefl _ (Nat.lt_of_lt_of_le h1 hc)
  have toF : ∀ b o, (F.C.v s).get? b = some o → ((F.drawn d c).C.v s').get? b = some o := fun b o e => get_v (toV b o (v_get e)) (nin b o (v_get e))
  refine ⟨S.same.trans same, dr, fun b o e => toF b o (S.h0 b o e), fun a ha => ?_, fun x c' e => Nat.lt_of_lt_of_le (S.cel x c' e) sz, (fun _ h => nomatch h), ?_⟩
  · have ha' : a ∈ d :: c :: F.C.H := ha
    simp at ha'
    rcases ha' with rfl | rfl | h
    · exact ⟨Nat.lt_of_lt_of_le big hd, hd'⟩
    · exact ⟨Nat.lt_of_lt_of_le big hc, hc'⟩
    · exact ⟨(S.hid a h).1, Nat.lt_of_lt_of_le (S.hid a h).2 sz⟩
  · obtain ⟨m, ⟨o, es, ep, ho, r⟩, hl, hi⟩ := S.nml
    refine ⟨m, ⟨o, es, ep, toF _ _ ho, r⟩, fun x lv e => ?_, hi⟩
    have h := hl x lv e
    have hlv : lv = .val (.raw ns) := by
      simp only [List.lookup_cons] at e
      split at e
      · cases e; rfl
      · cases e
    subst hlv
    obtain ⟨v, hv, hr⟩ := h
    refine ⟨v, hv.imp id fun ⟨hk', c', hc, o, ho', hd⟩ => ⟨hk', c', hc, o, toF _ _ ho', hd⟩, ?_⟩
    cases hr with
    | raw h1 h2 h3 =>
      obtain ⟨o, g, r⟩ := h1
      refine .raw ⟨o, toV _ _ g, r⟩ (fun q => ?_) h3
      have q' : _ ∈ (d :: c :: F.C.H) ++ [] := q
      simp at q' h2
      have h1 := Heap.lt_size g
      rcases q' with rfl | rfl | q'
      · exact Nat.lt_irrefl _ (Nat.lt_of_lt_of_le h1 hd)
      · exact Nat.lt_irrefl _ (Nat.lt_of_lt_of_le h1 hc)
      · exact h2 q'

theorem law_called {w : World} {A : Around} {s : Shared} {val : Value} {ns : List Int} {R : Result → Shared → Prop} (room : Room 21 A) (fr : A.frames = some []) (gl : Gl w (V none s.heap)) (rd : Rd w none s.heap [] val (.raw ns)) (hl : ns.length ≤ 1000)
    (hok : ∀ s', Same s s' → s.heap.StaysIn s'.heap → R (.ok (.ret (.bool true))) s') : codeAny (MM w) A (.call (.ref 154) ⟨[val], []⟩) R s := by
  let δ : Draw := ⟨[], 0, 0⟩
  refine enter_plain (k := 20) (δ := δ) (D := none) (H := []) (base := V none s.heap) (outer := []) (args := [.raw ns]) def_154 (by decide) (by decide) rfl (fun s vals hv => ?_) room fr gl (stays_refl _) trivial (fun _ _ e => nomatch e) (fun _ q => nomatch q) (fun _ q => nomatch q) (.cons rd .nil) fun env s1 K S z1 k1 hc => ?_
  · match vals, hv with
    | [a], _ => exact BindsTo.of_eq rfl
  generalize hF : FCx.of w none A (V none s.heap) [] s [] env = F at K S
  have eh0 : F.h0 = V none s.heap := by rw [← hF]; rfl
  have es0 : F.s0 = s := by rw [← hF]; rfl
  have eD : F.C.D = none := by rw [← hF]; rfl
  have ew : F.C.w = w := by rw [← hF]; rfl
  have eA : F.C.A = A.deeper env := by rw [← hF]; rfl
  have eE : F.C.env = env := by rw [← hF]; rfl
  have eo : F.C.outer = [] := by rw [← hF]; rfl
  clear hF
  subst ew
  rw [← eA, ← eE]
  have hal : EvLOk 20 nm154 (peek [("script", .val (.raw ns))]) δ [.Name "script" (match stAt (bodyOf 154) 0 with | .Assign _ (.Call _ (e :: _) _ _) _ => e.pos | _ => default)] (.ok [.raw ns]) δ := EvLOk.cons (EvOk.name rfl) EvLOk.nil
  refine wpAny_execs_cons (wpAny_Assign_Name (wpAny_Call_ofName (gname_eval (S.gl K) v_stays_real gn_law_draw K.c.kind K.c.gl ((K.c.kindOf _).trans rfl) ?_)) rfl)
  obtain ⟨o, fd, hof, hfd⟩ := fn_97 F.C.w
  refine callWith_function (o := o) (fd := fd) (evalArgs_sp (by rw [any_backTo]; exact hal.plain _) ?_)
  refine hal.run F.C s1 _ _ _ K.c (S.evPeek K) (fun vals avs s2 e2 a2 r2 => ?_) fun e X s1 e1 _ => nomatch e1
  cases e2
  have S2 := S.aft' K a2
  refine ⟨⟨v_get ((S2.gl K).1 _ _ hof), hfd⟩, wpAny_call ?_⟩
  obtain ⟨m, hn, _⟩ := S2.nml
  have hff := S2.ff K
  rw [eo] at hff
  obtain ⟨g1, ⟨L', oL, hL', hb, hoL, hnf⟩, g3⟩ := hff
  have eL : L' = F.C.Lf := Option.some.inj (hL'.symm.trans K.c.ff)
  subst eL
  have hr2 := r2
  rw [eD] at hr2
  have hbs : (F.rest s2).StaysIn (V none s2.heap) := fun b o e => by
    have h := (rest_get e).1
    rw [Cx.v, eD] at h
    exact h
  have bs2 : (V F.C.D s2.heap) = V none s2.heap := by rw [eD]
  have gl2 : Gl F.C.w (V none s2.heap) := by
    have h := S2.gl K
    rw [Cx.v, eD] at h
    exact h
  have g1' : (V none s2.heap).FunFrames (F.rest s2) [F.C.fenv] := by
    have e : F.C.v s2 = V none s2.heap := by rw [Cx.v, eD]
    rw [← e]
    exact ⟨g1, ⟨_, oL, hL', hideAll_none _ (by simp), hoL, hnf⟩, trivial⟩
  obtain ⟨v1, vs1, rfl, hv1⟩ : ∃ v1 vs1, vals = v1 :: vs1 ∧ vs1 = [] := by
    cases r2 with | cons h1 h2 => cases h2; exact ⟨_, _, rfl, rfl⟩
  subst hv1
  refine draw_call (w := F.C.w) (base := F.rest s2) (outer := [F.C.fenv]) (H := F.C.H) (ns := ns) (K.c.room.mono (by omega)) (by rw [K.c.fr, eo]) gl2 hbs g1' S2.hid hr2 hl fun d c its t1 t2 sd s3 sm st hne hd hc' hl3 hp3 hr3 hsd sz => ?_
  let δ3 : Draw := ⟨(ns.map fun a => (a.natAbs : Int)).take 60, sd, 6⟩
  have g3' : δ3.Good := ⟨fun x hx => by
      obtain ⟨a, _, rfl⟩ := List.mem_map.mp (List.mem_of_mem_take hx)
      omega, by show (List.take 60 _).length ≤ 60; rw [List.length_take]; omega, hsd⟩
  have hdl : d < s3.heap.objs.size := let ⟨_, e, _⟩ := hl3; Heap.lt_size e
  have hcl : c < s3.heap.objs.size := let ⟨_, _, e, _⟩ := hp3; Heap.lt_size e
  have dr : DrawAt F.C.w (some (d, c)) s3.heap δ3 := fun d' c' e => by
    cases e
    exact ⟨hne, t1, t2, its, hl3, hp3, hr3⟩
  have S3 : StSt (F.drawn d c) [] [("script", .val (.raw ns))] δ3 s3 := S2.drawn K eD sm st hd hc' hdl hcl sz dr
  have K3 := K.drawn d c
  refine store_name (F := F.drawn d c) K3 S3 (lv := .val .draw) rfl (fun m hm => ⟨_, .inl ⟨(K.c.kindOf _).trans rfl, hm⟩, .draw rfl⟩) (fun h => nomatch h) fun s4 S4 _ _ => ?_
  refine (law_run g3' (ns := ns)).run (F.drawn d c) [] s4 _ _ K3 eo S4 fun s5 same5 st5 => ?_
  have same5' : Same s s5 := by rw [← es0]; exact same5
  refine hok s5 same5' fun b o e => ?_
  refine v_get (D := some (d, c)) (st5 b o ?_)
  show F.h0.get? b = some o
  rw [eh0]
  exact get_v e (by simp [Dl])
end Mine

namespace Mine
theorem callerRoom : Room 21 callerA := ⟨rfl, rfl, by show 1 + 300 + 21 < 900; decide, by show 4 + 20 * 21 < 9000; decide⟩
theorem gl_top {w : World} {h : Heap} {mean mg mb} (KX : (hd.heap_39 w.params).In h) (T : Top hd.view_39 lo mean mg mb h) : Gl w (V none h) := ⟨KX, _, _, _, T⟩
theorem fa_law {w : World} {h : Heap} {mean mg mb} {fa : Addr} (KX : (hd.heap_39 w.params).In h) (T : Top hd.view_39 lo mean mg mb h) (hm : mg (Str.ofString "law") = some (.ref fa)) : fa = 154 := by
  have h1 := mg_of KX T.g (gn_law.1 w)
  rw [h1] at hm
  injection hm with hm
  injection hm with hm
  exact hm.symm
theorem law_end {w : World} {s : Shared} {mean mg mb} {l : Addr} {vs : List Value} {ns : List Int} (KX : (hd.heap_39 w.params).In s.heap) (T : Top hd.view_39 lo mean mg mb s.heap) (hL : s.heap.IsList l vs.toArray) (hI : IntsAre vs ns) (hn : ns.length ≤ 1000) :
    codeAny (MM w) callerA (.call (.ref 154) ⟨[.ref l], []⟩) (fun r s' => r = .ok (.ret (.bool true)) ∧ Same s s' ∧ s.heap.StaysIn s'.heap) s :=
  law_called (w := w) callerRoom rfl (gl_top KX T) (Rd.raw hL (fun q => nomatch q) (by simpa using hI)) hn fun s' sm st => ⟨rfl, sm, st⟩
theorem prog_eq : PySem.Challenge.rw_ft5038_01.row.prog = pw := rfl
theorem law_row {w : World} {s : Shared} {mean mg mb} {l : Addr} {vs : List Value} {ns : List Int} (KX : (hd.heap_39 w.params).In s.heap) (T : Top hd.view_39 lo mean mg mb s.heap) (hL : s.heap.IsList l vs.toArray) (hI : IntsAre vs ns) (hn : ¬ ((63 : Int) < (ns.length : Int))) :
    codeAny (model PySem.Challenge.rw_ft5038_01.row.prog w) callerA (.call (.ref 154) ⟨[.ref l], []⟩) (fun r s' => r = .ok (.ret (.bool true)) ∧ Same s s' ∧ s.heap.StaysIn s'.heap) s := by
  rw [prog_eq]
  exact law_end KX T hL hI (by omega)
end Mine

open PySem.Challenge
set_option maxRecDepth 100000 in
set_option maxHeartbeats 8000000 in
theorem PySem.Challenge.cw_ft5038_01_holds : PySem.Challenge.rw_ft5038_01.Holds :=
  Mine.hd (by
  k_fill
  intro w s₀ s₁ mg mb G Y fa o pm cd doc dV kV ho hd hcd hD hmg hg args vals as hpre hlay hrd hwl hlo
  have KX := kIn_of Y
  refine Ground.open G ?_
  intro T B D TE TW
  have fa154 : fa = 154 := Mine.fa_law KX T hmg
  subst fa154
  clear ho hd hcd hD hmg
  wrow_args hpre hlay hrd hwl hlo
  refine enter_call ?_
  refine codeAny_mono ?_ (fun _ _ g => GoodW.toG g)
  refine codeAny_mono (Mine.law_row KX T (by assumption) (by assumption) (by assumption)) ?_
  rintro r s' ⟨rfl, sm, st⟩
  refine ⟨.inl ⟨.bool true, .bool true, [], rfl, raisesW_false ?_, ReadsW.bool true, ?_, unshared_nil⟩, st, sm.2.2, sm.1.trans hg⟩
  · wrow_none_raised
  · wrow_post)
